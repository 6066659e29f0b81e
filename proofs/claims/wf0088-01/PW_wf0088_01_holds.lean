import PyProof.Rows.All
import Wide.All
import OpenK.AllK
import Wide.FinOn
import PySem.Challenge.RW_wf0088_01
set_option Elab.async false
set_option compiler.extract_closed false
section
open PySem PySem.W PyProof.Rows
set_option maxRecDepth 100000
set_option maxHeartbeats 8000000
namespace Mine
/-! The written part of the state (hd.heap_1) and the view (hd.view_1): k_head lays both in its first steps. Here it is ended at once behind them (by a premise that is no fact), as the contracts below need their names alone; the head itself is proved in law_x. -/
section
local macro_rules | `(tactic| refine $_) => `(tactic| exact False.elim (by assumption))
theorem hd (no : False) : PySem.Challenge.rw_wf0088_01.row.Holds := by
  k_head
end
end Mine
end
section
open PySem PySem.W PyProof.Rows PySem.Spec PySem.Calls
set_option maxRecDepth 100000
set_option maxHeartbeats 8000000
namespace Mine
theorem offMQ : True := by
  w_top off
  trivial
theorem has_world : Nonempty World := ⟨aWorld 1⟩
theorem has_around : Nonempty Around := ⟨{}⟩
theorem has_shared : Nonempty Shared := ⟨{}⟩
theorem has_heap : Nonempty Heap := ⟨{}⟩
theorem has_nat : Nonempty Nat := ⟨0⟩
theorem has_int : Nonempty Int := ⟨0⟩
theorem has_bool : Nonempty Bool := ⟨true⟩
theorem has_str : Nonempty Str := ⟨Str.empty⟩
theorem has_prop : Nonempty Prop := ⟨True⟩
theorem has_expr : Nonempty Expr := ⟨.Name Str.empty ⟨0, 0, 0, 0⟩⟩
theorem has_scope : Nonempty Scope := ⟨⟨.function, [], false, false, []⟩⟩
theorem has_pos : Nonempty Pos := ⟨⟨0, 0, 0, 0⟩⟩
theorem has_env : Nonempty Env := ⟨⟨⟨.function, [], false, false, []⟩, 0, 0, [], Str.empty, none, .none, none, 0⟩⟩
theorem has_prog : Nonempty Program := ⟨PySem.Challenge.pw_wf0088_01⟩
theorem has_obj : Nonempty Obj := ⟨{ cls := .none, data := .seq #[] 0 }⟩
theorem has_array {α : Type} : Nonempty (Array α) := ⟨#[]⟩
theorem has_val : Nonempty Value := ⟨.none⟩
theorem has_list {α : Type} : Nonempty (List α) := ⟨[]⟩
theorem has_opt {α : Type} : Nonempty (Option α) := ⟨none⟩
theorem has_fun {α β : Type} (h : Nonempty β) : Nonempty (α → β) := h.elim fun b => ⟨fun _ => b⟩
theorem has_pair {α β : Type} (h : Nonempty α) (k : Nonempty β) : Nonempty (α × β) := h.elim fun a => k.elim fun b => ⟨(a, b)⟩
theorem dp_ok {dp D d : Nat} (h : dp + D < recursionLimit) (k : Nat.ble d D = true) : dp + d < recursionLimit := Nat.lt_of_le_of_lt (Nat.add_le_add_left (Nat.le_of_ble_eq_true k) dp) h
theorem un_ok {un D d : Nat} (h : un + 10 * D < cLine) (k : Nat.ble d D = true) : un + 10 * d < cLine := Nat.lt_of_le_of_lt (Nat.add_le_add_left (Nat.mul_le_mul_left 10 (Nat.le_of_ble_eq_true k)) un) h
theorem lt_room {a b c m : Nat} (h : a + c < m) (k : Nat.ble b c = true) : a + b < m := Nat.lt_of_le_of_lt (Nat.add_le_add_left (Nat.le_of_ble_eq_true k) a) h
theorem lt_room0 {a c m : Nat} (h : a + c < m) : a < m := Nat.lt_of_le_of_lt (Nat.le_add_right a c) h
/-- what a body's proof is about -/
structure Cx where
  mean : ExcName → Option Value
  mg : Str → Option Value
  mb : Str → Option Value
  dp : Nat
  un : Nat
  gd : Option (List Code)
  outer : List Env
  A₀ : Around
  base : Heap
  g : Heap
  L' : Addr
  s : Shared
theorem has_cx : Nonempty Cx := ⟨⟨fun _ => none, fun _ => none, fun _ => none, 0, 0, none, [], {}, {}, {}, 0, {}⟩⟩
section
variable {Ψ : (ExcName → Option Value) → (Str → Option Value) → (Str → Option Value) → Nat → Nat → Option (List Code) → List Env → Around → Heap → Heap → Addr → Shared → Prop}
noncomputable def cx (Ψ : (ExcName → Option Value) → (Str → Option Value) → (Str → Option Value) → Nat → Nat → Option (List Code) → List Env → Around → Heap → Heap → Addr → Shared → Prop) : Cx :=
  @Classical.epsilon Cx has_cx fun c => ¬ Ψ c.mean c.mg c.mb c.dp c.un c.gd c.outer c.A₀ c.base c.g c.L' c.s
theorem henkC (k : let mean := (cx Ψ).mean; let mg := (cx Ψ).mg; let mb := (cx Ψ).mb; let dp := (cx Ψ).dp; let un := (cx Ψ).un; let gd := (cx Ψ).gd; let outer := (cx Ψ).outer; let A₀ := (cx Ψ).A₀; let base := (cx Ψ).base; let g := (cx Ψ).g; let L' := (cx Ψ).L'; let s := (cx Ψ).s; Ψ mean mg mb dp un gd outer A₀ base g L' s) :
    ∀ mean mg mb dp un gd outer A₀ base g L' s, Ψ mean mg mb dp un gd outer A₀ base g L' s := fun mean mg mb dp un gd outer A₀ base g L' s =>
  Classical.byContradiction fun h => @Classical.epsilon_spec_aux Cx has_cx (fun c => ¬ Ψ c.mean c.mg c.mb c.dp c.un c.gd c.outer c.A₀ c.base c.g c.L' c.s) ⟨⟨mean, mg, mb, dp, un, gd, outer, A₀, base, g, L', s⟩, h⟩ k
end
noncomputable def ep4 {α0 α1 α2 α3 : Type} (ne : Nonempty (α0 × α1 × α2 × α3)) (Ψ : α0 → α1 → α2 → α3 → Prop) : α0 × α1 × α2 × α3 := @Classical.epsilon _ ne fun c => ¬ Ψ c.1 c.2.1 c.2.2.1 c.2.2.2
theorem henk4 {α0 α1 α2 α3 : Type} {Ψ : α0 → α1 → α2 → α3 → Prop} (ne : Nonempty (α0 × α1 × α2 × α3)) (k : let x0 := (ep4 ne Ψ).1; let x1 := (ep4 ne Ψ).2.1; let x2 := (ep4 ne Ψ).2.2.1; let x3 := (ep4 ne Ψ).2.2.2; Ψ x0 x1 x2 x3) : ∀ x0 x1 x2 x3, Ψ x0 x1 x2 x3 := fun x0 x1 x2 x3 =>
  Classical.byContradiction fun h => @Classical.epsilon_spec_aux _ ne (fun c => ¬ Ψ c.1 c.2.1 c.2.2.1 c.2.2.2) ⟨(x0, x1, x2, x3), h⟩ k
noncomputable def ep5 {α0 α1 α2 α3 α4 : Type} (ne : Nonempty (α0 × α1 × α2 × α3 × α4)) (Ψ : α0 → α1 → α2 → α3 → α4 → Prop) : α0 × α1 × α2 × α3 × α4 := @Classical.epsilon _ ne fun c => ¬ Ψ c.1 c.2.1 c.2.2.1 c.2.2.2.1 c.2.2.2.2
theorem henk5 {α0 α1 α2 α3 α4 : Type} {Ψ : α0 → α1 → α2 → α3 → α4 → Prop} (ne : Nonempty (α0 × α1 × α2 × α3 × α4)) (k : let x0 := (ep5 ne Ψ).1; let x1 := (ep5 ne Ψ).2.1; let x2 := (ep5 ne Ψ).2.2.1; let x3 := (ep5 ne Ψ).2.2.2.1; let x4 := (ep5 ne Ψ).2.2.2.2; Ψ x0 x1 x2 x3 x4) : ∀ x0 x1 x2 x3 x4, Ψ x0 x1 x2 x3 x4 := fun x0 x1 x2 x3 x4 =>
  Classical.byContradiction fun h => @Classical.epsilon_spec_aux _ ne (fun c => ¬ Ψ c.1 c.2.1 c.2.2.1 c.2.2.2.1 c.2.2.2.2) ⟨(x0, x1, x2, x3, x4), h⟩ k
noncomputable def ep6 {α0 α1 α2 α3 α4 α5 : Type} (ne : Nonempty (α0 × α1 × α2 × α3 × α4 × α5)) (Ψ : α0 → α1 → α2 → α3 → α4 → α5 → Prop) : α0 × α1 × α2 × α3 × α4 × α5 := @Classical.epsilon _ ne fun c => ¬ Ψ c.1 c.2.1 c.2.2.1 c.2.2.2.1 c.2.2.2.2.1 c.2.2.2.2.2
theorem henk6 {α0 α1 α2 α3 α4 α5 : Type} {Ψ : α0 → α1 → α2 → α3 → α4 → α5 → Prop} (ne : Nonempty (α0 × α1 × α2 × α3 × α4 × α5)) (k : let x0 := (ep6 ne Ψ).1; let x1 := (ep6 ne Ψ).2.1; let x2 := (ep6 ne Ψ).2.2.1; let x3 := (ep6 ne Ψ).2.2.2.1; let x4 := (ep6 ne Ψ).2.2.2.2.1; let x5 := (ep6 ne Ψ).2.2.2.2.2; Ψ x0 x1 x2 x3 x4 x5) : ∀ x0 x1 x2 x3 x4 x5, Ψ x0 x1 x2 x3 x4 x5 := fun x0 x1 x2 x3 x4 x5 =>
  Classical.byContradiction fun h => @Classical.epsilon_spec_aux _ ne (fun c => ¬ Ψ c.1 c.2.1 c.2.2.1 c.2.2.2.1 c.2.2.2.2.1 c.2.2.2.2.2) ⟨(x0, x1, x2, x3, x4, x5), h⟩ k
noncomputable def ep11 {α0 α1 α2 α3 α4 α5 α6 α7 α8 α9 α10 : Type} (ne : Nonempty (α0 × α1 × α2 × α3 × α4 × α5 × α6 × α7 × α8 × α9 × α10)) (Ψ : α0 → α1 → α2 → α3 → α4 → α5 → α6 → α7 → α8 → α9 → α10 → Prop) : α0 × α1 × α2 × α3 × α4 × α5 × α6 × α7 × α8 × α9 × α10 := @Classical.epsilon _ ne fun c => ¬ Ψ c.1 c.2.1 c.2.2.1 c.2.2.2.1 c.2.2.2.2.1 c.2.2.2.2.2.1 c.2.2.2.2.2.2.1 c.2.2.2.2.2.2.2.1 c.2.2.2.2.2.2.2.2.1 c.2.2.2.2.2.2.2.2.2.1 c.2.2.2.2.2.2.2.2.2.2
theorem henk11 {α0 α1 α2 α3 α4 α5 α6 α7 α8 α9 α10 : Type} {Ψ : α0 → α1 → α2 → α3 → α4 → α5 → α6 → α7 → α8 → α9 → α10 → Prop} (ne : Nonempty (α0 × α1 × α2 × α3 × α4 × α5 × α6 × α7 × α8 × α9 × α10)) (k : let x0 := (ep11 ne Ψ).1; let x1 := (ep11 ne Ψ).2.1; let x2 := (ep11 ne Ψ).2.2.1; let x3 := (ep11 ne Ψ).2.2.2.1; let x4 := (ep11 ne Ψ).2.2.2.2.1; let x5 := (ep11 ne Ψ).2.2.2.2.2.1; let x6 := (ep11 ne Ψ).2.2.2.2.2.2.1; let x7 := (ep11 ne Ψ).2.2.2.2.2.2.2.1; let x8 := (ep11 ne Ψ).2.2.2.2.2.2.2.2.1; let x9 := (ep11 ne Ψ).2.2.2.2.2.2.2.2.2.1; let x10 := (ep11 ne Ψ).2.2.2.2.2.2.2.2.2.2; Ψ x0 x1 x2 x3 x4 x5 x6 x7 x8 x9 x10) : ∀ x0 x1 x2 x3 x4 x5 x6 x7 x8 x9 x10, Ψ x0 x1 x2 x3 x4 x5 x6 x7 x8 x9 x10 := fun x0 x1 x2 x3 x4 x5 x6 x7 x8 x9 x10 =>
  Classical.byContradiction fun h => @Classical.epsilon_spec_aux _ ne (fun c => ¬ Ψ c.1 c.2.1 c.2.2.1 c.2.2.2.1 c.2.2.2.2.1 c.2.2.2.2.2.1 c.2.2.2.2.2.2.1 c.2.2.2.2.2.2.2.1 c.2.2.2.2.2.2.2.2.1 c.2.2.2.2.2.2.2.2.2.1 c.2.2.2.2.2.2.2.2.2.2) ⟨(x0, x1, x2, x3, x4, x5, x6, x7, x8, x9, x10), h⟩ k
noncomputable def ep13 {α0 α1 α2 α3 α4 α5 α6 α7 α8 α9 α10 α11 α12 : Type} (ne : Nonempty (α0 × α1 × α2 × α3 × α4 × α5 × α6 × α7 × α8 × α9 × α10 × α11 × α12)) (Ψ : α0 → α1 → α2 → α3 → α4 → α5 → α6 → α7 → α8 → α9 → α10 → α11 → α12 → Prop) : α0 × α1 × α2 × α3 × α4 × α5 × α6 × α7 × α8 × α9 × α10 × α11 × α12 := @Classical.epsilon _ ne fun c => ¬ Ψ c.1 c.2.1 c.2.2.1 c.2.2.2.1 c.2.2.2.2.1 c.2.2.2.2.2.1 c.2.2.2.2.2.2.1 c.2.2.2.2.2.2.2.1 c.2.2.2.2.2.2.2.2.1 c.2.2.2.2.2.2.2.2.2.1 c.2.2.2.2.2.2.2.2.2.2.1 c.2.2.2.2.2.2.2.2.2.2.2.1 c.2.2.2.2.2.2.2.2.2.2.2.2
theorem henk13 {α0 α1 α2 α3 α4 α5 α6 α7 α8 α9 α10 α11 α12 : Type} {Ψ : α0 → α1 → α2 → α3 → α4 → α5 → α6 → α7 → α8 → α9 → α10 → α11 → α12 → Prop} (ne : Nonempty (α0 × α1 × α2 × α3 × α4 × α5 × α6 × α7 × α8 × α9 × α10 × α11 × α12)) (k : let x0 := (ep13 ne Ψ).1; let x1 := (ep13 ne Ψ).2.1; let x2 := (ep13 ne Ψ).2.2.1; let x3 := (ep13 ne Ψ).2.2.2.1; let x4 := (ep13 ne Ψ).2.2.2.2.1; let x5 := (ep13 ne Ψ).2.2.2.2.2.1; let x6 := (ep13 ne Ψ).2.2.2.2.2.2.1; let x7 := (ep13 ne Ψ).2.2.2.2.2.2.2.1; let x8 := (ep13 ne Ψ).2.2.2.2.2.2.2.2.1; let x9 := (ep13 ne Ψ).2.2.2.2.2.2.2.2.2.1; let x10 := (ep13 ne Ψ).2.2.2.2.2.2.2.2.2.2.1; let x11 := (ep13 ne Ψ).2.2.2.2.2.2.2.2.2.2.2.1; let x12 := (ep13 ne Ψ).2.2.2.2.2.2.2.2.2.2.2.2; Ψ x0 x1 x2 x3 x4 x5 x6 x7 x8 x9 x10 x11 x12) : ∀ x0 x1 x2 x3 x4 x5 x6 x7 x8 x9 x10 x11 x12, Ψ x0 x1 x2 x3 x4 x5 x6 x7 x8 x9 x10 x11 x12 := fun x0 x1 x2 x3 x4 x5 x6 x7 x8 x9 x10 x11 x12 =>
  Classical.byContradiction fun h => @Classical.epsilon_spec_aux _ ne (fun c => ¬ Ψ c.1 c.2.1 c.2.2.1 c.2.2.2.1 c.2.2.2.2.1 c.2.2.2.2.2.1 c.2.2.2.2.2.2.1 c.2.2.2.2.2.2.2.1 c.2.2.2.2.2.2.2.2.1 c.2.2.2.2.2.2.2.2.2.1 c.2.2.2.2.2.2.2.2.2.2.1 c.2.2.2.2.2.2.2.2.2.2.2.1 c.2.2.2.2.2.2.2.2.2.2.2.2) ⟨(x0, x1, x2, x3, x4, x5, x6, x7, x8, x9, x10, x11, x12), h⟩ k
noncomputable def ep14 {α0 α1 α2 α3 α4 α5 α6 α7 α8 α9 α10 α11 α12 α13 : Type} (ne : Nonempty (α0 × α1 × α2 × α3 × α4 × α5 × α6 × α7 × α8 × α9 × α10 × α11 × α12 × α13)) (Ψ : α0 → α1 → α2 → α3 → α4 → α5 → α6 → α7 → α8 → α9 → α10 → α11 → α12 → α13 → Prop) : α0 × α1 × α2 × α3 × α4 × α5 × α6 × α7 × α8 × α9 × α10 × α11 × α12 × α13 := @Classical.epsilon _ ne fun c => ¬ Ψ c.1 c.2.1 c.2.2.1 c.2.2.2.1 c.2.2.2.2.1 c.2.2.2.2.2.1 c.2.2.2.2.2.2.1 c.2.2.2.2.2.2.2.1 c.2.2.2.2.2.2.2.2.1 c.2.2.2.2.2.2.2.2.2.1 c.2.2.2.2.2.2.2.2.2.2.1 c.2.2.2.2.2.2.2.2.2.2.2.1 c.2.2.2.2.2.2.2.2.2.2.2.2.1 c.2.2.2.2.2.2.2.2.2.2.2.2.2
theorem henk14 {α0 α1 α2 α3 α4 α5 α6 α7 α8 α9 α10 α11 α12 α13 : Type} {Ψ : α0 → α1 → α2 → α3 → α4 → α5 → α6 → α7 → α8 → α9 → α10 → α11 → α12 → α13 → Prop} (ne : Nonempty (α0 × α1 × α2 × α3 × α4 × α5 × α6 × α7 × α8 × α9 × α10 × α11 × α12 × α13)) (k : let x0 := (ep14 ne Ψ).1; let x1 := (ep14 ne Ψ).2.1; let x2 := (ep14 ne Ψ).2.2.1; let x3 := (ep14 ne Ψ).2.2.2.1; let x4 := (ep14 ne Ψ).2.2.2.2.1; let x5 := (ep14 ne Ψ).2.2.2.2.2.1; let x6 := (ep14 ne Ψ).2.2.2.2.2.2.1; let x7 := (ep14 ne Ψ).2.2.2.2.2.2.2.1; let x8 := (ep14 ne Ψ).2.2.2.2.2.2.2.2.1; let x9 := (ep14 ne Ψ).2.2.2.2.2.2.2.2.2.1; let x10 := (ep14 ne Ψ).2.2.2.2.2.2.2.2.2.2.1; let x11 := (ep14 ne Ψ).2.2.2.2.2.2.2.2.2.2.2.1; let x12 := (ep14 ne Ψ).2.2.2.2.2.2.2.2.2.2.2.2.1; let x13 := (ep14 ne Ψ).2.2.2.2.2.2.2.2.2.2.2.2.2; Ψ x0 x1 x2 x3 x4 x5 x6 x7 x8 x9 x10 x11 x12 x13) : ∀ x0 x1 x2 x3 x4 x5 x6 x7 x8 x9 x10 x11 x12 x13, Ψ x0 x1 x2 x3 x4 x5 x6 x7 x8 x9 x10 x11 x12 x13 := fun x0 x1 x2 x3 x4 x5 x6 x7 x8 x9 x10 x11 x12 x13 =>
  Classical.byContradiction fun h => @Classical.epsilon_spec_aux _ ne (fun c => ¬ Ψ c.1 c.2.1 c.2.2.1 c.2.2.2.1 c.2.2.2.2.1 c.2.2.2.2.2.1 c.2.2.2.2.2.2.1 c.2.2.2.2.2.2.2.1 c.2.2.2.2.2.2.2.2.1 c.2.2.2.2.2.2.2.2.2.1 c.2.2.2.2.2.2.2.2.2.2.1 c.2.2.2.2.2.2.2.2.2.2.2.1 c.2.2.2.2.2.2.2.2.2.2.2.2.1 c.2.2.2.2.2.2.2.2.2.2.2.2.2) ⟨(x0, x1, x2, x3, x4, x5, x6, x7, x8, x9, x10, x11, x12, x13), h⟩ k
end Mine
end
section
open PySem PySem.W PyProof.Rows PySem.Spec PySem.Calls
set_option maxRecDepth 100000
set_option maxHeartbeats 8000000
namespace Mine
theorem offMR : True := by
  w_top off
  trivial
/-- what a turn of a loop must leave -/
def FStep (h₀ : Heap) (L : Addr) (s : Shared) (I : Addr) (it : Obj) (J : (Str → Option Value) → List (Addr × Obj) → Prop) (Q : Flow → Shared → Prop) (f : Flow) (s₂ : Shared) : Prop :=
  match f with
  | .ret v => Q (.ret v) s₂
  | .brk => Q .next s₂
  | _ => ∃ h' tk m' news', s₂ = { s with heap := h', toks := tk } ∧ Fr h₀ L h' m' ∧ News h₀ L h' ((I, it) :: news') ∧ (∀ p ∈ news', p.1 ≠ I) ∧ J m' news'

section
variable {prog : Program} {w : World} {A : Around} {E : Value → Shared → Prop} {s : Shared} {env : Env} {h₀ : Heap} {x : Str} {body : List Stmt} {Q : Flow → Shared → Prop}
theorem FStep.mk {L : Addr} {I : Addr} {it : Obj} {J : (Str → Option Value) → List (Addr × Obj) → Prop} {h' : Heap} {tk : Nat} {m' : Str → Option Value} {all : List (Addr × Obj)} (news' : List (Addr × Obj))
    (F : Fr h₀ L h' m') (N : News h₀ L h' all) (hI : (I, it) ∈ all) (sub : ∀ p ∈ news', p ∈ all) (off : ∀ p ∈ news', p.1 ≠ I) (j : J m' news') : FStep h₀ L s I it J Q .next { s with heap := h', toks := tk } :=
  ⟨h', tk, m', news', rfl, F, fun p hp => by
    rcases List.mem_cons.mp hp with rfl | hp
    · exact N _ hI
    · exact N _ (sub p hp), off, j⟩
theorem FStep.mkT {L : Addr} {I : Addr} {it : Obj} {J : (Str → Option Value) → List (Addr × Obj) → Prop} {h' : Heap} {tk : Nat} {m' : Str → Option Value} {news' : List (Addr × Obj)}
    (F : Fr h₀ L h' m') (N : News h₀ L h' ((I, it) :: news')) (off : ∀ p ∈ news', p.1 ≠ I) (j : J m' news') : FStep h₀ L s I it J Q .next { s with heap := h', toks := tk } := ⟨h', tk, m', news', rfl, F, N, off, j⟩
theorem FStep.brkI {L : Addr} {I : Addr} {it : Obj} {J : (Str → Option Value) → List (Addr × Obj) → Prop} {s₂ : Shared} (h : Q .next s₂) : FStep h₀ L s I it J Q .brk s₂ := h
theorem FStep.retI {L : Addr} {I : Addr} {it : Obj} {J : (Str → Option Value) → List (Addr × Obj) → Prop} {v : Value} {s₂ : Shared} (h : Q (.ret v) s₂) : FStep h₀ L s I it J Q (.ret v) s₂ := h
theorem FStep.cont {L : Addr} {I : Addr} {it : Obj} {J : (Str → Option Value) → List (Addr × Obj) → Prop} {s₂ : Shared} (h : FStep h₀ L s I it J Q .next s₂) : FStep h₀ L s I it J Q .cont s₂ := h

theorem loop_led {l I : Addr} {ol : Obj} {n : Nat} {P : Nat → Value → Prop} {St : Nat → Heap → Prop} {m₀ : Str → Option Value} {news : List (Addr × Obj)} (J : Nat → (Str → Option Value) → List (Addr × Obj) → Prop)
    (W : Walks prog w A I [I, l] [I] n P St) (hSt : ∀ i h, St i h → ∃ o, h.get? I = some o) (hIn : h₀.get? I = none) (hIL : I ≠ env.locals) (hlt : ∀ p ∈ news, p.1 < I)
    (hl : (l, ol) ∈ news) (hJl : ∀ i m nx, J i m nx → (l, ol) ∈ nx)
    (hst : St 0 s.heap) (F : Fr h₀ env.locals s.heap m₀) (N : News h₀ env.locals s.heap news) (h0 : J 0 m₀ news)
    (turn : ∀ i v m₁ news₁ h tk it, P i v → J i m₁ news₁ → (∀ p ∈ news, p.1 < I) → (∀ p ∈ news₁, p.1 ≠ I) →
      Fr h₀ env.locals h (fun y => if y = x then some v else m₁ y) → News h₀ env.locals h ((I, it) :: news₁) →
      wpAny (model prog w) A (execs body env) (FStep h₀ env.locals s I it (J (i + 1)) Q) E { s with heap := h, toks := tk })
    (done : ∀ m₁ news₁ h tk, J n m₁ news₁ → Fr h₀ env.locals h m₁ → News h₀ env.locals h news₁ → Q .next { s with heap := h, toks := tk }) :
    LoopAtV prog w A h₀ env x body Q E (.ref I) s := by
  refine ⟨I, [I, l], [I], n, P, St, m₀, news, J, rfl, W, ?_, ?_, ?_, hst, F, N, h0, ?_, ?_⟩
  · intro hm
    rcases List.mem_cons.mp hm with e | hm
    · exact hIL e.symm
    · exact (N _ hl).2.1 (List.mem_singleton.mp hm).symm
  · intro b hb
    rw [List.mem_singleton.mp hb]
    exact hIn
  · intro p hp hI
    have := hlt p hp
    rw [List.mem_singleton.mp hI] at this
    exact absurd this (Nat.lt_irrefl _)
  · rintro i v m₁ news₁ s₁ own ⟨hh', tk', rfl⟩ hin hP hJ hoff hown hget hall hst F₁ N₁
    obtain ⟨oI, hoI⟩ := hSt _ _ hst
    have hmem : (I, oI) ∈ own := hall _ (List.mem_cons_self ..) hIn _ hoI
    have N₂ : News h₀ env.locals hh' ((I, oI) :: news₁) := fun p hp => by
      rcases List.mem_cons.mp hp with rfl | hp
      · exact N₁ _ (List.mem_append_left _ hmem)
      · exact N₁ _ (List.mem_append_right _ hp)
    have hoff' : ∀ p ∈ news₁, p.1 ≠ I := fun p hp e => hoff p hp (List.mem_singleton.mpr e)
    refine wpAny_mono (turn i v m₁ news₁ hh' tk' oI hP hJ hlt hoff' F₁ N₂) (fun f s₂ p => ?_) fun _ _ e => e
    have fin : (∃ h' tk m' news', s₂ = { s with heap := h', toks := tk } ∧ Fr h₀ env.locals h' m' ∧ News h₀ env.locals h' ((I, oI) :: news') ∧ (∀ p ∈ news', p.1 ≠ I) ∧ J (i + 1) m' news') →
        LoopStepU h₀ env.locals [I] own (J (i + 1)) { s with heap := hh', toks := tk' } .next s₂ := by
      rintro ⟨h', tk, m', news', e, F', N', ho, r⟩
      refine ⟨rfl, h', tk, m', news', e, F', fun p hp => ?_, fun p hp hI => ho p hp (List.mem_singleton.mp hI), r⟩
      rcases List.mem_append.mp hp with hp | hp
      · have h2 : hh'.get? p.1 = some p.2 := hget p hp
        rcases List.mem_cons.mp (hown p hp) with h1 | h1
        · have h3 : p = (I, oI) := by
            rw [h1, hoI] at h2
            exact Prod.ext h1 (Option.some.inj h2).symm
          rw [h3]; exact N' _ (List.mem_cons_self ..)
        · have h1 := List.mem_singleton.mp h1
          have h4 := (N₁ _ (List.mem_append_right own (hJl i m₁ news₁ hJ))).1
          have h3 : p = (l, ol) := by
            rw [h1] at h2
            have h5 := h2.symm.trans h4
            exact Prod.ext h1 (Option.some.inj h5)
          rw [h3]; exact N' _ (List.mem_cons_of_mem _ (hJl _ _ _ r))
      · exact N' _ (List.mem_cons_of_mem _ hp)
    cases f with
    | ret v => exact .ret p
    | brk => exact .brk p
    | next => exact .next (fin p)
    | cont => exact .cont (fin p)
  · rintro h' tk m' news' F' N' _ hJ
    exact done m' news' h' tk hJ F' N'

theorem for_led {l : Addr} {vs : List Value} {nn : Nat} {m₀ : Str → Option Value} {news : List (Addr × Obj)} (J : Nat → (Str → Option Value) → List (Addr × Obj) → Prop)
    (hh : A.handled = none) (hl : (l, listOf vs.toArray nn) ∈ news)
    (F : Fr h₀ env.locals s.heap m₀) (N : News h₀ env.locals s.heap news) (h0 : J 0 m₀ news)
    (turn : ∀ i v m₁ news₁ h tk I it, vs[i]? = some v → J i m₁ news₁ → (l, listOf vs.toArray nn) ∈ news₁ → (∀ p ∈ news, p.1 < I) → (∀ p ∈ news₁, p.1 ≠ I) →
      Fr h₀ env.locals h (fun y => if y = x then some v else m₁ y) → News h₀ env.locals h ((I, it) :: news₁) →
      wpAny (model prog w) A (execs body env) (FStep h₀ env.locals s I it (fun m nx => (l, listOf vs.toArray nn) ∈ nx ∧ J (i + 1) m nx) Q) E { s with heap := h, toks := tk })
    (done : ∀ m₁ news₁ h tk, J vs.length m₁ news₁ → Fr h₀ env.locals h m₁ → News h₀ env.locals h news₁ → Q .next { s with heap := h, toks := tk }) :
    wpAny (model prog w) A (pyIter (.ref l)) (fun it s₂ => LoopAtV prog w A h₀ env x body Q E it s₂) E s := by
  have hls : s.heap.IsList l vs.toArray := ⟨_, (N _ hl).1, rfl, nn, rfl⟩
  have hne : l ≠ s.heap.objs.size := Nat.ne_of_lt (Heap.lt_size (N _ hl).1)
  refine wpAny_pyIter_list hls ?_
  have W := Walks.list (prog := prog) (w := w) hh s.heap.objs.size l hne vs.toArray
  have hlen : vs.toArray.size = vs.length := by simp
  rw [hlen] at W
  refine loop_led (s := { s with heap := _ }) (ol := listOf vs.toArray nn) (fun i m nx => (l, _) ∈ nx ∧ J i m nx) W (fun i h st => ?_) (next_is_new F) (Nat.ne_of_gt F.ns.lt) (fun p hp => Heap.lt_size (N p hp).1) hl (fun i m nx q => q.1)
    ⟨⟨_, Heap.get?_push_size _ rfl, rfl, rfl⟩, hls.at fun o e => Heap.get?_push_of_some _ e⟩ (F.push _) (fun p hp => ⟨Heap.get?_push_of_some _ (N p hp).1, (N p hp).2⟩) ⟨hl, h0⟩ ?_ (fun m nx h tk q => done m nx h tk q.2)
  · obtain ⟨⟨o, ho, _⟩, _⟩ := st
    exact ⟨o, ho⟩
  · intro i v m₁ news₁ h tk it hP hJ hlt hoff F₁ N₁
    exact turn i v m₁ news₁ h tk _ it (by simpa using hP) hJ.2 hJ.1 hlt hoff F₁ N₁

theorem for_tup {l : Addr} {vs : List Value} {nn : Nat} {m₀ : Str → Option Value} {news : List (Addr × Obj)} (J : Nat → (Str → Option Value) → List (Addr × Obj) → Prop)
    (hh : A.handled = none) (hl : (l, ({ cls := .type "tuple", data := .seq vs.toArray nn } : Obj)) ∈ news)
    (F : Fr h₀ env.locals s.heap m₀) (N : News h₀ env.locals s.heap news) (h0 : J 0 m₀ news)
    (turn : ∀ i v m₁ news₁ h tk I it, vs[i]? = some v → J i m₁ news₁ → (l, ({ cls := .type "tuple", data := .seq vs.toArray nn } : Obj)) ∈ news₁ → (∀ p ∈ news, p.1 < I) → (∀ p ∈ news₁, p.1 ≠ I) →
      Fr h₀ env.locals h (fun y => if y = x then some v else m₁ y) → News h₀ env.locals h ((I, it) :: news₁) →
      wpAny (model prog w) A (execs body env) (FStep h₀ env.locals s I it (fun m nx => (l, ({ cls := .type "tuple", data := .seq vs.toArray nn } : Obj)) ∈ nx ∧ J (i + 1) m nx) Q) E { s with heap := h, toks := tk })
    (done : ∀ m₁ news₁ h tk, J vs.length m₁ news₁ → Fr h₀ env.locals h m₁ → News h₀ env.locals h news₁ → Q .next { s with heap := h, toks := tk }) :
    wpAny (model prog w) A (pyIter (.ref l)) (fun it s₂ => LoopAtV prog w A h₀ env x body Q E it s₂) E s := by
  have hls : s.heap.IsTuple l vs.toArray := ⟨_, (N _ hl).1, rfl, nn, rfl⟩
  have hne : l ≠ s.heap.objs.size := Nat.ne_of_lt (Heap.lt_size (N _ hl).1)
  refine wpAny_pyIter_tuple hls ?_
  have W := Walks.tuple (prog := prog) (w := w) hh s.heap.objs.size l hne vs.toArray
  have hlen : vs.toArray.size = vs.length := by simp
  rw [hlen] at W
  refine loop_led (s := { s with heap := _ }) (ol := { cls := .type "tuple", data := .seq vs.toArray nn }) (fun i m nx => (l, _) ∈ nx ∧ J i m nx) W (fun i h st => ?_) (next_is_new F) (Nat.ne_of_gt F.ns.lt) (fun p hp => Heap.lt_size (N p hp).1) hl (fun i m nx q => q.1)
    ⟨⟨_, Heap.get?_push_size _ rfl, rfl, rfl⟩, hls.at fun o e => Heap.get?_push_of_some _ e⟩ (F.push _) (fun p hp => ⟨Heap.get?_push_of_some _ (N p hp).1, (N p hp).2⟩) ⟨hl, h0⟩ ?_ (fun m nx h tk q => done m nx h tk q.2)
  · obtain ⟨⟨o, ho, _⟩, _⟩ := st
    exact ⟨o, ho⟩
  · intro i v m₁ news₁ h tk it hP hJ hlt hoff F₁ N₁
    exact turn i v m₁ news₁ h tk _ it (by simpa using hP) hJ.2 hJ.1 hlt hoff F₁ N₁
end

/-- what a turn of a while must leave -/
def WStep (h₀ : Heap) (L : Addr) (s : Shared) (J : Nat → (Str → Option Value) → List (Addr × Obj) → Prop) (n : Nat) (Q : Flow → Shared → Prop) (f : Flow) (s₂ : Shared) : Prop :=
  match f with
  | .ret v => Q (.ret v) s₂
  | .brk => Q .next s₂
  | _ => ∃ h' tk m' news' n', s₂ = { s with heap := h', toks := tk } ∧ Fr h₀ L h' m' ∧ News h₀ L h' news' ∧ n' < n ∧ J n' m' news'
section
variable {prog : Program} {w : World} {A : Around} {s : Shared} {env : Env} {h₀ : Heap} {L : Addr} {Q : Flow → Shared → Prop}
theorem WStep.mk {J : Nat → (Str → Option Value) → List (Addr × Obj) → Prop} {n n' : Nat} {h' : Heap} {tk : Nat} {m' : Str → Option Value} {news' : List (Addr × Obj)}
    (F : Fr h₀ L h' m') (N : News h₀ L h' news') (hn : n' < n) (j : J n' m' news') : WStep h₀ L s J n Q .next { s with heap := h', toks := tk } := ⟨h', tk, m', news', n', rfl, F, N, hn, j⟩
theorem WStep.brkI {J : Nat → (Str → Option Value) → List (Addr × Obj) → Prop} {n : Nat} {s₂ : Shared} (h : Q .next s₂) : WStep h₀ L s J n Q .brk s₂ := h
theorem WStep.retI {J : Nat → (Str → Option Value) → List (Addr × Obj) → Prop} {n : Nat} {v : Value} {s₂ : Shared} (h : Q (.ret v) s₂) : WStep h₀ L s J n Q (.ret v) s₂ := h
theorem while_led {test : Expr} {body : List Stmt} {pos : Pos} {m : Str → Option Value} {news : List (Addr × Obj)} (J : Nat → (Str → Option Value) → List (Addr × Obj) → Prop) {n₀ : Nat}
    (F : Fr h₀ L s.heap m) (N : News h₀ L s.heap news) (hJ : J n₀ m news)
    (turn : ∀ n m₁ news₁ h₁ tk₁, J n m₁ news₁ → Fr h₀ L h₁ m₁ → News h₀ L h₁ news₁ →
      wpAny (model prog w) A (isTrue test env (eval test env)) (fun b s₂ =>
        if b = true then wpAny (model prog w) A (execs body env) (WStep h₀ L s J n Q) (fun _ _ => False) s₂ else Q .next s₂) (fun _ _ => False) { s with heap := h₁, toks := tk₁ }) :
    wpAny (model prog w) A (exec (.While test body [] pos) env) Q (fun _ _ => False) s := by
  refine wpAny_While (codeAny_whileLoop (fun n s' => ∃ h₁ tk₁ m₁ news₁, s' = { s with heap := h₁, toks := tk₁ } ∧ Fr h₀ L h₁ m₁ ∧ News h₀ L h₁ news₁ ∧ J n m₁ news₁) ?_ n₀ ⟨s.heap, s.toks, m, news, rfl, F, N, hJ⟩)
  rintro n s' ⟨h₁, tk₁, m₁, news₁, rfl, F₁, N₁, J₁⟩
  refine wpAny_mono (turn n m₁ news₁ h₁ tk₁ J₁ F₁ N₁) (fun b s₂ h₂ => ?_) fun _ _ q => q.elim
  cases b with
  | false =>
    simp only [Bool.false_eq_true, if_false] at h₂ ⊢
    exact wpAny_execs_nil h₂
  | true =>
    simp only [if_true] at h₂ ⊢
    refine wpAny_mono h₂ (fun f s₃ h₃ => ?_) fun _ _ q => q.elim
    have fin : (∃ h' tk m' news' n', s₃ = { s with heap := h', toks := tk } ∧ Fr h₀ L h' m' ∧ News h₀ L h' news' ∧ n' < n ∧ J n' m' news') → ∃ m, m < n ∧ ∃ h₁ tk₁ m₁ news₁, s₃ = { s with heap := h₁, toks := tk₁ } ∧ Fr h₀ L h₁ m₁ ∧ News h₀ L h₁ news₁ ∧ J m m₁ news₁ := by
      rintro ⟨h', tk, m₂, news₂, n', rfl, F₂, N₂, hn, J₂⟩
      exact ⟨n', hn, h', tk, m₂, news₂, rfl, F₂, N₂, J₂⟩
    cases f with
    | ret v => exact h₃
    | brk => exact h₃
    | next => exact fin h₃
    | cont => exact fin h₃
end

/-- a frame's map, as far as it is known -/
theorem map1 {m : Str → Option Value} {a : Str} {u : Value} (h1 : m a = some u) : m = fun y => if y = a then some u else m y := by
  funext y; by_cases e : y = a
  · simp [e, h1]
  · simp [e]
theorem map2 {m : Str → Option Value} {a b : Str} {u v : Value} (h1 : m a = some u) (h2 : m b = some v) : m = fun y => if y = a then some u else if y = b then some v else m y := by
  funext y; by_cases e : y = a
  · simp [e, h1]
  · simp only [e, if_false]; exact congrFun (map1 h2) y
theorem map3 {m : Str → Option Value} {a b c : Str} {u v z : Value} (h1 : m a = some u) (h2 : m b = some v) (h3 : m c = some z) : m = fun y => if y = a then some u else if y = b then some v else if y = c then some z else m y := by
  funext y; by_cases e : y = a
  · simp [e, h1]
  · simp only [e, if_false]; exact congrFun (map2 h2 h3) y
theorem map4 {m : Str → Option Value} {a b c d : Str} {u v z t : Value} (h1 : m a = some u) (h2 : m b = some v) (h3 : m c = some z) (h4 : m d = some t) : m = fun y => if y = a then some u else if y = b then some v else if y = c then some z else if y = d then some t else m y := by
  funext y; by_cases e : y = a
  · simp [e, h1]
  · simp only [e, if_false]; exact congrFun (map3 h2 h3 h4) y

def Hold (P : Prop) : Prop := P
theorem Hold.of {P : Prop} (h : Hold P) : P := h
theorem Hold.out {P : Prop} (h : P) : Hold P := h
theorem News.swap {h₀ h : Heap} {L : Addr} {a b : Addr × Obj} {r : List (Addr × Obj)} (N : News h₀ L h (a :: b :: r)) : News h₀ L h (b :: a :: r) := fun p hp => N p (by
  rcases List.mem_cons.mp hp with rfl | hp
  · exact .tail _ (.head _)
  · rcases List.mem_cons.mp hp with rfl | hp
    · exact .head _
    · exact .tail _ (.tail _ hp))
theorem News.drop {h₀ h : Heap} {L : Addr} {a : Addr × Obj} {r : List (Addr × Obj)} (N : News h₀ L h (a :: r)) : News h₀ L h r := fun p hp => N p (.tail _ hp)
theorem mem_keep {p q q' : Addr × Obj} {r : List (Addr × Obj)} (h : p ∈ q :: r) (hn : p.2.cls ≠ q.2.cls) : p ∈ q' :: r := by
  rcases List.mem_cons.mp h with rfl | h
  · exact absurd rfl hn
  · exact .tail _ h
theorem ne_keep {q q' : Addr × Obj} {r : List (Addr × Obj)} {I : Addr} (h : ∀ p ∈ q :: r, p.1 ≠ I) (e : q'.1 = q.1) : ∀ p ∈ q' :: r, p.1 ≠ I := by
  intro p hp
  rcases List.mem_cons.mp hp with rfl | hp
  · rw [e]; exact h q (.head _)
  · exact h p (.tail _ hp)
theorem neAll_lt {l : Addr} {news : List (Addr × Obj)} (h : ∀ p ∈ news, p.1 < l) : ∀ p ∈ news, p.1 ≠ l := fun p hp => Nat.ne_of_lt (h p hp)
theorem neAll_gt {l : Addr} {news : List (Addr × Obj)} (h : ∀ p ∈ news, l < p.1) : ∀ p ∈ news, p.1 ≠ l := fun p hp => Nat.ne_of_gt (h p hp)
end Mine
end
section
open PySem PySem.W PyProof.Rows PySem.Spec PySem.Calls
set_option maxRecDepth 100000
set_option maxHeartbeats 8000000
namespace Mine
theorem offPL : True := by
  w_top off
  trivial
theorem str_ext {a b : Str} (h : a.cps.toList = b.cps.toList) : a = b := by
  cases a; cases b; simp only [Str.mk.injEq]; exact Array.toList_inj.mp h
theorem len_toList (x : Str) : x.cps.toList.length = x.length := by rw [Array.length_toList]; rfl
theorem item_is {x : Str} {i : Int} (h0 : 0 ≤ i) (h1 : i < x.length) :
    ∃ c, Txt.item x i = ⟨#[c]⟩ ∧ x.cps.toList.drop i.toNat = c :: x.cps.toList.drop (i.toNat + 1) := by
  have hl : i.toNat < x.cps.toList.length := by rw [len_toList]; omega
  have hs : i.toNat < x.cps.size := by rw [← Array.length_toList]; exact hl
  refine ⟨x.cps.toList[i.toNat], ?_, List.drop_eq_getElem_cons hl⟩
  unfold Txt.item Txt.charAt seqIndex?
  have h1' : ¬ i < 0 := by omega
  simp [h1', h0, h1, hs]
theorem quote_cps : (Str.ofString "\"") = ⟨#[34]⟩ := by decide +kernel
theorem one_beq {c k : Nat} : ((⟨#[c]⟩ : Str) == ⟨#[k]⟩) = decide (c = k) := by
  rw [Bool.eq_iff_iff, beq_iff_eq, decide_eq_true_eq]
  constructor
  · intro h; simpa using congrArg (fun s : Str => s.cps.toList) h
  · rintro rfl; rfl
theorem cps_app (a b : Str) : (a ++ b).cps.toList = a.cps.toList ++ b.cps.toList := by
  show (a.cps ++ b.cps).toList = _
  simp
end Mine
end
section
open PySem PySem.W PyProof.Rows PySem.Spec PySem.Calls
set_option maxRecDepth 100000
set_option maxHeartbeats 8000000
namespace Mine
theorem offPM : True := by
  w_top off
  trivial
theorem split_len (x y : Str) : (Txt.split x y).length ≤ x.length + 2 := by
  unfold Txt.split
  split
  · simp
  · split
    · simp
    · have e1 := StrLaws.occ_length_le x y 0 x.length (x.length + 1)
      rw [length_partsBetween]; omega
section
variable {prog : Program} {w : World} {A : Around} {E : Value → Shared → Prop} {s : Shared} {h₀ : Heap} {L : Addr} {m : Str → Option Value} {news : List (Addr × Obj)} {Q : Value → Shared → Prop}
theorem split5 {x y : Str} {t u : Tok} (F : Fr h₀ L s.heap m) (N : News h₀ L s.heap news) (hy : (y.length == 0) = false) (hsz : x.length + 2 ≤ sizeLine)
    (h : ∀ D h' k, Fr h₀ L h' m → (∀ p ∈ news, p.1 < D) →
      ((∃ a b c d e ta tb tc td te, Txt.split x y = [a, b, c, d, e] ∧ d.length ≤ x.length ∧ News h₀ L h' ((D, listOf #[.str a ta, .str b tb, .str c tc, .str d td, .str e te] 0) :: news)) ∨
       (∃ vs : Array Value, vs.size ≠ 5 ∧ vs.size < 2 ^ 62 ∧ (Txt.split x y).length ≠ 5 ∧ News h₀ L h' ((D, listOf vs 0) :: news))) → Q (.ref D) { s with heap := h', toks := k }) :
    wpAny (model prog w) A (call (.builtin "str.split") [.str x t, .str y u]) Q E s := by
  refine splitN1A F N hy (fun l h' k e ha hlen hl F' N' => ?_) hsz
  refine h s.heap.objs.size h' k F' (fun p hp => Heap.lt_size (N p hp).1) ?_
  by_cases h5 : l.length = 5
  · left
    obtain ⟨a, l, rfl⟩ : ∃ a r, l = a :: r := by cases l with | nil => cases h5 | cons a r => exact ⟨a, r, rfl⟩
    obtain ⟨b, l, rfl⟩ : ∃ a r, l = a :: r := by cases l with | nil => cases h5 | cons a r => exact ⟨a, r, rfl⟩
    obtain ⟨c, l, rfl⟩ : ∃ a r, l = a :: r := by cases l with | nil => cases h5 | cons a r => exact ⟨a, r, rfl⟩
    obtain ⟨d, l, rfl⟩ : ∃ a r, l = a :: r := by cases l with | nil => cases h5 | cons a r => exact ⟨a, r, rfl⟩
    obtain ⟨e', l, rfl⟩ : ∃ a r, l = a :: r := by cases l with | nil => cases h5 | cons a r => exact ⟨a, r, rfl⟩
    obtain rfl : l = [] := by cases l with | nil => rfl | cons a r => simp at h5
    exact ⟨_, _, _, _, _, _, _, _, _, _, e.symm, hlen _ (by simp), N'⟩
  · right
    have hsz' : (strValues l).toArray.size = l.length := by simp [strValues]
    refine ⟨(strValues l).toArray, by rw [hsz']; exact h5, ?_, ?_, N'⟩
    · have hb := split_len x y
      rw [← e, List.length_map] at hb
      rw [hsz']; rw [sizeLine_eq] at hsz; omega
    · rw [← e, List.length_map]; exact h5
theorem len_led {D : Addr} {vs : Array Value} {n : Nat} (N : News h₀ L s.heap news) (hm : (D, listOf vs n) ∈ news) (hs : vs.size < 2 ^ 62)
    (h : Q (.int (vs.size : Nat) (s.toks + 1)) { s with toks := s.toks + 1 + 1 }) : wpAny (model prog w) A (call (.builtin "len") [.ref D]) Q E s :=
  Calls.call_len_list ⟨_, (N _ hm).1, rfl, n, rfl⟩ (by omega) h
end
end Mine
end
section
open PySem PySem.W PyProof.Rows PySem.Spec PySem.Calls
set_option maxRecDepth 100000
set_option maxHeartbeats 4000000
namespace Mine
theorem offPS : True := by
  w_top off
  trivial
open PySem.Builtin PySem.Builtin.Str PySem.StrLaws
theorem len_list (x : Str) : x.length = x.cps.toList.length := (len_toList x).symm
theorem nn_nat (a : Nat) : ¬ ((a : Int) < 0) := Int.not_lt.mpr (Int.natCast_nonneg a)
theorem clip1 (a len : Nat) : max 0 (min (a : Int) (len : Int)) = max 0 (min ((min a len : Nat) : Int) (len : Int)) := by
  rw [Lean.Omega.Int.ofNat_min, Int.min_assoc, Int.min_self]
theorem idx_clip (a b len : Nat) : strSliceIndices (some (a : Int)) (some (b : Int)) 1 len = strSliceIndices (some ((min a len : Nat) : Int)) (some ((min b len : Nat) : Int)) 1 len := by
  have h1 := nn_nat a
  have h2 := nn_nat b
  have h3 := nn_nat (min a len)
  have h4 := nn_nat (min b len)
  simp only [strSliceIndices, h1, h2, h3, h4, if_false]
  congr 1
  all_goals (simp only [show ((1 : Int) > 0) = True by simp, if_true]; exact clip1 _ _)
theorem take_drop_clip (l : List Nat) (a b : Nat) : (l.drop (min a l.length)).take (min b l.length - min a l.length) = (l.drop a).take (b - a) := by
  by_cases ha : a ≤ l.length
  · rw [Nat.min_eq_left ha]
    by_cases hb : b ≤ l.length
    · rw [Nat.min_eq_left hb]
    · rw [Nat.min_eq_right (by omega)]
      rw [List.take_of_length_le (by simp), List.take_of_length_le (by simp; omega)]
  · have h1 : min a l.length = l.length := Nat.min_eq_right (by omega)
    rw [h1]
    simp [List.drop_eq_nil_of_le (show l.length ≤ a by omega)]
theorem slice_nn (x : Str) (a b : Nat) : (Txt.slice x (some (a : Int)) (some (b : Int))).cps.toList = (x.cps.toList.drop a).take (b - a) := by
  have e : Txt.slice x (some (a : Int)) (some (b : Int)) = sliceText x (some ((min a x.length : Nat) : Int)) (some ((min b x.length : Nat) : Int)) := by
    unfold Txt.slice sliceText
    rw [idx_clip]
  rw [e]
  by_cases hab : min a x.length ≤ min b x.length
  · rw [sliceText_nat x hab (by omega)]
    show (x.cps.toList.drop (min a x.length)).take (min b x.length - min a x.length) = _
    rw [len_list]
    exact take_drop_clip _ _ _
  · have hb : b < a := by omega
    have h0 : strSliceIndices (some ((min a x.length : Nat) : Int)) (some ((min b x.length : Nat) : Int)) 1 x.length = [] := by
      have h3 := nn_nat (min a x.length)
      have h4 := nn_nat (min b x.length)
      simp only [strSliceIndices, h3, h4, if_false, show ((1 : Int) > 0) = True by simp, if_true]
      unfold sliceRange
      simp only [show ((1 : Int) > 0) = True by simp, if_true]
      rw [if_neg (by omega)]; rfl
    unfold sliceText
    rw [h0]
    have hne : (([] : List Nat).length == x.length) = false := by
      simp only [List.length_nil, beq_eq_false_iff_ne, ne_eq]
      omega
    rw [hne, Nat.sub_eq_zero_of_le (Nat.le_of_lt hb)]
    simp
theorem slice_ns (x : Str) (b : Nat) : (Txt.slice x none (some (b : Int))).cps.toList = x.cps.toList.take b := by
  have e : Txt.slice x none (some (b : Int)) = Txt.slice x (some ((0 : Nat) : Int)) (some (b : Int)) := by
    unfold Txt.slice; rw [sliceIdx_none_lo]; rfl
  rw [e, slice_nn]; simp
theorem slice_sn (x : Str) (a : Nat) : (Txt.slice x (some (a : Int)) none).cps.toList = x.cps.toList.drop a := by
  have e : Txt.slice x (some (a : Int)) none = Txt.slice x (some (a : Int)) (some (x.length : Int)) := by
    unfold Txt.slice; rw [sliceIdx_none_hi]
  rw [e, slice_nn]
  exact List.take_of_length_le (by rw [List.length_drop, len_list]; omega)
theorem slice_neg_hi (x : Str) (k : Nat) (hk : 0 < k) (hl : k ≤ x.length) : (Txt.slice x none (some (-(k : Int)))).cps.toList = x.cps.toList.take (x.length - k) := by
  have e : Txt.slice x none (some (-(k : Int))) = Txt.slice x none (some ((x.length - k : Nat) : Int)) := by
    unfold Txt.slice
    rw [sliceIdx_neg_hi none x.length (by omega) (by omega)]
    rw [show (-(k : Int) + (x.length : Int)) = ((x.length - k : Nat) : Int) by omega]
  rw [e, slice_ns]
theorem slice_neg_lo (x : Str) (k : Nat) (hk : 0 < k) (hl : k ≤ x.length) : (Txt.slice x (some (-(k : Int))) none).cps.toList = x.cps.toList.drop (x.length - k) := by
  have e : Txt.slice x (some (-(k : Int))) none = Txt.slice x (some ((x.length - k : Nat) : Int)) none := by
    unfold Txt.slice
    rw [sliceIdx_neg_lo none x.length (by omega) (by omega)]
    rw [show (-(k : Int) + (x.length : Int)) = ((x.length - k : Nat) : Int) by omega]
  rw [e, slice_sn]
theorem slice_ns' (x : Str) {b : Int} (h : 0 ≤ b) : (Txt.slice x none (some b)).cps.toList = x.cps.toList.take b.toNat := by
  obtain ⟨n, rfl⟩ := Int.eq_ofNat_of_zero_le h
  exact slice_ns x n
theorem slice_sn' (x : Str) {a : Int} (h : 0 ≤ a) : (Txt.slice x (some a) none).cps.toList = x.cps.toList.drop a.toNat := by
  obtain ⟨n, rfl⟩ := Int.eq_ofNat_of_zero_le h
  exact slice_sn x n
theorem slice_nn' (x : Str) {a b : Int} (h : 0 ≤ a) (h' : 0 ≤ b) : (Txt.slice x (some a) (some b)).cps.toList = (x.cps.toList.drop a.toNat).take (b.toNat - a.toNat) := by
  obtain ⟨n, rfl⟩ := Int.eq_ofNat_of_zero_le h
  obtain ⟨k, rfl⟩ := Int.eq_ofNat_of_zero_le h'
  exact slice_nn x n k
theorem beq_list (a b : Str) : (a == b) = (a.cps.toList == b.cps.toList) := by
  rw [Bool.eq_iff_iff, beq_iff_eq, beq_iff_eq]
  exact ⟨fun h => by rw [h], str_ext⟩
theorem s257 : (Str.ofString "257 ").cps.toList = [50, 53, 55, 32] := by decide +kernel
theorem s229 : (Str.ofString "229 ").cps.toList = [50, 50, 57, 32] := by decide +kernel
theorem len257 (x : Str) : (Str.ofString "257 " ++ x).length = 4 + x.length := by rw [Str.length_append]; congr 1
theorem len229 (x : Str) : (Str.ofString "229 " ++ x).length = 4 + x.length := by rw [Str.length_append]; congr 1
theorem head257 (x : Str) : (Txt.slice (Str.ofString "257 " ++ x) none (some 3) == Str.ofString "257") = true := by
  rw [beq_list, slice_ns' _ (by decide), cps_app, s257, show (Str.ofString "257").cps.toList = [50, 53, 55] by decide +kernel]; rfl
theorem head229 (x : Str) : (Txt.slice (Str.ofString "229 " ++ x) none (some 3) == Str.ofString "229") = true := by
  rw [beq_list, slice_ns' _ (by decide), cps_app, s229, show (Str.ofString "229").cps.toList = [50, 50, 57] by decide +kernel]; rfl
theorem lpar_cps : (Str.ofString "(") = ⟨#[40]⟩ := by decide +kernel
theorem rpar_cps : (Str.ofString ")") = ⟨#[41]⟩ := by decide +kernel
theorem star_cps : (Str.ofString "*") = ⟨#[42]⟩ := by decide +kernel
/-- the first place of c from i on -/
def firstAt (c : Nat) (l : List Nat) (i : Nat) : Option Nat := ((l.drop i).findIdx? (· == c)).map (· + i)
theorem find_cases (r : Str) (c : Nat) (i : Int) (h0 : 0 ≤ i) :
    (Txt.find3 r ⟨#[c]⟩ i = -1 ∧ ∀ v, i.toNat ≤ v → v < r.length → r.cps.getD v 0 ≠ c) ∨
    ∃ k : Nat, Txt.find3 r ⟨#[c]⟩ i = (k : Int) ∧ i.toNat ≤ k ∧ k < r.length ∧ r.cps.getD k 0 = c ∧ ∀ v, i.toNat ≤ v → v < k → r.cps.getD v 0 ≠ c := by
  have e : ∀ v, v < r.length → (fromIndex r.length i ≤ v ↔ i.toNat ≤ v) := by
    intro v hv
    unfold fromIndex
    have : ¬ i < 0 := by omega
    simp only [this, if_false]
    omega
  rcases find3_spec r c i with ⟨h, hn⟩ | ⟨k, h, hlo, hk, hc, hn⟩
  · exact .inl ⟨h, fun v h1 h2 => hn v ((e v h2).mpr h1) h2⟩
  · exact .inr ⟨k, h, (e k hk).mp hlo, hk, hc, fun v h1 h2 => hn v ((e v (by omega)).mpr h1) h2⟩
theorem find_lt (r : Str) (h : 0 < r.length) : Txt.find r (Str.ofString "(") < r.length := by
  rw [lpar_cps, find_is_find3]
  rcases find_cases r 40 0 (by decide) with ⟨e, _⟩ | ⟨k, e, _, hk, _⟩
  · rw [e]; omega
  · rw [e]; omega
theorem find_ge (r : Str) : -1 ≤ Txt.find r (Str.ofString "(") := find_geG _ _
theorem find3_lt (r : Str) {i : Int} (h : 0 < r.length) (h0 : 0 ≤ i) : Txt.find3 r (Str.ofString ")") i < r.length := by
  rw [rpar_cps]
  rcases find_cases r 41 i h0 with ⟨e, _⟩ | ⟨k, e, _, hk, _⟩
  · rw [e]; omega
  · rw [e]; omega
theorem find3_from (r : Str) {i : Int} (h0 : 0 ≤ i) : 0 ≤ Txt.find3 r (Str.ofString ")") i → i ≤ Txt.find3 r (Str.ofString ")") i := by
  rw [rpar_cps]
  rcases find_cases r 41 i h0 with ⟨e, _⟩ | ⟨k, e, h, hk, _⟩
  · rw [e]; omega
  · rw [e]; omega
end Mine
end
section
open PySem PySem.W PyProof.Rows PySem.Spec PySem.Calls
set_option maxRecDepth 100000
set_option maxHeartbeats 8000000
namespace Mine
theorem offMC : True := by
  w_top off
  trivial
abbrev lo3 : List Str := [Str.ofString "EXACT_TOKEN_TYPES", Str.ofString "_name_disallowed_re", Str.ofString "_value_disallowed_re"]
theorem fill0 : (PySem.Challenge.rw_wf0088_01, hd.heap_1) = (PySem.Challenge.rw_wf0088_01, hd.heap_1) := by
  k_fill
  rfl
abbrev Led := List (Addr × Obj)
/-- what comes back: the frame as it was, the ledger by Ret -/
def Ret0 (h₀ : Heap) (L : Addr) (m : Str → Option Value) (s : Shared) (Ret : Value → Led → Prop) (v : Value) (s' : Shared) : Prop :=
  ∃ led' h' tk', s' = { s with heap := h', toks := tk' } ∧ Fr h₀ L h' m ∧ News h₀ L h' led' ∧ Ret v led'
/-- the contract of a def: called from any frame, with a ledger, room d -/
def Con (w : World) (d : Nat) (f : Addr) (led : Led) (vs : List Value) (Ret : Value → Led → Prop) : Prop :=
  ∀ (mean : ExcName → Option Value) (mg mb : Str → Option Value) (dp un : Nat) (gd : Option (List Code)) (cn : Str) (cs : Scope) (a : Addr) (ccd : Value) (cl : List (Str × Addr)) (outer : List Env) (A₀ : Around) (base h₀ : Heap) (L : Addr) (m : Str → Option Value) (s : Shared) (E : Value → Shared → Prop),
    Below A₀ base outer h₀ → Fr h₀ L s.heap m → (hd.heap_1 w.params).In h₀ → News h₀ L s.heap led → Top hd.view_1 (looseW hd.view_1 lo3) mean mg mb h₀ → cs.kind = .function → dp + d < recursionLimit → un + 10 * d < cLine →
    wpAny (model PySem.Challenge.pw_wf0088_01 w) (ktrTop dp un gd cn cs L a ccd cl outer) (call (.ref f) vs) (Ret0 h₀ L m s Ret) E s
def BodyRet (g : Heap) (L' : Addr) (s : Shared) (Ret : Value → Led → Prop) (fl : Flow) (s' : Shared) : Prop :=
  ∃ m' led' h' tk', s' = { s with heap := h', toks := tk' } ∧ Fr g L' h' m' ∧ News g L' h' led' ∧ Ret (match fl with | .ret v => v | _ => .none) led'
theorem BodyRet.mk {g : Heap} {L' : Addr} {s : Shared} {Ret : Value → Led → Prop} {v : Value} {m' : Str → Option Value} {led : Led} (led' : Led) {h' : Heap} {tk' : Nat} (F : Fr g L' h' m') (N : News g L' h' led) (sub : ∀ p ∈ led', p ∈ led) (r : Ret v led') : BodyRet g L' s Ret (.ret v) { s with heap := h', toks := tk' } :=
  ⟨m', led', h', tk', rfl, F, fun p hp => N p (sub p hp), r⟩
theorem BodyRet.mkN {g : Heap} {L' : Addr} {s : Shared} {Ret : Value → Led → Prop} {m' : Str → Option Value} {led : Led} (led' : Led) {h' : Heap} {tk' : Nat} (F : Fr g L' h' m') (N : News g L' h' led) (sub : ∀ p ∈ led', p ∈ led) (r : Ret .none led') : BodyRet g L' s Ret .next { s with heap := h', toks := tk' } :=
  ⟨m', led', h', tk', rfl, F, fun p hp => N p (sub p hp), r⟩

section
variable {w : World} {f : Addr} {qual name : Str} {params : Arguments} {body : List Stmt} {scope : Scope} {dV kV doc pm cdv ct oc : Value} {an od : Option Addr} {osl : Array (Option Value)} {vs : List Value} {binds : List (Str × Value)} {led : Led} {Ret : Value → Led → Prop} {d : Nat}
theorem con_of_body (ho : (hd.heap_1 w.params).lookup f = some ⟨oc, od, .func (fnOf name qual params body scope dV kV doc pm an cdv ct), osl⟩) (hcd : codeIn (hd.heap_1 w.params) cdv qual = true)
    (hbind : ∀ s, BindsTo s (fnOf name qual params body scope dV kV doc pm an cdv ct) ⟨vs, []⟩ binds) (hloc : ∀ y ∈ binds, scope.names.lookup y.1 = some .local)
    (h : ∀ (mean : ExcName → Option Value) (mg mb : Str → Option Value) (dp un : Nat) (gd : Option (List Code)) (outer : List Env) (A₀ : Around) (base g : Heap) (L' : Addr) (s : Shared),
      Below A₀ base outer g → Fr g L' s.heap (fun y => binds.reverse.lookup y) → (hd.heap_1 w.params).In g → News g L' s.heap led → Top hd.view_1 (looseW hd.view_1 lo3) mean mg mb g → dp + d < recursionLimit → un + 10 * d < cLine →
      wpAny (model PySem.Challenge.pw_wf0088_01 w) (ktrTop dp un gd qual scope L' f cdv [] outer) (execs body (envOf qual scope L' f cdv)) (BodyRet g L' s Ret) (fun _ _ => False) s)
    (hco : scope.isCoroutine = false) (hgen : scope.isGenerator = false) (hk : scope.kind = .function) (hcell : ∀ x ∈ scope.names, x.2 ≠ .cell) : Con w (d + 1) f led vs Ret := by
  intro mean mg mb dp un gd cn cs a ccd cl outer A₀ base h₀ L m s E B F X N T hck hdp hun
  refine wpAny_call (code_def B F X N T rfl rfl hck ho hcd (by show dp < _; omega) (hbind s) hloc (fun g L' h₁ FG F' N' B' X' T' => ?_) hco hgen hk hcell)
  refine wpAny_mono (h mean mg mb (dp + 1) (un + 3) gd _ _ base g L' _ B' F' X' N' T' (by omega) (by omega)) (fun fl s' hr => ?_) (fun _ _ q => q.elim)
  obtain ⟨m', led', h', tk', rfl, F₂, N₂, r⟩ := hr
  exact ⟨L', m', led', F₂, N₂, fun F₃ N₃ => ⟨led', h', tk', rfl, F₃, N₃, r⟩⟩
end

theorem Con.use {w : World} {d : Nat} {f : Addr} {led : Led} {vs : List Value} {Ret : Value → Led → Prop} (C : Con w d f led vs Ret) {mean : ExcName → Option Value} {mg mb : Str → Option Value} {dp un : Nat} {gd : Option (List Code)} {cn : Str} {cs : Scope} {a : Addr} {ccd : Value} {cl : List (Str × Addr)} {outer : List Env} {A₀ : Around} {base h₀ : Heap} {L : Addr} {m : Str → Option Value} {s : Shared} {Q E : Value → Shared → Prop}
    (B : Below A₀ base outer h₀) (F : Fr h₀ L s.heap m) (X : (hd.heap_1 w.params).In h₀) (N : News h₀ L s.heap led) (T : Top hd.view_1 (looseW hd.view_1 lo3) mean mg mb h₀) (hk : cs.kind = .function) (hd : dp + d < recursionLimit) (hu : un + 10 * d < cLine)
    (ret : ∀ v led' h' tk', Fr h₀ L h' m → News h₀ L h' led' → Ret v led' → Q v { s with heap := h', toks := tk' }) :
    wpAny (model PySem.Challenge.pw_wf0088_01 w) (ktrTop dp un gd cn cs L a ccd cl outer) (call (.ref f) vs) Q E s :=
  wpAny_mono (C mean mg mb dp un gd cn cs a ccd cl outer A₀ base h₀ L m s E B F X N T hk hd hu) (fun v s' ⟨led', h', tk', e, F', N', r⟩ => by subst e; exact ret v led' h' tk' F' N' r) fun _ _ x => x
end Mine
end
section
open PySem PySem.W PyProof.Rows PySem.Spec PySem.Calls
set_option maxRecDepth 100000
set_option maxHeartbeats 8000000
namespace Mine
theorem offMS : True := by
  w_top off
  trivial
abbrev frs (outer : List Env) : List Addr := outer.filterMap (·.frame)
/-- a ground: the heap below the frame, its frames' slots turned -/
structure Gd (w : World) (mean : ExcName → Option Value) (mg mb : Str → Option Value) (A₀ : Around) (base : Heap) (outer : List Env) (g₀ g : Heap) : Prop where
  t : KtsTurn (frs outer) g₀ g
  b : Below A₀ base outer g
  x : (hd.heap_1 w.params).In g
  top : Top hd.view_1 (looseW hd.view_1 lo3) mean mg mb g
  d : KtsDicts (frs outer) g
def RetS (w : World) (mean : ExcName → Option Value) (mg mb : Str → Option Value) (A₀ : Around) (base : Heap) (outer : List Env) (h₀ : Heap) (L : Addr) (m : Str → Option Value) (s : Shared) (Ret : Value → Led → Prop) (v : Value) (s' : Shared) : Prop :=
  ∃ g led' h' tk', s' = { s with heap := h', toks := tk' } ∧ Gd w mean mg mb A₀ base outer h₀ g ∧ Fr g L h' m ∧ News g L h' led' ∧ Ret v led'
def ConS (w : World) (d : Nat) (f : Addr) (led : Led) (vs : List Value) (Ret : Value → Led → Prop) : Prop :=
  ∀ (mean : ExcName → Option Value) (mg mb : Str → Option Value) (dp un : Nat) (gd : Option (List Code)) (cn : Str) (cs : Scope) (a : Addr) (ccd : Value) (cl : List (Str × Addr)) (outer : List Env) (A₀ : Around) (base h₀ : Heap) (L : Addr) (m : Str → Option Value) (s : Shared) (E : Value → Shared → Prop),
    Below A₀ base outer h₀ → Fr h₀ L s.heap m → (hd.heap_1 w.params).In h₀ → News h₀ L s.heap led → Top hd.view_1 (looseW hd.view_1 lo3) mean mg mb h₀ → cs.kind = .function → dp + d < recursionLimit → un + 10 * d < cLine →
    (hd.heap_1 w.params).In base → Top hd.view_1 (looseW hd.view_1 lo3) mean mg mb base → KtsDicts (frs outer) h₀ →
    wpAny (model PySem.Challenge.pw_wf0088_01 w) (ktrTop dp un gd cn cs L a ccd cl outer) (call (.ref f) vs) (RetS w mean mg mb A₀ base outer h₀ L m s Ret) E s
def BodyRetS (fs : List Addr) (g : Heap) (L' : Addr) (s : Shared) (Ret : Value → Led → Prop) (fl : Flow) (s' : Shared) : Prop :=
  ∃ g' m' led' h' tk', s' = { s with heap := h', toks := tk' } ∧ KtsTurn fs g g' ∧ Fr g' L' h' m' ∧ News g' L' h' led' ∧ Ret (match fl with | .ret v => v | _ => .none) led'
theorem BodyRetS.mk {fs : List Addr} {g g' : Heap} {L' : Addr} {s : Shared} {Ret : Value → Led → Prop} {v : Value} {m' : Str → Option Value} {led : Led} (led' : Led) {h' : Heap} {tk' : Nat} (T : KtsTurn fs g g') (F : Fr g' L' h' m') (N : News g' L' h' led) (sub : ∀ p ∈ led', p ∈ led) (r : Ret v led') : BodyRetS fs g L' s Ret (.ret v) { s with heap := h', toks := tk' } :=
  ⟨g', m', led', h', tk', rfl, T, F, fun p hp => N p (sub p hp), r⟩
theorem BodyRetS.mkN {fs : List Addr} {g g' : Heap} {L' : Addr} {s : Shared} {Ret : Value → Led → Prop} {m' : Str → Option Value} {led : Led} (led' : Led) {h' : Heap} {tk' : Nat} (T : KtsTurn fs g g') (F : Fr g' L' h' m') (N : News g' L' h' led) (sub : ∀ p ∈ led', p ∈ led) (r : Ret .none led') : BodyRetS fs g L' s Ret .next { s with heap := h', toks := tk' } :=
  ⟨g', m', led', h', tk', rfl, T, F, fun p hp => N p (sub p hp), r⟩

theorem ns_of_dict {h : Heap} {L : Addr} {oL : Obj} {m : Str → Option Value} (hn : ∀ sl h', h'.get? L = some { oL with slots := sl } → Heap.Ns h' L m) {sl} (e : h.get? L = some { oL with slots := sl }) : Heap.Ns h L m := hn sl h e

theorem mem_frs {env : Env} {outer : List Env} {L b : Addr} (hf : env.frame = some L) (hm : b ∈ frs (env :: outer)) : b = L ∨ b ∈ frs outer := by
  obtain ⟨e, he, hfe⟩ := List.mem_filterMap.mp hm
  rcases List.mem_cons.mp he with rfl | he
  · exact .inl (Option.some.inj (hfe.symm.trans hf))
  · exact .inr (List.mem_filterMap.mpr ⟨e, he, hfe⟩)

section
variable {w : World} {f : Addr} {qual name : Str} {params : Arguments} {body : List Stmt} {scope : Scope} {dV kV doc pm cdv ct oc : Value} {an od : Option Addr} {osl : Array (Option Value)} {vs : List Value} {binds : List (Str × Value)} {led : Led} {Ret : Value → Led → Prop} {d : Nat}
theorem conS_of_bodyD (ho : (hd.heap_1 w.params).lookup f = some ⟨oc, od, .func (fnOf name qual params body scope dV kV doc pm an cdv ct), osl⟩) (hcd : codeIn (hd.heap_1 w.params) cdv qual = true)
    (hbind : ∀ s, BindsTo s (fnOf name qual params body scope dV kV doc pm an cdv ct) ⟨vs, []⟩ binds) (hloc : ∀ y ∈ binds, scope.names.lookup y.1 = some .local)
    (h : ∀ (mean : ExcName → Option Value) (mg mb : Str → Option Value) (dp un : Nat) (gd : Option (List Code)) (cn : Str) (cs : Scope) (Lc ac : Addr) (ccd : Value) (cl : List (Str × Addr)) (outer : List Env) (base g : Heap) (L' : Addr) (s : Shared),
      Below (ktrTop dp un gd cn cs Lc ac ccd cl outer) base (envX cn cs Lc ac ccd cl :: outer) g → Fr g L' s.heap (fun y => binds.reverse.lookup y) → (hd.heap_1 w.params).In g → News g L' s.heap led → Top hd.view_1 (looseW hd.view_1 lo3) mean mg mb g → dp + 1 + d < recursionLimit → un + 3 + 10 * d < cLine →
      (hd.heap_1 w.params).In base → Top hd.view_1 (looseW hd.view_1 lo3) mean mg mb base → KtsDicts (frs (envX cn cs Lc ac ccd cl :: outer)) g →
      wpAny (model PySem.Challenge.pw_wf0088_01 w) ((ktrTop dp un gd cn cs Lc ac ccd cl outer).deeper (envOf qual scope L' f cdv)) (execs body (envOf qual scope L' f cdv)) (BodyRetS (frs (envX cn cs Lc ac ccd cl :: outer)) g L' s Ret) (fun _ _ => False) s)
    (hco : scope.isCoroutine = false) (hgen : scope.isGenerator = false) (hk : scope.kind = .function) (hcell : ∀ x ∈ scope.names, x.2 ≠ .cell) : ConS w (d + 1) f led vs Ret := by
  intro mean mg mb dp un gd cn cs a ccd cl outer A₀ base h₀ L m s E B F X₀ N T hck hdp hun XB TB D
  refine wpAny_call ?_
  have X := X₀.keeps F.keep
  have hf : (envX cn cs L a ccd cl).frame = some L := rfl
  refine codeAny_call_def (fd := fnOf name qual params body scope dV kV doc pm an cdv ct) (body := body) (binds := binds) (by show dp < _; omega) (X _ _ ho) rfl (T.nolimit.keeps F.keep) (codeRec_of X hcd) rfl (hbind s) hcell hloc (fun h₁ hns hk₁ => ?_) hco hgen hk
  have nm : ∀ b o, h₀.get? b = some o → b ∉ led.map (·.1) := fun b o e q => by
    obtain ⟨p, hp, rfl⟩ := List.mem_map.mp q
    rw [(N p hp).2.2] at e; cases e
  obtain ⟨FG, BG, st, _⟩ := groundX (R := fun _ _ => True) (env := envX cn cs L a ccd cl) (A := ktrTop dp un gd cn cs L a ccd cl outer) B F N rfl rfl hck
  have k1 : ∀ b o, (hideAll s.heap (led.map (·.1))).get? b = some o → s.heap.get? b = some o := fun b o e => of_hideAll _ e
  have k2 : (hideAll s.heap (led.map (·.1))).objs.size = s.heap.objs.size := hideAll_size _ _
  have k3 : ∀ p ∈ led, (hideAll s.heap (led.map (·.1))).get? p.1 = none := fun p hp => hideAll_none _ (List.mem_map_of_mem hp)
  generalize hideAll s.heap (led.map (·.1)) = G at FG BG st k1 k2 k3
  obtain ⟨oL, es, ep, hLg, hLd, hLk, hLf⟩ := FG.ns
  have hN : ∀ (sl : Array (Option Value)) h', h'.get? L = some { oL with slots := sl } → Heap.Ns h' L m := fun sl h' e => ⟨_, es, ep, e, hLd, hLk, hLf⟩
  have nL₀ : h₀.get? L = none := kts_self F
  refine wpAny_mono (h mean mg mb dp un gd cn cs L a ccd cl outer base G s.heap.objs.size { s with heap := h₁, toks := s.toks + binds.length } BG ⟨hns, fun b o e => hk₁ b o (k1 b o e), Nat.le_of_eq k2⟩ (X₀.keeps st)
    (fun p hp => ⟨hk₁ _ _ (N p hp).1, Nat.ne_of_lt (Heap.lt_size (N p hp).1), k3 p hp⟩) (T.keeps st) (by omega) (by omega) XB TB (fun b hb => ?_)) (fun fl s' hl => ?_) fun _ _ y => y.elim
  · rcases mem_frs hf hb with rfl | hb
    · exact ⟨oL, es, ep, hLg, hLd⟩
    · obtain ⟨o, es', n', ho', hd'⟩ := D b hb
      exact ⟨o, es', n', st b o ho', hd'⟩
  · obtain ⟨g', m', led', h', tk', rfl, T', F', N', r⟩ := hl
    obtain ⟨sl, hs⟩ := T'.up hLg
    obtain ⟨T₁, S₁⟩ := kts_turn_at (h := h') (fs := frs outer) (g := h₀)
      (fun b hb => by
        obtain ⟨_, o, ho', _⟩ := B.frames.mem hb
        exact ⟨o, ho'⟩)
      (fun b o e nmem => F'.keep b o (T'.other b o (st b o e) (fun q => by
        rcases mem_frs hf q with z | z
        · rw [z, nL₀] at e
          cases e
        · exact nmem z)))
      (fun b o e hm => by
        obtain ⟨sl', hs'⟩ := T'.up (st b o e)
        exact ⟨sl', F'.keep _ _ hs'⟩)
    have B₃ : Below A₀ base outer (ktsHeap h' (frs outer) h₀) := ⟨B.stack, fun b o e => T₁.other b o (B.stays b o e) (fun hm => by
      rw [(B.frames.mem hm).1] at e
      cases e), B.frames.of_keeps fun b o e _ => by
      obtain ⟨sl', hs'⟩ := T₁.up e
      exact ⟨_, hs', rfl⟩⟩
    refine ⟨_, led', h', tk', rfl, ⟨T₁, B₃, XB.keeps B₃.stays, TB.keeps B₃.stays, D.turn T₁⟩, ⟨hN sl _ (F'.keep _ _ hs), S₁, by rw [T₁.size]; exact F.above⟩, fun p hp => ⟨(N' p hp).1, fun q => ?_, ?_⟩, r⟩
    · have := (N' p hp).2.2; rw [q, hs] at this; cases this
    · refine T₁.none_ _ ?_
      cases q : h₀.get? p.1 with
      | none => rfl
      | some o =>
        obtain ⟨sl', hs'⟩ := T'.up (st _ _ q)
        have := (N' p hp).2.2
        rw [hs'] at this
        cases this
theorem conS_of_body (ho : (hd.heap_1 w.params).lookup f = some ⟨oc, od, .func (fnOf name qual params body scope dV kV doc pm an cdv ct), osl⟩) (hcd : codeIn (hd.heap_1 w.params) cdv qual = true)
    (hbind : ∀ s, BindsTo s (fnOf name qual params body scope dV kV doc pm an cdv ct) ⟨vs, []⟩ binds) (hloc : ∀ y ∈ binds, scope.names.lookup y.1 = some .local)
    (h : ∀ (mean : ExcName → Option Value) (mg mb : Str → Option Value) (dp un : Nat) (gd : Option (List Code)) (outer : List Env) (A₀ : Around) (base g : Heap) (L' : Addr) (s : Shared),
      Below A₀ base outer g → Fr g L' s.heap (fun y => binds.reverse.lookup y) → (hd.heap_1 w.params).In g → News g L' s.heap led → Top hd.view_1 (looseW hd.view_1 lo3) mean mg mb g → dp + d < recursionLimit → un + 10 * d < cLine →
      (hd.heap_1 w.params).In base → Top hd.view_1 (looseW hd.view_1 lo3) mean mg mb base → KtsDicts (frs outer) g → ktrTop dp un gd qual scope L' f cdv [] outer = A₀.deeper (envOf qual scope L' f cdv) →
      wpAny (model PySem.Challenge.pw_wf0088_01 w) (ktrTop dp un gd qual scope L' f cdv [] outer) (execs body (envOf qual scope L' f cdv)) (BodyRetS (frs outer) g L' s Ret) (fun _ _ => False) s)
    (hco : scope.isCoroutine = false) (hgen : scope.isGenerator = false) (hk : scope.kind = .function) (hcell : ∀ x ∈ scope.names, x.2 ≠ .cell) : ConS w (d + 1) f led vs Ret :=
  conS_of_bodyD ho hcd hbind hloc (fun mean mg mb dp un gd cn cs Lc ac ccd cl outer base g L' s B F X N T hdp hun XB TB D =>
    h mean mg mb (dp + 1) (un + 3) gd (envX cn cs Lc ac ccd cl :: outer) _ base g L' s B F X N T hdp hun XB TB D rfl) hco hgen hk hcell
end
theorem ConS.use {w : World} {d : Nat} {f : Addr} {led : Led} {vs : List Value} {Ret : Value → Led → Prop} (C : ConS w d f led vs Ret) {mean : ExcName → Option Value} {mg mb : Str → Option Value} {dp un : Nat} {gd : Option (List Code)} {cn : Str} {cs : Scope} {a : Addr} {ccd : Value} {cl : List (Str × Addr)} {outer : List Env} {A₀ : Around} {base h₀ : Heap} {L : Addr} {m : Str → Option Value} {s : Shared} {Q E : Value → Shared → Prop}
    (B : Below A₀ base outer h₀) (F : Fr h₀ L s.heap m) (X : (hd.heap_1 w.params).In h₀) (N : News h₀ L s.heap led) (T : Top hd.view_1 (looseW hd.view_1 lo3) mean mg mb h₀) (hk : cs.kind = .function) (hdd : dp + d < recursionLimit) (hu : un + 10 * d < cLine)
    (XB : (hd.heap_1 w.params).In base) (TB : Top hd.view_1 (looseW hd.view_1 lo3) mean mg mb base) (D : KtsDicts (frs outer) h₀)
    (ret : ∀ v g led' h' tk', KtsTurn (frs outer) h₀ g → Below A₀ base outer g → (hd.heap_1 w.params).In g → Top hd.view_1 (looseW hd.view_1 lo3) mean mg mb g → KtsDicts (frs outer) g → Fr g L h' m → News g L h' led' → Ret v led' → Q v { s with heap := h', toks := tk' }) :
    wpAny (model PySem.Challenge.pw_wf0088_01 w) (ktrTop dp un gd cn cs L a ccd cl outer) (call (.ref f) vs) Q E s :=
  wpAny_mono (C mean mg mb dp un gd cn cs a ccd cl outer A₀ base h₀ L m s E B F X N T hk hdd hu XB TB D) (fun v s' ⟨g, led', h', tk', e, G, F', N', r⟩ => by subst e; exact ret v g led' h' tk' G.t G.b G.x G.top G.d F' N' r) fun _ _ x => x
end Mine
end
section
open PySem PySem.W PyProof.Rows PySem.Spec PySem.Calls
set_option maxRecDepth 100000
set_option maxHeartbeats 8000000
namespace Mine
theorem offMK : True := by
  w_top off
  trivial
def ConK (w : World) (d : Nat) (f : Addr) (led : Led) (vs : List Value) (kw : List (Str × Value)) (Ret : Value → Led → Prop) : Prop :=
  ∀ (mean : ExcName → Option Value) (mg mb : Str → Option Value) (dp un : Nat) (gd : Option (List Code)) (cn : Str) (cs : Scope) (a : Addr) (ccd : Value) (cl : List (Str × Addr)) (outer : List Env) (A₀ : Around) (base h₀ : Heap) (L : Addr) (m : Str → Option Value) (s : Shared) (E : Value → Shared → Prop),
    Below A₀ base outer h₀ → Fr h₀ L s.heap m → (hd.heap_1 w.params).In h₀ → News h₀ L s.heap led → Top hd.view_1 (looseW hd.view_1 lo3) mean mg mb h₀ → cs.kind = .function → dp + d < recursionLimit → un + 10 * d < cLine →
    wpAny (model PySem.Challenge.pw_wf0088_01 w) (ktrTop dp un gd cn cs L a ccd cl outer) (call (.ref f) vs kw) (Ret0 h₀ L m s Ret) E s
section
variable {w : World} {f : Addr} {qual name : Str} {params : Arguments} {body : List Stmt} {scope : Scope} {dV kV doc pm cdv ct oc : Value} {an od : Option Addr} {osl : Array (Option Value)} {vs : List Value} {kw : List (Str × Value)} {binds : List (Str × Value)} {led : Led} {Ret : Value → Led → Prop} {d : Nat}
theorem conK_of_body (ho : (hd.heap_1 w.params).lookup f = some ⟨oc, od, .func (fnOf name qual params body scope dV kV doc pm an cdv ct), osl⟩) (hcd : codeIn (hd.heap_1 w.params) cdv qual = true)
    (hbind : ∀ s, (hd.heap_1 w.params).In s.heap → BindsTo s (fnOf name qual params body scope dV kV doc pm an cdv ct) ⟨vs, kw⟩ binds) (hloc : ∀ y ∈ binds, scope.names.lookup y.1 = some .local)
    (h : ∀ (mean : ExcName → Option Value) (mg mb : Str → Option Value) (dp un : Nat) (gd : Option (List Code)) (outer : List Env) (A₀ : Around) (base g : Heap) (L' : Addr) (s : Shared),
      Below A₀ base outer g → Fr g L' s.heap (fun y => binds.reverse.lookup y) → (hd.heap_1 w.params).In g → News g L' s.heap led → Top hd.view_1 (looseW hd.view_1 lo3) mean mg mb g → dp + d < recursionLimit → un + 10 * d < cLine →
      wpAny (model PySem.Challenge.pw_wf0088_01 w) (ktrTop dp un gd qual scope L' f cdv [] outer) (execs body (envOf qual scope L' f cdv)) (BodyRet g L' s Ret) (fun _ _ => False) s)
    (hco : scope.isCoroutine = false) (hgen : scope.isGenerator = false) (hk : scope.kind = .function) (hcell : ∀ x ∈ scope.names, x.2 ≠ .cell) : ConK w (d + 1) f led vs kw Ret := by
  intro mean mg mb dp un gd cn cs a ccd cl outer A₀ base h₀ L m s E B F X N T hck hdp hun
  refine wpAny_call (code_def B F X N T rfl rfl hck ho hcd (by show dp < _; omega) (hbind s (X.keeps F.keep)) hloc (fun g L' h₁ FG F' N' B' X' T' => ?_) hco hgen hk hcell)
  refine wpAny_mono (h mean mg mb (dp + 1) (un + 3) gd _ _ base g L' _ B' F' X' N' T' (by omega) (by omega)) (fun fl s' hr => ?_) (fun _ _ q => q.elim)
  obtain ⟨m', led', h', tk', rfl, F₂, N₂, r⟩ := hr
  exact ⟨L', m', led', F₂, N₂, fun F₃ N₃ => ⟨led', h', tk', rfl, F₃, N₃, r⟩⟩
/-- a def whose locals are captured -/
theorem conK_of_bodyC (ho : (hd.heap_1 w.params).lookup f = some ⟨oc, od, .func (fnOf name qual params body scope dV kV doc pm an cdv ct), osl⟩) (hcd : codeIn (hd.heap_1 w.params) cdv qual = true)
    (hbind : ∀ s, (hd.heap_1 w.params).In s.heap → BindsTo s (fnOf name qual params body scope dV kV doc pm an cdv ct) ⟨vs, kw⟩ binds)
    (hkind : (binds.all fun y => scope.names.lookup y.1 == some .local || scope.names.lookup y.1 == some .cell) = true) (hnd : ((cellsFrom 0 scope.names []).map (·.1)).Nodup)
    (h : ∀ (mean : ExcName → Option Value) (mg mb : Str → Option Value) (dp un : Nat) (gd : Option (List Code)) (outer : List Env) (A₀ : Around) (base g : Heap) (L' : Addr) (s : Shared) (cells : Led),
      Below A₀ base outer g → Fr g L' s.heap (bindL (envOfC qual scope L' f cdv).kindOf binds fun _ => none) → (hd.heap_1 w.params).In g → News g L' s.heap (cells ++ led) → Top hd.view_1 (looseW hd.view_1 lo3) mean mg mb g → dp + d < recursionLimit → un + 10 * d < cLine →
      CellsAre (bindC (envOfC qual scope L' f cdv).kindOf binds fun _ => none) (cellsFrom (L' + 1) scope.names []) cells → (∀ p ∈ led, p.1 < L') →
      wpAny (model PySem.Challenge.pw_wf0088_01 w) (ktrTop dp un gd qual scope L' f cdv (cellsFrom (L' + 1) scope.names []) outer) (execs body (envOfC qual scope L' f cdv)) (BodyRet g L' s Ret) (fun _ _ => False) s)
    (hco : scope.isCoroutine = false) (hgen : scope.isGenerator = false) (hk : scope.kind = .function) : ConK w (d + 1) f led vs kw Ret := by
  intro mean mg mb dp un gd cn cs a ccd cl outer A₀ base h₀ L m s E B F X N T hck hdp hun
  refine wpAny_call (code_defC B F X N T rfl rfl hck ho hcd (by show dp < _; omega) (hbind s (X.keeps F.keep)) hkind hnd (fun g L' h₁ tk cells FG F' N' Y B' X' T' l => ?_) hco hgen hk)
  refine wpAny_mono (h mean mg mb (dp + 1) (un + 3) gd _ _ base g L' _ cells B' F' X' N' T' (by omega) (by omega) Y l) (fun fl s' hr => ?_) (fun _ _ q => q.elim)
  obtain ⟨m', led', h', tk', rfl, F₂, N₂, r⟩ := hr
  exact ⟨L', m', led', F₂, N₂, fun F₃ N₃ => ⟨led', h', tk', rfl, F₃, N₃, r⟩⟩
end
theorem ConK.use {w : World} {d : Nat} {f : Addr} {led : Led} {vs : List Value} {kw : List (Str × Value)} {Ret : Value → Led → Prop} (C : ConK w d f led vs kw Ret) {mean : ExcName → Option Value} {mg mb : Str → Option Value} {dp un : Nat} {gd : Option (List Code)} {cn : Str} {cs : Scope} {a : Addr} {ccd : Value} {cl : List (Str × Addr)} {outer : List Env} {A₀ : Around} {base h₀ : Heap} {L : Addr} {m : Str → Option Value} {s : Shared} {Q E : Value → Shared → Prop}
    (B : Below A₀ base outer h₀) (F : Fr h₀ L s.heap m) (X : (hd.heap_1 w.params).In h₀) (N : News h₀ L s.heap led) (T : Top hd.view_1 (looseW hd.view_1 lo3) mean mg mb h₀) (hk : cs.kind = .function) (hdd : dp + d < recursionLimit) (hu : un + 10 * d < cLine)
    (ret : ∀ v led' h' tk', Fr h₀ L h' m → News h₀ L h' led' → Ret v led' → Q v { s with heap := h', toks := tk' }) :
    wpAny (model PySem.Challenge.pw_wf0088_01 w) (ktrTop dp un gd cn cs L a ccd cl outer) (call (.ref f) vs kw) Q E s :=
  wpAny_mono (C mean mg mb dp un gd cn cs a ccd cl outer A₀ base h₀ L m s E B F X N T hk hdd hu) (fun v s' ⟨led', h', tk', e, F', N', r⟩ => by subst e; exact ret v led' h' tk' F' N' r) fun _ _ x => x
end Mine
end
section
open PySem PySem.W PyProof.Rows PySem.Spec PySem.Calls
set_option maxRecDepth 100000
set_option maxHeartbeats 8000000
namespace Mine
theorem offML : True := by
  w_top off
  trivial
abbrev LedG := List (Addr × Obj)
/-- what a turn of a for must leave; the ground may turn -/
def GStep (Gd : Heap → Prop) (L : Addr) (s : Shared) (I : Addr) (it : Obj) (J : (Str → Option Value) → LedG → Prop) (Q : Flow → Shared → Prop) (f : Flow) (s₂ : Shared) : Prop :=
  match f with
  | .ret v => Q (.ret v) s₂
  | .brk => Q .next s₂
  | _ => ∃ g h' tk m' news', s₂ = { s with heap := h', toks := tk } ∧ Gd g ∧ Fr g L h' m' ∧ News g L h' ((I, it) :: news') ∧ (∀ p ∈ news', p.1 ≠ I) ∧ J m' news'
section
variable {Gd : Heap → Prop} {L : Addr} {s : Shared} {I : Addr} {it : Obj} {J : (Str → Option Value) → LedG → Prop} {Q : Flow → Shared → Prop}
theorem GStep.mk {g h' : Heap} {tk : Nat} {m' : Str → Option Value} {all : LedG} (news' : LedG) (G : Gd g)
    (F : Fr g L h' m') (N : News g L h' all) (hI : (I, it) ∈ all) (sub : ∀ p ∈ news', p ∈ all) (off : ∀ p ∈ news', p.1 ≠ I) (j : J m' news') : GStep Gd L s I it J Q .next { s with heap := h', toks := tk } :=
  ⟨g, h', tk, m', news', rfl, G, F, fun p hp => by
    rcases List.mem_cons.mp hp with rfl | hp
    · exact N _ hI
    · exact N _ (sub p hp), off, j⟩
theorem GStep.brkI {s₂ : Shared} (h : Q .next s₂) : GStep Gd L s I it J Q .brk s₂ := h
theorem GStep.retI {v : Value} {s₂ : Shared} (h : Q (.ret v) s₂) : GStep Gd L s I it J Q (.ret v) s₂ := h
theorem GStep.cont {s₂ : Shared} (h : GStep Gd L s I it J Q .next s₂) : GStep Gd L s I it J Q .cont s₂ := h
end
section
variable {prog : Program} {w : World} {A : Around} {s : Shared} {env : Env} {h₀ : Heap} {target : Expr} {body : List Stmt} {Q : Flow → Shared → Prop}
def ForGoal (prog : Program) (w : World) (A : Around) (target : Expr) (body : List Stmt) (env : Env) (Q : Flow → Shared → Prop) (x : Value) (s₁ : Shared) : Prop :=
  wpAny (model prog w) A (pyIter x) (fun it s₂ => codeAny (model prog w) A (.forLoop target it body [] env) (fun r s' => match r with | .ok f => Q f s' | .error _ => False) s₂) (fun _ _ => False) s₁
theorem for_start {iter : Expr} {pos : Pos} (h : wpAny (model prog w) A (eval iter env) (fun x s₁ => Hold (ForGoal prog w A target body env Q x s₁)) (fun _ _ => False) s)
    (hs : ∀ x, foldedSetIterable iter env x = pure x := by intro _; rfl) : wpAny (model prog w) A (exec (.For target iter body [] pos) env) Q (fun _ _ => False) s :=
  wpAny_For (wpAny_mono h (fun _ _ h₁ => wpAny_mono h₁ (fun _ _ h₂ => codeAny_mono h₂ fun r _ h₃ => by
    cases r with
    | ok f => exact h₃
    | error e => exact h₃.elim) fun _ _ e => e.elim) fun _ _ e => e.elim) hs

theorem for_go {l I : Addr} {ol : Obj} {n : Nat} {P : Nat → Value → Prop} {St : Nat → Heap → Prop} {m₀ : Str → Option Value} {news : LedG} (Gd : Heap → Prop) (J : Nat → (Str → Option Value) → LedG → Prop)
    (W : Walks prog w A I [I, l] [I] n P St) (hSt : ∀ i h, St i h → ∃ o, h.get? I = some o) (hcls : ∀ i h o, St i h → h.get? I = some o → o.cls ≠ .type "tuple")
    (hgo : ∀ i (s' : Shared) v (Q' : Unit → Shared → Prop), P i v → St (i + 1) s'.heap → Q' () s' → wpAny (model prog w) A (letOwnedTupleGo target (.ref I) v) Q' (fun _ _ => False) s')
    (hIL : I ≠ env.locals) (hI₀ : ∀ g, Gd g → g.get? I = none) (hI : ∀ p ∈ news, p.1 ≠ I)
    (hJl : ∀ i m nx, J i m nx → (l, ol) ∈ nx) (hst : St 0 s.heap) (G : Gd h₀) (F : Fr h₀ env.locals s.heap m₀) (N : News h₀ env.locals s.heap news) (h0 : J 0 m₀ news)
    (turn : ∀ i v g m₁ news₁ h tk it, i < n → P i v → J i m₁ news₁ → it.cls ≠ .type "tuple" → Gd g → (∀ p ∈ news₁, p.1 ≠ I) → Fr g env.locals h m₁ → News g env.locals h ((I, it) :: news₁) →
      wpAny (model prog w) A (assign target env v) (fun _ s₂ => wpAny (model prog w) A (execs body env) (GStep Gd env.locals s I it (J (i + 1)) Q) (fun _ _ => False) s₂) (fun _ _ => False) { s with heap := h, toks := tk })
    (done : ∀ g m₁ news₁ h tk, J n m₁ news₁ → Gd g → Fr g env.locals h m₁ → News g env.locals h news₁ → Q .next { s with heap := h, toks := tk }) :
    codeAny (model prog w) A (.forLoop target (.ref I) body [] env) (fun r s' => match r with | .ok f => Q f s' | .error _ => False) s := by
  revert W hSt hcls hgo hIL hI₀ hI hJl hst G F N h0 turn done
  revert prog w A s env h₀ target body Q l I ol n P St m₀ news Gd J
  refine no_implicit_lambda% (henk13 (by repeat' first | exact has_nat | exact has_world | exact has_list | exact has_str | exact has_val | exact has_around | exact has_shared | exact has_heap | exact has_opt | exact has_prop | exact has_expr | exact has_scope | exact has_pos | exact has_env | exact has_prog | exact has_obj | exact has_array | apply has_fun | apply has_pair) ?_)
  intro prog w A s env h₀ target body Q l I ol n
  clear_value prog w A s env h₀ target body Q l I ol n
  refine no_implicit_lambda% (henk6 (by repeat' first | exact has_nat | exact has_world | exact has_list | exact has_str | exact has_val | exact has_around | exact has_shared | exact has_heap | exact has_opt | exact has_prop | exact has_expr | exact has_scope | exact has_pos | exact has_env | exact has_prog | exact has_obj | exact has_array | apply has_fun | apply has_pair) ?_)
  intro P St m₀ news Gd J
  clear_value P St m₀ news Gd J
  intro W hSt hcls hgo hIL hI₀ hI hJl hst G F N h0 turn done
  refine codeAny_forLoop_any
    (fun k s' => ∃ g h' tk m' news' i, s' = { s with heap := h', toks := tk } ∧ St i h' ∧ Gd g ∧ Fr g env.locals h' m' ∧ News g env.locals h' news' ∧ (∀ p ∈ news', p.1 ≠ I) ∧ J i m' news' ∧ i ≤ n ∧ k = n + 1 - i) ?_ (n + 1)
    ⟨h₀, s.heap, s.toks, m₀, news, 0, rfl, hst, G, F, N, hI, h0, Nat.zero_le _, rfl⟩
  rintro k s' ⟨g, h', tk, m', news', i, rfl, hst', G', F', N', hnw', hJ, hi, rfl⟩
  have next : ∀ h₁ : Heap, (∀ b o, b ∉ [I] → h'.get? b = some o → h₁.get? b = some o) → Fr g env.locals h₁ m' ∧ News g env.locals h₁ news' := fun h₁ hk₁ =>
    ⟨⟨F'.ns.at' fun o e => hk₁ _ o (by simpa using Ne.symm hIL) e, fun b o e => hk₁ b o (by
      simp only [List.mem_singleton]
      rintro rfl
      rw [hI₀ g G'] at e; cases e) (F'.keep b o e), F'.above⟩, fun p hp => ⟨hk₁ _ _ (by simpa using hnw' p hp) (N' p hp).1, (N' p hp).2⟩⟩
  by_cases hlt : i < n
  · refine W.item i _ _ _ hlt hst' fun v h₁ tk₁ hP hst₁ hk₁ => ?_
    obtain ⟨F₁, N₁⟩ := next h₁ hk₁
    obtain ⟨oI, hoI⟩ := hSt _ _ hst₁
    have N₂ : News g env.locals h₁ ((I, oI) :: news') := fun p hp => by
      rcases List.mem_cons.mp hp with rfl | hp
      · exact ⟨hoI, hIL, hI₀ g G'⟩
      · exact N₁ p hp
    refine wpAny_mono (hgo i { s with heap := h₁, toks := tk₁ } v (fun _ s₁' => s₁' = { s with heap := h₁, toks := tk₁ }) hP hst₁ rfl) (fun _ s₁' e => ?_) (fun _ _ e => e.elim)
    subst e
    refine wpAny_mono (turn i v g m' news' h₁ tk₁ oI hlt hP hJ (hcls _ _ _ hst₁ hoI) G' hnw' F₁ N₂) (fun _ s₂ h₂ => wpAny_mono h₂ (fun f s₃ h₃ => ?_) fun _ _ e => e.elim) fun _ _ e => e.elim
    have fin : (∃ g h'' tk m'' news'', s₃ = { s with heap := h'', toks := tk } ∧ Gd g ∧ Fr g env.locals h'' m'' ∧ News g env.locals h'' ((I, oI) :: news'') ∧ (∀ p ∈ news'', p.1 ≠ I) ∧ J (i + 1) m'' news'') →
        ∃ m, m < n + 1 - i ∧ ∃ g h' tk m' news' i, s₃ = { s with heap := h', toks := tk } ∧ St i h' ∧ Gd g ∧ Fr g env.locals h' m' ∧ News g env.locals h' news' ∧ (∀ p ∈ news', p.1 ≠ I) ∧ J i m' news' ∧ i ≤ n ∧ m = n + 1 - i := by
      rintro ⟨g₃, h₃', tk₃, m₃, news₃, rfl, G₃, F₃, N₃, ha₃, hJ₃⟩
      refine ⟨n + 1 - (i + 1), by omega, g₃, h₃', tk₃, m₃, news₃, i + 1, rfl, ?_, G₃, F₃, fun p hp => N₃ p (.tail _ hp), ha₃, hJ₃, hlt, rfl⟩
      refine W.frame _ _ _ hst₁ fun b hb o e => ?_
      rcases List.mem_cons.mp hb with rfl | hb
      · rw [hoI] at e
        cases e
        exact (N₃ _ (.head _)).1
      · have hbl : b = l := List.mem_singleton.mp hb
        subst hbl
        have e1 := (N₁ _ (hJl _ _ _ hJ)).1
        rw [e] at e1
        cases e1
        exact (N₃ _ (.tail _ (hJl _ _ _ hJ₃))).1
    cases f with
    | ret v => exact h₃
    | brk => exact h₃
    | cont => exact fin h₃
    | next => exact fin h₃
  · obtain rfl : i = n := by omega
    refine W.done _ _ _ hst' fun h₁ tk₁ hk₁ => wpAny_execs_nil ?_
    obtain ⟨F₁, N₁⟩ := next h₁ hk₁
    exact done g m' news' h₁ tk₁ hJ G' F₁ N₁

/-- a for over a list of the ledger's -/
theorem for_listC {l : Addr} {vs : List Value} {nn : Nat} {m₀ : Str → Option Value} {news : LedG} (Gd : Heap → Prop) (J : Nat → (Str → Option Value) → LedG → Prop)
    (hh : A.handled = none) (hl : (l, listOf vs.toArray nn) ∈ news)
    (htg : (∀ it v, letOwnedTupleGo target it v = pure ()) ∨ ((∃ es k p, target = .Tuple es k p) ∧ ∀ v ∈ vs, ∃ a, v = .ref a))
    (hGd : ∀ g, Gd g → g.objs.size ≤ s.heap.objs.size)
    (G : Gd h₀) (F : Fr h₀ env.locals s.heap m₀) (N : News h₀ env.locals s.heap news) (h0 : J 0 m₀ news) (hJl : ∀ i m nx, J i m nx → (l, listOf vs.toArray nn) ∈ nx)
    (turn : ∀ i v g m₁ news₁ h tk I it, vs[i]? = some v → J i m₁ news₁ → it.cls ≠ .type "tuple" → Gd g → (∀ p ∈ news₁, p.1 ≠ I) → (∀ p ∈ news, p.1 < I) → Fr g env.locals h m₁ → News g env.locals h ((I, it) :: news₁) →
      wpAny (model prog w) A (assign target env v) (fun _ s₂ => wpAny (model prog w) A (execs body env) (GStep Gd env.locals s I it (J (i + 1)) Q) (fun _ _ => False) s₂) (fun _ _ => False) { s with heap := h, toks := tk })
    (done : ∀ g m₁ news₁ h tk, J vs.length m₁ news₁ → Gd g → Fr g env.locals h m₁ → News g env.locals h news₁ → Q .next { s with heap := h, toks := tk }) :
    ForGoal prog w A target body env Q (.ref l) s := by
  have hls : s.heap.IsList l vs.toArray := ⟨_, (N _ hl).1, rfl, nn, rfl⟩
  have hne : l ≠ s.heap.objs.size := Nat.ne_of_lt (Heap.lt_size (N _ hl).1)
  refine wpAny_pyIter_list hls ?_
  have W := Walks.list (prog := prog) (w := w) hh s.heap.objs.size l hne vs.toArray
  have hlen : vs.toArray.size = vs.length := by simp
  rw [hlen] at W
  refine for_go (s := { s with heap := _ }) (ol := listOf vs.toArray nn) Gd J W (fun i h st => ?_) (fun i h o st e => ?_) ?_ (Nat.ne_of_gt F.ns.lt) (fun g hg => Heap.get?_none_of_le (hGd g hg)) (fun p hp => Nat.ne_of_lt (Heap.lt_size (N p hp).1)) hJl
    ⟨⟨_, Heap.get?_push_size _ rfl, rfl, rfl⟩, hls.at fun o e => Heap.get?_push_of_some _ e⟩ G (F.push _) (fun p hp => ⟨Heap.get?_push_of_some _ (N p hp).1, (N p hp).2⟩) h0 ?_ (fun g m nx h tk q => done g m nx h tk q)
  · obtain ⟨⟨o, ho, _⟩, _⟩ := st
    exact ⟨o, ho⟩
  · obtain ⟨⟨o', ho, hc, _⟩, _⟩ := st
    rw [ho] at e
    cases e
    rw [hc]
    exact fun q => absurd (Value.type.inj q) (by decide)
  · intro i s' v Q' hP hst hq
    rcases htg with ht | ⟨⟨es, k, p, rfl⟩, hv⟩
    · rw [ht]; exact wpAny_pure hq
    · have hv' : vs[i]? = some v := by simpa using hP
      obtain ⟨a, rfl⟩ := hv v (List.mem_of_getElem? hv')
      exact wpAny_letOwnedTupleGo_listiter hst.1 hq
  · intro i v g m₁ news₁ h tk it hi hP hJ hcl hG hoff F₁ N₁
    exact turn i v g m₁ news₁ h tk _ it (by simpa using hP) hJ hcl hG hoff (fun p hp => Heap.lt_size (N p hp).1) F₁ N₁
/-- a for over a list of the ledger's -/
theorem for_list {l : Addr} {vs : List Value} {nn : Nat} {m₀ : Str → Option Value} {news : LedG} (Gd : Heap → Prop) (J : Nat → (Str → Option Value) → LedG → Prop)
    (hh : A.handled = none) (hl : (l, listOf vs.toArray nn) ∈ news)
    (htg : (∀ it v, letOwnedTupleGo target it v = pure ()) ∨ ((∃ es k p, target = .Tuple es k p) ∧ ∀ v ∈ vs, ∃ a, v = .ref a))
    (hGd : ∀ g, Gd g → g.objs.size ≤ s.heap.objs.size)
    (G : Gd h₀) (F : Fr h₀ env.locals s.heap m₀) (N : News h₀ env.locals s.heap news) (h0 : J 0 m₀ news) (hJl : ∀ i m nx, J i m nx → (l, listOf vs.toArray nn) ∈ nx)
    (turn : ∀ i v g m₁ news₁ h tk I it, vs[i]? = some v → J i m₁ news₁ → Gd g → (∀ p ∈ news₁, p.1 ≠ I) → (∀ p ∈ news, p.1 < I) → Fr g env.locals h m₁ → News g env.locals h ((I, it) :: news₁) →
      wpAny (model prog w) A (assign target env v) (fun _ s₂ => wpAny (model prog w) A (execs body env) (GStep Gd env.locals s I it (J (i + 1)) Q) (fun _ _ => False) s₂) (fun _ _ => False) { s with heap := h, toks := tk })
    (done : ∀ g m₁ news₁ h tk, J vs.length m₁ news₁ → Gd g → Fr g env.locals h m₁ → News g env.locals h news₁ → Q .next { s with heap := h, toks := tk }) :
    ForGoal prog w A target body env Q (.ref l) s :=
  for_listC Gd J hh hl htg hGd G F N h0 hJl (fun i v g m₁ news₁ h tk I it hv hJ _ => turn i v g m₁ news₁ h tk I it hv hJ) done
/-- a for over a tuple of the ledger's -/
theorem for_tuple {l : Addr} {vs : List Value} {nn : Nat} {m₀ : Str → Option Value} {news : LedG} (Gd : Heap → Prop) (J : Nat → (Str → Option Value) → LedG → Prop)
    (hh : A.handled = none) (hl : (l, ({ cls := .type "tuple", data := .seq vs.toArray nn } : Obj)) ∈ news)
    (htg : ∀ it v, letOwnedTupleGo target it v = pure ())
    (hGd : ∀ g, Gd g → g.objs.size ≤ s.heap.objs.size)
    (G : Gd h₀) (F : Fr h₀ env.locals s.heap m₀) (N : News h₀ env.locals s.heap news) (h0 : J 0 m₀ news) (hJl : ∀ i m nx, J i m nx → (l, ({ cls := .type "tuple", data := .seq vs.toArray nn } : Obj)) ∈ nx)
    (turn : ∀ i v g m₁ news₁ h tk I it, vs[i]? = some v → J i m₁ news₁ → Gd g → (∀ p ∈ news₁, p.1 ≠ I) → (∀ p ∈ news, p.1 < I) → Fr g env.locals h m₁ → News g env.locals h ((I, it) :: news₁) →
      wpAny (model prog w) A (assign target env v) (fun _ s₂ => wpAny (model prog w) A (execs body env) (GStep Gd env.locals s I it (J (i + 1)) Q) (fun _ _ => False) s₂) (fun _ _ => False) { s with heap := h, toks := tk })
    (done : ∀ g m₁ news₁ h tk, J vs.length m₁ news₁ → Gd g → Fr g env.locals h m₁ → News g env.locals h news₁ → Q .next { s with heap := h, toks := tk }) :
    ForGoal prog w A target body env Q (.ref l) s := by
  have hls : s.heap.IsTuple l vs.toArray := ⟨_, (N _ hl).1, rfl, nn, rfl⟩
  have hne : l ≠ s.heap.objs.size := Nat.ne_of_lt (Heap.lt_size (N _ hl).1)
  refine wpAny_pyIter_tuple hls ?_
  have W := Walks.tuple (prog := prog) (w := w) hh s.heap.objs.size l hne vs.toArray
  have hlen : vs.toArray.size = vs.length := by simp
  rw [hlen] at W
  refine for_go (s := { s with heap := _ }) (ol := { cls := .type "tuple", data := .seq vs.toArray nn }) Gd J W (fun i h st => ?_) (fun i h o st e => ?_) (fun i s' v Q' hP hst hq => by rw [htg]; exact wpAny_pure hq) (Nat.ne_of_gt F.ns.lt) (fun g hg => Heap.get?_none_of_le (hGd g hg)) (fun p hp => Nat.ne_of_lt (Heap.lt_size (N p hp).1)) hJl
    ⟨⟨_, Heap.get?_push_size _ rfl, rfl, rfl⟩, hls.at fun o e => Heap.get?_push_of_some _ e⟩ G (F.push _) (fun p hp => ⟨Heap.get?_push_of_some _ (N p hp).1, (N p hp).2⟩) h0 ?_ (fun g m nx h tk q => done g m nx h tk q)
  · obtain ⟨⟨o, ho, _⟩, _⟩ := st
    exact ⟨o, ho⟩
  · obtain ⟨⟨o', ho, hc, _⟩, _⟩ := st
    rw [ho] at e
    cases e
    rw [hc]
    exact fun q => absurd (Value.type.inj q) (by decide)
  · intro i v g m₁ news₁ h tk it hi hP hJ _ hG hoff F₁ N₁
    exact turn i v g m₁ news₁ h tk _ it (by simpa using hP) hJ hG hoff (fun p hp => Heap.lt_size (N p hp).1) F₁ N₁
end
end Mine
end
section
open PySem PySem.W PyProof.Rows PySem.Spec PySem.Calls
set_option maxRecDepth 100000
set_option maxHeartbeats 8000000
namespace Mine
theorem offMT : True := by
  w_top off
  trivial
inductive Fa2 {α β : Type} (R : α → β → Prop) : List α → List β → Prop where
  | nil : Fa2 R [] []
  | cons {a : α} {b : β} {l : List α} {r : List β} (h : R a b) (t : Fa2 R l r) : Fa2 R (a :: l) (b :: r)
section
variable {α β : Type} {R S : α → β → Prop}
theorem Fa2.mono (h : ∀ a b, R a b → S a b) : ∀ {l : List α} {r : List β}, Fa2 R l r → Fa2 S l r
  | _, _, .nil => .nil
  | _, _, .cons x t => .cons (h _ _ x) (t.mono h)
theorem Fa2.length : ∀ {l : List α} {r : List β}, Fa2 R l r → l.length = r.length
  | _, _, .nil => rfl
  | _, _, .cons _ t => by simp [t.length]
theorem Fa2.get : ∀ {l : List α} {r : List β}, Fa2 R l r → ∀ {i : Nat} {a : α}, l[i]? = some a → ∃ b, r[i]? = some b ∧ R a b
  | _, _, .nil, i, a, h => by simp at h
  | _, _, .cons x t, 0, a, h => by simp at h; subst h; exact ⟨_, rfl, x⟩
  | _, _, .cons x t, i + 1, a, h => by simpa using t.get (i := i) (by simpa using h)
theorem Fa2.append : ∀ {l : List α} {r : List β} {l' : List α} {r' : List β}, Fa2 R l r → Fa2 R l' r' → Fa2 R (l ++ l') (r ++ r')
  | _, _, _, _, .nil, y => y
  | _, _, _, _, .cons x t, y => .cons x (t.append y)
theorem Fa2.snoc {l : List α} {r : List β} {a : α} {b : β} (x : Fa2 R l r) (h : R a b) : Fa2 R (l ++ [a]) (r ++ [b]) := x.append (.cons h .nil)
theorem Fa2.mem : ∀ {l : List α} {r : List β}, Fa2 R l r → ∀ {a : α}, a ∈ l → ∃ b, b ∈ r ∧ R a b
  | _, _, .cons x t, a, h => by
    rcases List.mem_cons.mp h with rfl | h
    · exact ⟨_, .head _, x⟩
    · obtain ⟨b, hb, hr⟩ := t.mem h
      exact ⟨b, .tail _ hb, hr⟩
theorem Fa2.memR : ∀ {l : List α} {r : List β}, Fa2 R l r → ∀ {b : β}, b ∈ r → ∃ a, a ∈ l ∧ R a b
  | _, _, .cons x t, a, h => by
    rcases List.mem_cons.mp h with rfl | h
    · exact ⟨_, .head _, x⟩
    · obtain ⟨b, hb, hr⟩ := t.memR h
      exact ⟨b, .tail _ hb, hr⟩
end
abbrev tupV (vs : List Value) : Obj := { cls := .type "tuple", data := .seq vs.toArray 0 }
abbrev Prs := List (Str × Str)
/-- the value is a pair of texts -/
def PairAt (led : List (Addr × Obj)) (v : Value) (p : Str × Str) : Prop := ∃ a t1 t2, v = .ref a ∧ (a, tupV [.str p.1 t1, .str p.2 t2]) ∈ led
theorem PairAt.sub {led led' : List (Addr × Obj)} (h : ∀ p ∈ led, p ∈ led') {v : Value} {p : Str × Str} (x : PairAt led v p) : PairAt led' v p := by
  obtain ⟨a, t1, t2, e, m⟩ := x
  exact ⟨a, t1, t2, e, h _ m⟩
abbrev hdD (hs : Int) (kt : Tok) (l : Addr) (n : Nat) : Obj := dictOf [⟨hs, .str (Str.ofString "_headers") kt, .ref l⟩] n
abbrev tabLed (h dx l : Addr) (hs : Int) (kt : Tok) (n nn : Nat) (vs : List Value) (rest : List (Addr × Obj)) : List (Addr × Obj) :=
  (h, instObj 232 dx) :: (dx, hdD hs kt l n) :: (l, listOf vs.toArray nn) :: rest
/-- a table: its object, its list, its pairs -/
def Table (led : List (Addr × Obj)) (h l : Addr) (ps : Prs) : Prop :=
  ∃ dx hs kt n nn vs, (h, instObj 232 dx) ∈ led ∧ (dx, hdD hs kt l n) ∈ led ∧ (l, listOf vs.toArray nn) ∈ led ∧ Fa2 (PairAt led) vs ps
def Plain (x : Str) : Prop := (∀ c ∈ x.cps.toList, 32 ≤ c ∧ c ≤ 126) ∧ x.length < 1000000
theorem Plain.fits {x : Str} (h : Plain x) : x.length ≤ sizeLine := by rw [sizeLine_eq]; have := h.2; omega
theorem Plain.le5 {x : Str} (h : Plain x) : x.length ≤ 5592405 := by have := h.2; omega
theorem news_front {h₀ h : Heap} {L : Addr} {news : List (Addr × Obj)} {p : Addr × Obj} (N : News h₀ L h news) (hm : p ∈ news) : News h₀ L h (p :: news) := fun q hq => by
  rcases List.mem_cons.mp hq with rfl | hq
  · exact N _ hm
  · exact N q hq
theorem news_sub {h₀ h : Heap} {L : Addr} {news news' : List (Addr × Obj)} (N : News h₀ L h news) (hm : ∀ p ∈ news', p ∈ news) : News h₀ L h news' := fun q hq => N q (hm q hq)
def getF (ps : Prs) (key : Str) : Option Str := (ps.find? fun p => Txt.lower p.1 == key).map (·.2)
theorem getF_drop {ps : Prs} {key : Str} {i : Nat} {p : Str × Str} (h : ps[i]? = some p) : getF (ps.drop i) key = if (Txt.lower p.1 == key) = true then some p.2 else getF (ps.drop (i + 1)) key := by
  have hi : i < ps.length := (List.getElem?_eq_some_iff.mp h).1
  have e : ps.drop i = p :: ps.drop (i + 1) := by
    rw [List.drop_eq_getElem_cons hi]
    congr 1
    exact (List.getElem?_eq_some_iff.mp h).2
  rw [e]
  unfold getF
  rw [List.find?_cons]
  split
  · rename_i hc; simp [hc]
  · rename_i hc; simp [hc]
end Mine
end
section
open PySem PySem.W PyProof.Rows PySem.Spec PySem.Calls
set_option maxRecDepth 100000
set_option maxHeartbeats 8000000
namespace Mine
theorem offMI : True := by
  w_top off
  trivial
section
variable {prog : Program} {w : World} {A : Around} {E : Value → Shared → Prop} {s : Shared} {h₀ : Heap} {L : Addr} {news : List (Addr × Obj)}
/-- a tuple read at a number that is not written -/
theorem tup_item_nat {value slice : Expr} {t : Addr} {l : List Value} {i : Nat} {u : Tok} {n : Nat} {Q : Value → Shared → Prop} (N : News h₀ L s.heap news) (hm : (t, ({ cls := .type "tuple", data := .seq l.toArray n } : Obj)) ∈ news)
    (hi : i < l.length) (hz : l.length < 1000) (h : ∀ v, l[i]? = some v → Q v s)
    (hs : subscripted slice false (.ref t) (.int i u) = operate [.ref t, .int i u] (getItem (.ref t) (.int i u)) := by with_unfolding_all rfl) (hg : ∀ r, letTemporaryGo value (.ref t) r = pure () := by intro _; with_unfolding_all rfl) :
    wpAny (model prog w) A (subscriptTail value slice (.ref t) (.int i u)) Q E s :=
  item_tupleL (j := i) (x := l[i]) ⟨_, (N _ hm).1, rfl, n, rfl⟩ (by omega) (by omega) (by unfold seqIndex?; simp; omega) (List.getElem?_eq_getElem hi) (h _ (List.getElem?_eq_getElem hi)) hs hg
end
def strOf : Value → Str
  | .str x _ => x
  | _ => Str.ofString ""
def intOf : Value → Int
  | .int k _ => k
  | _ => 0
def isS : Value → Bool
  | .str _ _ => true
  | _ => false
def isI : Value → Bool
  | .int _ _ => true
  | _ => false
theorem strs_item {l : List Value} {i : Nat} {v : Value} (h : l[i]? = some v) (a : l.all isS = true) : ∃ t, v = .str ((l.map strOf).getD i (Str.ofString "")) t := by
  have hm := List.all_eq_true.mp a v (List.mem_of_getElem? h)
  cases v with
  | str x t => exact ⟨t, by simp [List.getD, h, strOf]⟩
  | _ => cases hm
theorem ints_item {l : List Value} {i : Nat} {v : Value} (h : l[i]? = some v) (a : l.all isI = true) : ∃ t, v = .int ((l.map intOf).getD i 0) t := by
  have hm := List.all_eq_true.mp a v (List.mem_of_getElem? h)
  cases v with
  | int x t => exact ⟨t, by simp [List.getD, h, intOf]⟩
  | _ => cases hm
theorem mulOk2 (x : Str) {r : Nat} (hr : r < 2) : MulOk x (r : Int) := by
  have h : r = 0 ∨ r = 1 := by omega
  rcases h with rfl | rfl
  · exact ⟨by decide, fun h => absurd (by decide) h, fun h => absurd (by decide) h⟩
  · exact ⟨by decide, fun _ h => by simp at h, fun _ h => by simp at h⟩
end Mine
end
section
open PySem PySem.W PyProof.Rows PySem.Spec PySem.Calls
set_option maxRecDepth 100000
set_option maxHeartbeats 8000000
namespace Mine
theorem offRX : True := by
  w_top off
  trivial
open PySem.Builtin.Re
theorem slot_search : Slot "re.Pattern" "search" "re.Pattern.search" :=
  .of (owner := "re.Pattern") (n := "search") (by rw [typeLookup_type, builtinLookup_eq_fast]; kernel_rfl) (by decide +kernel) (by decide +kernel) (by decide +kernel)
    (by first | exact .inl (by decide +kernel) | exact .inr (by decide +kernel)) (by rw [isSubtype_type]; kernel_rfl)
theorem type_search : typeOf (.builtin "re.Pattern.search") = pure (.type "method_descriptor") := by show builtinType _ = _; rw [builtinType_eq_fast]; kernel_rfl
theorem entry_search : entryFor table "re.Pattern.search" = some Builtin.«re.Pattern.search» := entryFor_of_tree (by kernel_rfl)
theorem args_search (a b : Value) : argsOk "re.Pattern.search" ⟨[a, b], []⟩ := by unfold argsOk; kernel_rfl
theorem plain_pattern : PlainAttrs "re.Pattern" :=
  ⟨⟨"object.__getattribute__", by rw [typeLookup_type, builtinLookup_eq_fast]; kernel_rfl, by decide +kernel⟩, by rw [typeLookup_type, builtinLookup_eq_fast]; kernel_rfl⟩

namespace Sre'
open PySem.Sre
/-- a machine that has said no -/
structure Said (m : M) : Prop where
  a : m.answer = some false
  f : m.frames = []
  o : m.outcome = none
theorem Said.run {m : M} (h : Said m) : ∃ m', M.runFor 4 m = m' ∧ m'.outcome = some .failed := by
  obtain ⟨ha, hf, ho⟩ := h
  have e1 : m.step = { m with outcome := some .failed } := by
    unfold M.step
    rw [ho]
    simp only [Option.isSome_none, Bool.false_eq_true, if_false, ha, hf]
  refine ⟨_, rfl, ?_⟩
  have r1 : ∀ n, M.runFor (n + 1) { m with outcome := some .failed } = { m with outcome := some .failed } := by
    intro n
    rw [M.runFor]
    simp
  rw [M.runFor, ho]
  simp only [Option.isSome_none, Bool.false_eq_true, if_false, e1]
  rw [r1]
theorem Said.say {m : M} (hf : m.frames = []) (ho : m.outcome = none) : Said (m.say false) := ⟨rfl, hf, ho⟩
theorem admitted_none {m : M} (h : ∀ i, i < m.lim → ∀ seen, ∃ seen', inSet m.code (m.text.getD i 0) m.code.size 5 true seen = .ok (false, seen')) :
    ∀ (fuel s : Nat) (seen : PySem.Sre.Seen), ∃ seen', M.admitted m fuel s seen = .ok (none, seen') := by
  intro fuel
  induction fuel with
  | zero => intro s seen; exact ⟨seen, rfl⟩
  | succ fuel ih =>
    intro s seen
    rw [M.admitted]
    by_cases hs : s ≥ m.lim
    · rw [if_pos hs]; exact ⟨seen, rfl⟩
    · rw [if_neg hs]
      obtain ⟨seen', e⟩ := h s (by omega) seen
      rw [e]
      exact ih (s + 1) seen'
theorem attempt_none {m : M} (hf : m.frames = []) (ho : m.outcome = none) (hs : m.hasFirstSet = true)
    (h : ∀ i, i < m.lim → ∀ seen, ∃ seen', inSet m.code (m.text.getD i 0) m.code.size 5 true seen = .ok (false, seen')) (s : Nat) (first : Bool) : Said (m.attemptFrom s first) := by
  unfold M.attemptFrom
  rw [hs]
  obtain ⟨seen', e⟩ := admitted_none h (m.lim + 1 - s) s m.seen
  simp only [Bool.not_true, Bool.false_eq_true, if_false]
  rw [e]
  exact Said.say hf ho
def code1 : Array Nat := #[14, 10, 4, 1, 1, 22, 0, 31, 16, 127, 0, 13, 7, 22, 0, 31, 16, 127, 0, 1]
def code2 : Array Nat := #[14, 14, 4, 1, 1, 9, 4294966783, 0, 0, 2147483648, 0, 0, 0, 0, 0, 13, 11, 9, 4294966783, 0, 0, 2147483648, 0, 0, 0, 0, 0, 1]
theorem in1 {c : Nat} (h : 32 ≤ c ∧ c ≤ 126) (seen : PySem.Sre.Seen) : ∃ seen', inSet code1 c code1.size 5 true seen = .ok (false, seen') := by
  have h1 : ¬ c ≤ 31 := by omega
  have h2 : (c == 127) = false := by simp; omega
  have e1 : ops[code1.getD (5 + 0) 0]? = some .RANGE := rfl
  have e2 : ops[code1.getD (5 + 3 + 0) 0]? = some .LITERAL := rfl
  have e3 : ops[code1.getD (5 + 3 + 2 + 0) 0]? = some .FAILURE := rfl
  have f1 : code1.getD (5 + 2) 0 = 31 := by decide +kernel
  have f2 : code1.getD (5 + 3 + 1) 0 = 127 := by decide +kernel
  have key : ∀ k, ∃ seen', inSet code1 c (k + 3) 5 true seen = .ok (false, seen') := by
    intro k
    rw [inSet]
    simp only [e1, f1, h1, decide_false, Bool.and_false, Bool.false_eq_true, if_false]
    rw [inSet]
    simp only [e2, f2, h2, Bool.false_eq_true, if_false]
    rw [inSet]
    simp only [e3, Bool.not_true]
    exact ⟨_, rfl⟩
  exact key 17
theorem bits2 : ∀ c : Fin 95, (Array.getD code2 (5 + (1 + (c.val + 32) / 32)) 0).testBit ((c.val + 32) % 32) = false := by decide +kernel
theorem in2 {c : Nat} (h : 32 ≤ c ∧ c ≤ 126) (seen : PySem.Sre.Seen) : ∃ seen', inSet code2 c code2.size 5 true seen = .ok (false, seen') := by
  have hb := bits2 ⟨c - 32, by omega⟩
  have e : c - 32 + 32 = c := by omega
  simp only [e] at hb
  have e1 : ops[code2.getD (5 + 0) 0]? = some .CHARSET := rfl
  have e2 : ops[code2.getD (5 + 9 + 0) 0]? = some .FAILURE := rfl
  have key : ∀ k, ∃ seen', inSet code2 c (k + 2) 5 true seen = .ok (false, seen') := by
    intro k
    rw [inSet]
    simp only [e1, hb, Bool.and_false, Bool.false_eq_true, if_false]
    rw [inSet]
    simp only [e2, Bool.not_true]
    exact ⟨_, rfl⟩
  exact key 26
theorem search_no {code text : Array Nat} (hc : code = code1 ∨ code = code2) (h : ∀ c ∈ text.toList, 32 ≤ c ∧ c ≤ 126) : Said (forSearch code text 0 0 text.size false) := by
  have hset : ∀ i, i < text.size → ∀ seen, ∃ seen', inSet code (text.getD i 0) code.size 5 true seen = .ok (false, seen') := by
    intro i hi seen
    have hm : text.getD i 0 ∈ text.toList := by simp [Array.getD, hi]
    rcases hc with rfl | rfl
    · exact in1 (h _ hm) seen
    · exact in2 (h _ hm) seen
  unfold forSearch
  dsimp only
  split
  · rcases hc with rfl | rfl
    · exact Said.say rfl rfl
    · exact Said.say rfl rfl
  · refine attempt_none (by rcases hc with rfl | rfl <;> rfl) (by rcases hc with rfl | rfl <;> rfl) (by rcases hc with rfl | rfl <;> (unfold M.hasFirstSet; rfl)) hset _ _
end Sre'
section
variable {prog : Program} {w : World} {A : Around} {E : Value → Shared → Prop} {s : Shared} {Q : Value → Shared → Prop}
theorem rules_quiet {M : Model} {seen : PySem.Sre.Seen} {P : PUnit → Shared → Prop} (h : P PUnit.unit s) : ∀ l : List Nat,
    wpAny M A (forIn l PUnit.unit (fun i (_ : PUnit) => if seen.has i = true then do
        rule (PySem.Sre.names.getD i "")
        pure (ForInStep.yield PUnit.unit)
      else pure (ForInStep.yield PUnit.unit)) : Sem PUnit) P E s
  | [] => by rw [List.forIn_nil]; exact wpAny_pure h
  | i :: l => by
    rw [List.forIn_cons]
    refine wpAny_bind ?_
    by_cases hi : seen.has i = true
    · rw [if_pos hi]
      exact wpAny_bind (wpAny_rule (wpAny_pure (rules_quiet h l)))
    · rw [if_neg hi]
      exact wpAny_pure (rules_quiet h l)
/-- a pattern's search that finds nothing -/
theorem rx_call {a ta : Addr} {o ot : Obj} {vs its : Array Value} {n : Nat} {x : Str} {t : Tok} (ho : s.heap.get? a = some o) (hc : o.cls = .type "re.Pattern") (hd : o.data = .fields vs) (h6 : reRawNat (vs.getD 6 .none) = 0) (h2 : reRawNat (vs.getD 2 .none) = 0)
    (h5 : vs.getD 5 .none = .ref ta) (hot : s.heap.get? ta = some ot) (hdt : ot.data = .seq its n) (hcode : (its.map reRawOf).map (·.toNat) = Sre'.code1 ∨ (its.map reRawOf).map (·.toNat) = Sre'.code2)
    (hx : ∀ c ∈ x.cps.toList, 32 ≤ c ∧ c ≤ 126) (hl : x.length < 2 ^ 62) (h : Q .none s) : wpAny (model prog w) A (call (.builtin "re.Pattern.search") [.ref a, .str x t]) Q E s := by
  have hq : Sre'.Said (PySem.Sre.forSearch ((its.map reRawOf).map (·.toNat)) x.cps 0 0 x.cps.size false) := Sre'.search_no hcode hx
  have hnam : reNamed "re.Pattern.search" "search" ["string", "pos", "endpos"] 1 [.str x t] [] = pure [some (.str x t), none, none] := rfl
  have htxt : reTextOf (.str x t) = pure (x.cps, 0) := rfl
  refine wpAny_call_entry slot_search ⟨o, ho, hc⟩ entry_search ?_ (args_search _ _)
  show wpAny _ _ (reTarget "re.Pattern.search" "search" ⟨[.ref a, .str x t], []⟩ >>= fun r => reAnswer r (PySem.Sre.forSearch r.code r.text r.groups r.pos r.lim false)) _ _ s
  refine wpAny_bind ?_
  unfold reTarget
  dsimp only
  rw [hnam]
  refine wpAny_bind (wpAny_pure ?_)
  dsimp only
  refine wpAny_bind (wpAny_pure ?_)
  refine wpAny_bind (wpAny_pure ?_)
  refine wpAny_bind (wpAny_fieldsOf ho hd ?_)
  rw [htxt]
  refine wpAny_bind (wpAny_pure ?_)
  dsimp only
  rw [h6, h2, h5]
  simp only [Nat.zero_ne_one, beq_self_eq_true, Bool.and_false, Bool.false_eq_true, if_false, show ((0 : Nat) == 1) = false by rfl, Bool.and_true, Bool.false_and]
  refine wpAny_bind (wpAny_pure ?_)
  refine wpAny_bind ?_
  show wpAny _ _ (seqItems? (.ref ta) >>= fun r => pure ((r.getD #[]).map reRawOf)) _ _ _
  refine wpAny_bind (wpAny_seqItems hot hdt ?_)
  refine wpAny_pure (wpAny_pure ?_)
  have hmin : min (2 ^ 63 - 1 : Int).toNat x.cps.size = x.cps.size := Nat.min_eq_right (by have : x.cps.size = x.length := rfl; omega)
  have hmin0 : min (Int.toNat 0) x.cps.size = 0 := by simp
  show wpAny _ _ (reAnswer _ (PySem.Sre.forSearch ((its.map reRawOf).map (·.toNat)) x.cps 0 (min (Int.toNat 0) x.cps.size) (min (2 ^ 63 - 1 : Int).toNat x.cps.size) false)) _ _ s
  rw [hmin, hmin0]
  unfold reAnswer
  generalize PySem.Sre.forSearch ((its.map reRawOf).map (·.toNat)) x.cps 0 0 x.cps.size false = mm at hq
  obtain ⟨m', e, hm'⟩ := hq.run
  have hdrive : reDrive (2 ^ 64) mm = pure m' := by
    show reDrive (18446744073709551615 + 1) mm = _
    rw [reDrive]
    show (if (PySem.Sre.M.runFor 4 mm).outcome.isSome then pure (PySem.Sre.M.runFor 4 mm) else _) = _
    rw [e, hm']; rfl
  unfold reRunToEnd
  rw [hdrive]
  refine wpAny_bind (wpAny_bind (wpAny_pure ?_))
  refine wpAny_bind (rules_quiet (seen := m'.seen) ?_ _)
  rw [hm']
  exact wpAny_pure (wpAny_pure ⟨_, rfl, h⟩)
end
end Mine
end
section
open PySem PySem.W PyProof.Rows PySem.Spec PySem.Calls PyProof.Rows.LCg
set_option maxRecDepth 100000
set_option maxHeartbeats 8000000
namespace Mine
theorem offMO : True := by
  w_top off
  trivial
abbrev LedC := List (Addr × Obj)
def TestThen (prog : Program) (w : World) (A : Around) (ifs : List Expr) (env : Env) (good bad : Shared → Prop) (E : Value → Shared → Prop) (s : Shared) : Prop :=
  match ifs with
  | [] => good s
  | [c] => wpAny (model prog w) A (isTrue c env (eval c env)) (fun ok s' => if ok = true then good s' else bad s') E s
  | _ => False
/-- what a turn of a comprehension must leave -/
def CEnd (h₀ : Heap) (L : Addr) (m : Str → Option Value) (s : Shared) (I : Addr) (oI : Obj) (C : Addr) (oC : Obj) (D : Addr) (ys : List Value) (J : LedC → Prop) (s₂ : Shared) : Prop :=
  ∃ h' tk news', s₂ = { s with heap := h', toks := tk } ∧ Fr h₀ L h' m ∧ News h₀ L h' ((I, oI) :: (C, oC) :: (D, lst ys) :: news') ∧ (∀ p ∈ news', p.1 ≠ I ∧ p.1 ≠ C ∧ p.1 ≠ D) ∧ J news'
theorem CEnd.mk {h₀ : Heap} {L I C D : Addr} {m : Str → Option Value} {s : Shared} {oI oC : Obj} {ys : List Value} {J : LedC → Prop} {h' : Heap} {tk : Nat} {all : LedC} (news' : LedC)
    (F : Fr h₀ L h' m) (N : News h₀ L h' all) (hI : (I, oI) ∈ all) (hC : (C, oC) ∈ all) (hD : (D, lst ys) ∈ all) (sub : ∀ p ∈ news', p ∈ all) (off : ∀ p ∈ news', p.1 ≠ I ∧ p.1 ≠ C ∧ p.1 ≠ D) (j : J news') :
    CEnd h₀ L m s I oI C oC D ys J { s with heap := h', toks := tk } := ⟨h', tk, news', rfl, F, fun p hp => by
      rcases List.mem_cons.mp hp with rfl | hp
      · exact N _ hI
      rcases List.mem_cons.mp hp with rfl | hp
      · exact N _ hC
      rcases List.mem_cons.mp hp with rfl | hp
      · exact N _ hD
      · exact N _ (sub p hp), off, j⟩
section
variable {prog : Program} {w : World} {A : Around} {E : Value → Shared → Prop} {s : Shared} {h₀ : Heap} {L : Addr} {m : Str → Option Value} {env : Env}
theorem co_loop {elt target iter : Expr} {ifs : List Expr} {scope : Scope} {pos : Pos} {it acc : Value} {env : Env} {R : Result → Shared → Prop} (I : Nat → Shared → Prop)
    (turn : ∀ n s (E' : Value → Shared → Prop), I n s → wpAny (model prog w) A (pyNext it) (fun r s₁ => (r = none → R (.ok .next) s₁) ∧ ∀ v, r = some v → wpAny (model prog w) A (letOwnedTupleGo target it v) (fun _ s₀ => wpAny (model prog w) A (assign target env v) (fun _ s₂ =>
        TestThen prog w A ifs env (fun s₃ => wpAny (model prog w) A (eval elt env) (fun x s₄ => wpAny (model prog w) A (call (.builtin "list.append") [acc, x]) (fun _ s₅ => ∃ m, m < n ∧ I m s₅) E' s₄) E' s₃) (fun s₃ => ∃ m, m < n ∧ I m s₃) E' s₂) E' s₀) E' s₁) E' s)
    (n : Nat) (h : I n s) : codeAny (model prog w) A (.compLoop (.ListComp elt [⟨target, iter, ifs, 0⟩] scope pos) 0 it acc env) R s := by
  match ifs with
  | [] =>
    refine kcp_loop I (fun n s hI => wpAny_mono (turn n s _ hI) (fun r s₁ h₁ => ?_) fun _ _ e => e) n h
    cases r with
    | none => exact h₁.1 rfl
    | some v => exact h₁.2 v rfl
  | [c] =>
    refine kct_loop I (fun n s hI => wpAny_mono (turn n s _ hI) (fun r s₁ h₁ => ?_) fun _ _ e => e) n h
    cases r with
    | none => exact h₁.1 rfl
    | some v => exact h₁.2 v rfl
  | c :: c' :: r =>
    refine codeAny_loop rfl I (fun n s hI => ?_) n h
    show wpAny _ A ((compTurn (.ListComp elt [⟨target, iter, c :: c' :: r, 0⟩] scope pos) 0 it acc env).onRaise (fun x => do noteFrame x env; theTreesLotGoes x)) _ _ s
    refine wpAny_noted ?_
    rw [compTurn_list]
    refine wpAny_bind (wpAny_standAt (wpAny_bind (wpAny_mono (turn n s _ hI) (fun r s₁ h₁ => ?_) fun _ _ h' => h')))
    cases r with
    | none => exact wpAny_pure (h₁.1 rfl)
    | some v =>
      refine wpAny_bind (wpAny_mono (h₁.2 v rfl) (fun _ s₀ h₀' => ?_) fun _ _ h' => h')
      refine wpAny_bind (wpAny_mono h₀' (fun _ s₂ h₂ => h₂.elim) fun _ _ h' => h')

theorem comp_block {elt target iter : Expr} {ifs : List Expr} {scope : Scope} {cl : List (Str × Addr)} {pos : Pos} {I l : Addr} {vs : List Value} {nn : Nat} {news : LedC} {RR : Value → Addr → Result → Shared → Prop}
    (J : Nat → List Value → LedC → Prop) (Dm : Nat → (Str → Option Value) → Prop)
    (hh : A.handled = none) (hsz : vs.length ≤ sizeLine) (hlI : l ≠ I)
    (htg : (∀ it v, letOwnedTupleGo target it v = pure ()) ∨ ((∃ es k p, target = .Tuple es k p) ∧ ∀ v ∈ vs, ∃ a, v = .ref a))
    (hcell : ∀ y ∈ scope.names, y.2 ≠ .cell) (hkind : scope.kind = .function) (hit : s.heap.IsListIter I l 0)
    (F : Fr h₀ L s.heap m) (N : News h₀ L s.heap news) (hIL : L ≠ I) (hI₀ : h₀.get? I = none) (off : ∀ p ∈ news, p.1 ≠ I) (h0 : J 0 [] news) (hJl : ∀ i ys nx, J i ys nx → (l, listOf vs.toArray nn) ∈ nx)
    (hasg : ∀ i v C m' news₁ ys s₂ (E' : Value → Shared → Prop) (Q' : Unit → Shared → Prop), vs[i]? = some v → J i ys news₁ → s₂.heap.Ns C m' → News h₀ L s₂.heap news₁ →
      (∀ h' tk' m'', h'.Ns C m'' → Dm i m'' → (∀ b o, b ≠ C → s₂.heap.get? b = some o → h'.get? b = some o) → Q' () { s₂ with heap := h', toks := tk' }) → wpAny (model prog w) A (assign target (compEnvC scope cl C env) v) Q' E' s₂)
    (turn : ∀ i v I oI C oC D m₂ h tk (E' : Value → Shared → Prop) ys news₁, vs[i]? = some v → J i ys news₁ → NsObj oC m₂ → Dm i m₂ → Fr h₀ L h m → News h₀ L h ((I, oI) :: (C, oC) :: (D, lst ys) :: news₁) → (∀ p ∈ news₁, p.1 ≠ I ∧ p.1 ≠ C ∧ p.1 ≠ D) →
      ((@Ne Nat I C) ∧ (@Ne Nat I D) ∧ (@Ne Nat C D)) → TestThen prog w A ifs (compEnvC scope cl C env)
        (fun s₃ => wpAny (model prog w) A (eval elt (compEnvC scope cl C env)) (fun y s₄ => CEnd h₀ L m s I oI C oC D ys (J (i + 1) (ys ++ [y])) s₄) E' s₃)
        (fun s₃ => CEnd h₀ L m s I oI C oC D ys (J (i + 1) ys) s₃) E' { s with heap := h, toks := tk })
    (hRR : ∀ D C h tk m' ys news', Fr h₀ L h m → News h₀ L h ((D, lst ys) :: news') → (∀ p ∈ news', p.1 ≠ D) → h.Ns C m' → h₀.get? C = none → h₀.get? D = none → C ≠ L → D ≠ L → C ≠ D → (∀ p ∈ news', p.1 ≠ C) → J vs.length ys news' → RR (.ref D) C (.ok .next) { s with heap := h, toks := tk }) :
    wpAny (model prog w) A (newList []) (fun acc s₃ => wpAny (model prog w) A (newFunctionEnv scope env.globals cl [] env.qual none .none (some env)) (fun cenv s₄ =>
      codeAny (model prog w) A (.compStart (.ListComp elt [⟨target, iter, ifs, 0⟩] scope pos) 0 (.ref I) acc { cenv with scope := relabel scope env }) (RR acc cenv.locals) s₄) E s₃) E s := by
  revert hh hsz hlI htg hcell hkind hit F N hIL hI₀ off h0 hJl hasg turn hRR
  revert prog w A E s h₀ L m env elt target iter ifs scope cl pos I l vs nn news RR J Dm
  refine no_implicit_lambda% (henk13 (by repeat' first | exact has_nat | exact has_world | exact has_list | exact has_str | exact has_val | exact has_around | exact has_shared | exact has_heap | exact has_opt | exact has_prop | exact has_expr | exact has_scope | exact has_pos | exact has_env | exact has_prog | exact has_obj | exact has_array | apply has_fun | apply has_pair) ?_)
  intro prog w A E s h₀ L m env elt target iter ifs
  clear_value prog w A E s h₀ L m env elt target iter ifs
  refine no_implicit_lambda% (henk11 (by repeat' first | exact has_nat | exact has_world | exact has_list | exact has_str | exact has_val | exact has_around | exact has_shared | exact has_heap | exact has_opt | exact has_prop | exact has_expr | exact has_scope | exact has_pos | exact has_env | exact has_prog | exact has_obj | exact has_array | apply has_fun | apply has_pair) ?_)
  intro scope cl pos I l vs nn news RR J Dm
  clear_value scope cl pos I l vs nn news RR J Dm
  intro hh hsz hlI htg hcell hkind hit F N hIL hI₀ off h0 hJl hasg turn hRR
  refine wpAny_newObj_type (wpAny_newFunctionEnv hcell (by intro y hy; simp at hy) (fun h₁ hns₁ hsb₁ => ?_) hkind)
  dsimp only at hns₁ hsb₁ ⊢
  generalize hH2 : s.heap.push { cls := .type "list", dict := none, data := .seq ([] : List Value).toArray } = H2 at hns₁ hsb₁ ⊢
  have hC : H2.objs.size = s.heap.objs.size + 1 := by rw [← hH2, Heap.size_push]
  have hDC : s.heap.objs.size ≠ H2.objs.size := by rw [hC]; exact Nat.ne_of_lt (Nat.lt_succ_self _)
  have below : ∀ b, b < s.heap.objs.size → b ≠ H2.objs.size ∧ b ≠ s.heap.objs.size := fun b hb => ⟨by rw [hC]; exact Nat.ne_of_lt (Nat.lt_succ_of_lt hb), Nat.ne_of_lt hb⟩
  have hIlt : I < s.heap.objs.size := by obtain ⟨_, e, _⟩ := hit; exact Heap.lt_size e
  have old : ∀ b o, s.heap.get? b = some o → h₁.get? b = some o := fun b o e => hsb₁.extBut b o (below b (Heap.lt_size e)).1 (Heap.get?_push_of_some _ (hH2 ▸ Heap.get?_push_of_some _ e))
  have hacc : h₁.get? s.heap.objs.size = some (lst []) := hsb₁.extBut _ _ hDC (Heap.get?_push_of_some _ (hH2 ▸ Heap.get?_push_size _ rfl))
  have hit₁ : h₁.IsListIter I l 0 := hit.at fun o e => old _ _ e
  have fresh₀ : ∀ a, s.heap.objs.size ≤ a → h₀.get? a = none := fun a ha => by
    cases e : h₀.get? a with
    | none => rfl
    | some o' => exact absurd (Heap.lt_size (F.keep a o' e)) (Nat.not_lt.mpr ha)
  have hD₀ : h₀.get? s.heap.objs.size = none := fresh₀ _ (Nat.le_refl _)
  have hC₀ : h₀.get? H2.objs.size = none := fresh₀ _ (by rw [hC]; exact Nat.le_succ _)
  have hLlt : L < s.heap.objs.size := F.ns.lt
  have hDL : s.heap.objs.size ≠ L := Ne.symm (below L hLlt).2
  have hCL : H2.objs.size ≠ L := Ne.symm (below L hLlt).1
  have hCI : I ≠ H2.objs.size := (below I hIlt).1
  have hDI : I ≠ s.heap.objs.size := (below I hIlt).2
  have off₀ : ∀ p ∈ news, p.1 ≠ I ∧ p.1 ≠ H2.objs.size ∧ p.1 ≠ s.heap.objs.size := fun p hp => ⟨off p hp, (below _ (Heap.lt_size (N p hp).1)).1, (below _ (Heap.lt_size (N p hp).1)).2⟩
  have W := Walks.list (prog := prog) (w := w) hh I l hlI vs.toArray
  have hlen : vs.toArray.size = vs.length := by simp
  rw [hlen] at W
  have loop : ∀ s₃ : Shared, s₃ = { s with heap := h₁, toks := s.toks + ([] : List (Str × Value)).length } →
      codeAny (model prog w) A (.compLoop (.ListComp elt [⟨target, iter, ifs, 0⟩] scope pos) 0 (.ref I) (.ref s.heap.objs.size) (compEnvC scope cl H2.objs.size env))
        (RR (.ref s.heap.objs.size) H2.objs.size) s₃ := by
    rintro s₃ rfl
    refine co_loop
      (fun k s' => ∃ h' tk i ys m' news', s' = { s with heap := h', toks := tk } ∧ i ≤ vs.length ∧ k = vs.length + 1 - i ∧ ys.length ≤ i ∧ h'.IsListIter I l i ∧ Fr h₀ L h' m ∧ h'.Ns H2.objs.size m' ∧
        News h₀ L h' ((s.heap.objs.size, lst ys) :: news') ∧ (∀ p ∈ news', p.1 ≠ I ∧ p.1 ≠ H2.objs.size ∧ p.1 ≠ s.heap.objs.size) ∧ J i ys news') ?_ (vs.length + 1)
      ⟨h₁, _, 0, [], _, news, rfl, Nat.zero_le _, rfl, Nat.le_refl _, hit₁, F.keeps old, hns₁, fun p hp => ?_, off₀, h0⟩
    · rintro k s' E' ⟨h', tk, i, ys, m', news', rfl, hi, rfl, hyl, hit', F', hn', N', off3, J'⟩
      have hls' : h'.IsList l vs.toArray := ⟨_, (N' _ (.tail _ (hJl _ _ _ J'))).1, rfl, nn, rfl⟩
      by_cases hlt : i < vs.length
      · refine W.item i _ _ _ hlt ⟨hit', hls'⟩ fun v h₂ tk₂ hP hst₂ hk₂ => ⟨fun q => (nomatch q), fun v' q => ?_⟩
        cases q
        have hv' : vs[i]? = some v := by simpa using hP
        have step : wpAny (model prog w) A (assign target (compEnvC scope cl H2.objs.size env) v) (fun _ s₂ => TestThen prog w A ifs (compEnvC scope cl H2.objs.size env) (fun s₃ => wpAny (model prog w) A (eval elt (compEnvC scope cl H2.objs.size env)) (fun x s₄ => wpAny (model prog w) A (call (.builtin "list.append") [.ref s.heap.objs.size, x]) (fun _ s₅ => ∃ m_1, m_1 < vs.length + 1 - i ∧ ∃ h' tk i ys m' news', s₅ = { s with heap := h', toks := tk } ∧ i ≤ vs.length ∧ m_1 = vs.length + 1 - i ∧ ys.length ≤ i ∧ h'.IsListIter I l i ∧ Fr h₀ L h' m ∧ h'.Ns H2.objs.size m' ∧
        News h₀ L h' ((s.heap.objs.size, lst ys) :: news') ∧ (∀ p ∈ news', p.1 ≠ I ∧ p.1 ≠ H2.objs.size ∧ p.1 ≠ s.heap.objs.size) ∧ J i ys news') E' s₄) E' s₃) (fun s₅ => ∃ m_1, m_1 < vs.length + 1 - i ∧ ∃ h' tk i ys m' news', s₅ = { s with heap := h', toks := tk } ∧ i ≤ vs.length ∧ m_1 = vs.length + 1 - i ∧ ys.length ≤ i ∧ h'.IsListIter I l i ∧ Fr h₀ L h' m ∧ h'.Ns H2.objs.size m' ∧
        News h₀ L h' ((s.heap.objs.size, lst ys) :: news') ∧ (∀ p ∈ news', p.1 ≠ I ∧ p.1 ≠ H2.objs.size ∧ p.1 ≠ s.heap.objs.size) ∧ J i ys news') E' s₂) E' { s with heap := h₂, toks := tk₂ } := by
          have N₂ : News h₀ L h₂ ((s.heap.objs.size, lst ys) :: news') := news_but N' hk₂ fun p hp => by
            rcases List.mem_cons.mp hp with rfl | hp
            · exact Ne.symm hDI
            · exact (off3 p hp).1
          refine hasg i v H2.objs.size m' news' ys _ _ _ hv' J' (hn'.at' fun o e => hk₂ _ o (by simpa using Ne.symm hCI) e) (fun p hp => N₂ p (.tail _ hp)) fun h₃ tk₃ m₃ hn₃ hD₃ hs₃ => ?_
          obtain ⟨oI, heI⟩ : ∃ o, h₃.get? I = some o := by
            obtain ⟨o, e, _⟩ := hst₂.1
            exact ⟨o, hs₃ _ _ hCI e⟩
          obtain ⟨oC, heC, hoC⟩ := ns_obj hn₃
          have F₂ : Fr h₀ L h₂ m := fr_but F' hk₂ hIL hI₀
          have F₃ : Fr h₀ L h₃ m := ⟨F₂.ns.at' fun o e => hs₃ _ o (Ne.symm hCL) e, fun b o e => hs₃ b o (fun q => by rw [q, hC₀] at e; cases e) (F₂.keep b o e), F₂.above⟩
          have N₃ : News h₀ L h₃ ((I, oI) :: (H2.objs.size, oC) :: (s.heap.objs.size, lst ys) :: news') := fun p hp => by
            rcases List.mem_cons.mp hp with rfl | hp
            · exact ⟨heI, Ne.symm hIL, hI₀⟩
            rcases List.mem_cons.mp hp with rfl | hp
            · exact ⟨heC, hCL, hC₀⟩
            have z := N₂ p hp
            refine ⟨hs₃ _ _ ?_ z.1, z.2⟩
            rcases List.mem_cons.mp hp with rfl | hp
            · exact hDC
            · exact (off3 p hp).2.1
          have hitI : ∀ h : Heap, h.get? I = some oI → h.IsListIter I l (i + 1) := fun h e => by
            obtain ⟨o, e', r⟩ := hst₂.1
            have := hs₃ _ _ hCI e'
            rw [heI] at this
            cases this
            exact ⟨_, e, r⟩
          have fin : ∀ (ys' : List Value) (h₅ : Heap) (tk₅ : Nat) (news₅ : LedC), ys'.length ≤ i + 1 → Fr h₀ L h₅ m → News h₀ L h₅ ((I, oI) :: (H2.objs.size, oC) :: (s.heap.objs.size, lst ys') :: news₅) → (∀ p ∈ news₅, p.1 ≠ I ∧ p.1 ≠ H2.objs.size ∧ p.1 ≠ s.heap.objs.size) → J (i + 1) ys' news₅ →
              ∃ m_1, m_1 < vs.length + 1 - i ∧ ∃ h' tk i ys m' news', ({ s with heap := h₅, toks := tk₅ } : Shared) = { s with heap := h', toks := tk } ∧ i ≤ vs.length ∧ m_1 = vs.length + 1 - i ∧ ys.length ≤ i ∧ h'.IsListIter I l i ∧ Fr h₀ L h' m ∧ h'.Ns H2.objs.size m' ∧
        News h₀ L h' ((s.heap.objs.size, lst ys) :: news') ∧ (∀ p ∈ news', p.1 ≠ I ∧ p.1 ≠ H2.objs.size ∧ p.1 ≠ s.heap.objs.size) ∧ J i ys news' := fun ys' h₅ tk₅ news₅ hl F₅ N₅ off₅ J₅ =>
            ⟨vs.length + 1 - (i + 1), by omega, h₅, tk₅, i + 1, ys', _, news₅, rfl, hlt, rfl, hl, hitI _ (N₅ _ (.head _)).1, F₅, hoC.ns (N₅ _ (.tail _ (.head _))).1, fun p hp => N₅ p (.tail _ (.tail _ hp)), off₅, J₅⟩
          have good : ∀ s₃, wpAny (model prog w) A (eval elt (compEnvC scope cl H2.objs.size env)) (fun y s₄ => CEnd h₀ L m s I oI H2.objs.size oC s.heap.objs.size ys (J (i + 1) (ys ++ [y])) s₄) E' s₃ →
              wpAny (model prog w) A (eval elt (compEnvC scope cl H2.objs.size env)) (fun x s₄ => wpAny (model prog w) A (call (.builtin "list.append") [.ref s.heap.objs.size, x]) (fun _ s₅ => ∃ m_1, m_1 < vs.length + 1 - i ∧ ∃ h' tk i ys m' news', s₅ = { s with heap := h', toks := tk } ∧ i ≤ vs.length ∧ m_1 = vs.length + 1 - i ∧ ys.length ≤ i ∧ h'.IsListIter I l i ∧ Fr h₀ L h' m ∧ h'.Ns H2.objs.size m' ∧
        News h₀ L h' ((s.heap.objs.size, lst ys) :: news') ∧ (∀ p ∈ news', p.1 ≠ I ∧ p.1 ≠ H2.objs.size ∧ p.1 ≠ s.heap.objs.size) ∧ J i ys news') E' s₄) E' s₃ := fun s₃ hg => by
            refine wpAny_mono hg (fun y s₄ h₄ => ?_) fun _ _ e => e
            obtain ⟨h₅, tk₅, news₅, rfl, F₅, N₅, off₅, J₅⟩ := h₄
            have zD := (N₅ (s.heap.objs.size, lst ys) (.tail _ (.tail _ (.head _)))).1
            refine append_at (hsz := by show ys.toArray.size ≤ sizeLine; rw [List.size_toArray]; exact Nat.le_trans hyl (Nat.le_trans hi hsz)) zD fun h₆ hs₆ hD₆ => ?_
            refine fin (ys ++ [y]) h₆ _ news₅ (by rw [List.length_append, List.length_singleton]; exact Nat.succ_le_succ hyl) (F₅.change hs₆ hDL hD₀) (fun q hq => ?_) off₅ J₅
            rcases List.mem_cons.mp hq with rfl | hq
            · exact ⟨hs₆.extBut I oI hDI (N₅ _ (.head _)).1, Ne.symm hIL, hI₀⟩
            rcases List.mem_cons.mp hq with rfl | hq
            · exact ⟨hs₆.extBut _ oC (Ne.symm hDC) (N₅ _ (.tail _ (.head _))).1, hCL, hC₀⟩
            rcases List.mem_cons.mp hq with rfl | hq
            · exact ⟨hD₆.trans (congrArg some (lst_snoc ys y)), hDL, hD₀⟩
            · have z := N₅ q (.tail _ (.tail _ (.tail _ hq)))
              exact ⟨hs₆.extBut _ _ (off₅ q hq).2.2 z.1, z.2⟩
          have bad : ∀ s₃, CEnd h₀ L m s I oI H2.objs.size oC s.heap.objs.size ys (J (i + 1) ys) s₃ → ∃ m_1, m_1 < vs.length + 1 - i ∧ ∃ h' tk i ys m' news', s₃ = { s with heap := h', toks := tk } ∧ i ≤ vs.length ∧ m_1 = vs.length + 1 - i ∧ ys.length ≤ i ∧ h'.IsListIter I l i ∧ Fr h₀ L h' m ∧ h'.Ns H2.objs.size m' ∧
        News h₀ L h' ((s.heap.objs.size, lst ys) :: news') ∧ (∀ p ∈ news', p.1 ≠ I ∧ p.1 ≠ H2.objs.size ∧ p.1 ≠ s.heap.objs.size) ∧ J i ys news' := fun s₃ hb => by
            obtain ⟨h₅, tk₅, news₅, rfl, F₅, N₅, off₅, J₅⟩ := hb
            exact fin ys h₅ tk₅ news₅ (Nat.le_succ_of_le hyl) F₅ N₅ off₅ J₅
          have T := turn i v I oI H2.objs.size oC s.heap.objs.size m₃ h₃ tk₃ E' ys news' hv' J' hoC hD₃ F₃ N₃ off3 ⟨hCI, hDI, Ne.symm hDC⟩
          match ifs with
          | [] => exact good _ T
          | [c] =>
            refine wpAny_mono T (fun ok s₃ h₃ => ?_) fun _ _ e => e
            cases ok with
            | true => exact good _ h₃
            | false => exact bad _ h₃
          | _ :: _ :: _ => exact T
        rcases htg with ht | ⟨⟨es, k, p, rfl⟩, hv⟩
        · rw [ht]; exact wpAny_pure step
        · obtain ⟨a, rfl⟩ := hv v (List.mem_of_getElem? hv')
          exact wpAny_letOwnedTupleGo_listiter hst₂.1 step
      · obtain rfl : i = vs.length := by omega
        refine W.done _ _ _ ⟨hit', hls'⟩ fun h₂ tk₂ hk₂ => ⟨fun _ => ?_, fun v q => (nomatch q)⟩
        exact hRR _ _ h₂ tk₂ _ ys news' (fr_but F' hk₂ hIL hI₀) (news_but N' hk₂ fun p hp => by
          rcases List.mem_cons.mp hp with rfl | hp
          · exact Ne.symm hDI
          · exact (off3 p hp).1) (fun p hp => (off3 p hp).2.2) (hn'.at' fun o e => hk₂ _ o (by simpa using Ne.symm hCI) e) hC₀ hD₀ hCL hDL (Ne.symm hDC) (fun p hp => (off3 p hp).2.1) J'
    · rcases List.mem_cons.mp hp with rfl | hp
      · exact ⟨hacc, hDL, hD₀⟩
      · exact ⟨old _ _ (N p hp).1, (N p hp).2⟩
  exact codeAny_compStart_list (loop _ rfl) (W.self 0 _ _ _ ⟨hit₁, (show h₁.IsList l vs.toArray from ⟨_, old _ _ (N _ (hJl _ _ _ h0)).1, rfl, nn, rfl⟩)⟩ (loop _ rfl))

/-- what is left once the comprehension's source is known -/
def CoGoal (prog : Program) (w : World) (A : Around) (e : Expr) (scope : Scope) (cl : List (Str × Addr)) (env : Env) (use : Option (Value → Sem Unit)) (Q E : Value → Shared → Prop) (x : Value) (s₁ : Shared) : Prop :=
  wpAny (model prog w) A (pyIter x) (fun it s₂ => wpAny (model prog w) A (newList []) (fun acc s₃ =>
      wpAny (model prog w) A (newFunctionEnv scope env.globals cl [] env.qual none .none (some env)) (fun cenv s₄ =>
        codeAny (model prog w) A (.compStart e 0 it acc { cenv with scope := relabel scope env }) (compPost (model prog w) A E use Q acc cenv.locals) s₄) E s₃) E s₂) E s₁
theorem comp_start {target iter elt : Expr} {ifs : List Expr} {scope : Scope} {pos : Pos} {cl : List (Str × Addr)} {Q : Value → Shared → Prop}
    (hclos : closureFor scope env = pure cl) (hkind : scope.kind = .function) (hnames : ∀ y ∈ scope.names, y.2 = .local → scope.names.lookup y.1 = some .local)
    (h : wpAny (model prog w) A (eval iter env) (fun x s₁ => Hold (CoGoal prog w A (.ListComp elt [⟨target, iter, ifs, 0⟩] scope pos) scope cl env none Q E x s₁)) E s)
    (hs : ∀ x, foldedSetIterable iter env x = pure x := by intro _; rfl) :
    wpAny (model prog w) A (eval (.ListComp elt [⟨target, iter, ifs, 0⟩] scope pos) env) Q E s := by
  rw [eval_ListComp]
  exact wpAny_comprehension_free (use := none) rfl hs hclos hkind hnames (wpAny_mono h (fun xv s₁ h₁ => h₁) fun _ _ e => e)
theorem comp_startA {target iter elt : Expr} {ifs : List Expr} {scope : Scope} {pos spos py : Pos} {y : Str} {cl : List (Str × Addr)} {Q : Flow → Shared → Prop}
    (hsw : swapsWith (.ListComp elt [⟨target, iter, ifs, 0⟩] scope pos) (some (.Name y py)) spos.line env = pure true)
    (hclos : closureFor scope env = pure cl) (hkind : scope.kind = .function) (hnames : ∀ y ∈ scope.names, y.2 = .local → scope.names.lookup y.1 = some .local)
    (h : wpAny (model prog w) A (eval iter env) (fun x s₁ => Hold (CoGoal prog w A (.ListComp elt [⟨target, iter, ifs, 0⟩] scope pos) scope cl env (some (assign (.Name y py) env)) (fun _ s' => Q .next s') E x s₁)) E s)
    (hs : ∀ x, foldedSetIterable iter env x = pure x := by intro _; rfl) :
    wpAny (model prog w) A (exec (.Assign [.Name y py] (.ListComp elt [⟨target, iter, ifs, 0⟩] scope pos) spos) env) Q E s := by
  rw [exec_Assign_Name_used _ _ _ _ hsw]
  refine wpAny_bind (wpAny_standAt (wpAny_bind ?_))
  show wpAny _ A (do let _ ← comprehension (.ListComp elt [⟨target, iter, ifs, 0⟩] scope pos) scope env _ (newList []) false (eval iter env) (some (assign (.Name y py) env))) _ _ s
  exact wpAny_bind (wpAny_mono (wpAny_comprehension_free (use := some (assign (.Name y py) env)) (Q := fun _ s' => Q .next s') rfl hs hclos hkind hnames
    (wpAny_mono h (fun xv s₁ h₁ => h₁) fun _ _ e => e)) (fun _ s' hq => wpAny_pure (wpAny_pure hq)) fun _ _ e => e)

/-- a comprehension over a list of the ledger's -/
theorem comp_list {elt target iter : Expr} {ifs : List Expr} {scope : Scope} {cl : List (Str × Addr)} {pos : Pos} {l : Addr} {vs : List Value} {nn : Nat} {news : LedC} {Q : Value → Shared → Prop}
    (J : Nat → List Value → LedC → Prop) (Dm : Nat → (Str → Option Value) → Prop)
    (hh : A.handled = none) (hl : (l, listOf vs.toArray nn) ∈ news) (hsz : vs.length ≤ sizeLine)
    (htg : (∀ it v, letOwnedTupleGo target it v = pure ()) ∨ ((∃ es k p, target = .Tuple es k p) ∧ ∀ v ∈ vs, ∃ a, v = .ref a))
    (hcell : ∀ y ∈ scope.names, y.2 ≠ .cell) (hkind : scope.kind = .function)
    (F : Fr h₀ L s.heap m) (N : News h₀ L s.heap news) (h0 : J 0 [] news) (hJl : ∀ i ys nx, J i ys nx → (l, listOf vs.toArray nn) ∈ nx)
    (hasg : ∀ i v C m' news₁ ys s₂ (E' : Value → Shared → Prop) (Q' : Unit → Shared → Prop), vs[i]? = some v → J i ys news₁ → s₂.heap.Ns C m' → News h₀ L s₂.heap news₁ →
      (∀ h' tk' m'', h'.Ns C m'' → Dm i m'' → (∀ b o, b ≠ C → s₂.heap.get? b = some o → h'.get? b = some o) → Q' () { s₂ with heap := h', toks := tk' }) → wpAny (model prog w) A (assign target (compEnvC scope cl C env) v) Q' E' s₂)
    (turn : ∀ s₁ i v I oI C oC D m₂ h tk (E' : Value → Shared → Prop) ys news₁, (∃ hp, s₁ = { s with heap := hp }) → vs[i]? = some v → J i ys news₁ → NsObj oC m₂ → Dm i m₂ → Fr h₀ L h m → News h₀ L h ((I, oI) :: (C, oC) :: (D, lst ys) :: news₁) → (∀ p ∈ news₁, p.1 ≠ I ∧ p.1 ≠ C ∧ p.1 ≠ D) →
      ((@Ne Nat I C) ∧ (@Ne Nat I D) ∧ (@Ne Nat C D)) → TestThen prog w A ifs (compEnvC scope cl C env)
        (fun s₃ => wpAny (model prog w) A (eval elt (compEnvC scope cl C env)) (fun y s₄ => CEnd h₀ L m s₁ I oI C oC D ys (J (i + 1) (ys ++ [y])) s₄) E' s₃)
        (fun s₃ => CEnd h₀ L m s₁ I oI C oC D ys (J (i + 1) ys) s₃) E' { s₁ with heap := h, toks := tk })
    (fin : ∀ D h tk ys news', J vs.length ys news' → Fr h₀ L h m → News h₀ L h ((D, lst ys) :: news') → (∀ p ∈ news', p.1 ≠ D) → Q (.ref D) { s with heap := h, toks := tk }) :
    CoGoal prog w A (.ListComp elt [⟨target, iter, ifs, 0⟩] scope pos) scope cl env none Q E (.ref l) s := by
  have hls : s.heap.IsList l vs.toArray := ⟨_, (N _ hl).1, rfl, nn, rfl⟩
  have hlt : l < s.heap.objs.size := Heap.lt_size (N _ hl).1
  refine wpAny_pyIter_list hls ?_
  have up : ∀ b o, s.heap.get? b = some o → (s.heap.push { cls := .type "list_iterator", data := .fields #[.ref l, .int 0 0] }).get? b = some o := fun b o e => Heap.get?_push_of_some _ e
  refine comp_block (vs := vs) (nn := nn) J Dm hh hsz (Nat.ne_of_lt hlt) htg hcell hkind ⟨_, Heap.get?_push_size _ rfl, rfl, rfl⟩ (F.keeps up) (N.grown up) (Nat.ne_of_lt F.ns.lt) (next_is_new F) (fun p hp => Nat.ne_of_lt (Heap.lt_size (N p hp).1)) h0 hJl hasg
    (fun i v I oI C oC D m₂ h tk E' ys news₁ => turn _ i v I oI C oC D m₂ h tk E' ys news₁ ⟨_, rfl⟩) ?_
  intro D C h tk m' ys news' F' N' o1 hn hC₀ hD₀ hCL hDL hCD offC j
  refine ⟨m', hn, fun h'' hs'' => fin D h'' tk ys news' j (F'.change hs'' hCL hC₀) (fun p hp => ?_) o1⟩
  refine ⟨hs''.extBut _ _ ?_ (N' p hp).1, (N' p hp).2⟩
  rcases List.mem_cons.mp hp with rfl | hp
  · exact Ne.symm hCD
  · exact offC p hp
/-- a comprehension over a list of the ledger's -/
theorem comp_listA {elt target iter : Expr} {ifs : List Expr} {scope : Scope} {cl : List (Str × Addr)} {pos : Pos} {l : Addr} {vs : List Value} {nn : Nat} {news : LedC} {y : Str} {py : Pos} {Q : Value → Shared → Prop}
    (J : Nat → List Value → LedC → Prop) (Dm : Nat → (Str → Option Value) → Prop)
    (hh : A.handled = none) (hl : (l, listOf vs.toArray nn) ∈ news) (hsz : vs.length ≤ sizeLine)
    (htg : (∀ it v, letOwnedTupleGo target it v = pure ()) ∨ ((∃ es k p, target = .Tuple es k p) ∧ ∀ v ∈ vs, ∃ a, v = .ref a))
    (hcell : ∀ y ∈ scope.names, y.2 ≠ .cell) (hkind : scope.kind = .function)
    (F : Fr h₀ env.locals s.heap m) (N : News h₀ env.locals s.heap news) (h0 : J 0 [] news) (hJl : ∀ i ys nx, J i ys nx → (l, listOf vs.toArray nn) ∈ nx)
    (hasg : ∀ i v C m' news₁ ys s₂ (E' : Value → Shared → Prop) (Q' : Unit → Shared → Prop), vs[i]? = some v → J i ys news₁ → s₂.heap.Ns C m' → News h₀ env.locals s₂.heap news₁ →
      (∀ h' tk' m'', h'.Ns C m'' → Dm i m'' → (∀ b o, b ≠ C → s₂.heap.get? b = some o → h'.get? b = some o) → Q' () { s₂ with heap := h', toks := tk' }) → wpAny (model prog w) A (assign target (compEnvC scope cl C env) v) Q' E' s₂)
    (turn : ∀ s₁ i v I oI C oC D m₂ h tk (E' : Value → Shared → Prop) ys news₁, (∃ hp, s₁ = { s with heap := hp }) → vs[i]? = some v → J i ys news₁ → NsObj oC m₂ → Dm i m₂ → Fr h₀ env.locals h m → News h₀ env.locals h ((I, oI) :: (C, oC) :: (D, lst ys) :: news₁) → (∀ p ∈ news₁, p.1 ≠ I ∧ p.1 ≠ C ∧ p.1 ≠ D) →
      ((@Ne Nat I C) ∧ (@Ne Nat I D) ∧ (@Ne Nat C D)) → TestThen prog w A ifs (compEnvC scope cl C env)
        (fun s₃ => wpAny (model prog w) A (eval elt (compEnvC scope cl C env)) (fun y s₄ => CEnd h₀ env.locals m s₁ I oI C oC D ys (J (i + 1) (ys ++ [y])) s₄) E' s₃)
        (fun s₃ => CEnd h₀ env.locals m s₁ I oI C oC D ys (J (i + 1) ys) s₃) E' { s₁ with heap := h, toks := tk })
    (hy : env.kindOf y = some .local) (hp : (env.scope.kind == .class || (env.scope.kind == .module && env.locals != env.globals)) = false)
    (fin : ∀ D h tk ys news', J vs.length ys news' → Fr h₀ env.locals h (fun z => if z = y then some (.ref D) else m z) → News h₀ env.locals h ((D, lst ys) :: news') → (∀ p ∈ news', p.1 ≠ D) → ∀ v, Q v { s with heap := h, toks := tk }) :
    CoGoal prog w A (.ListComp elt [⟨target, iter, ifs, 0⟩] scope pos) scope cl env (some (assign (.Name y py) env)) Q E (.ref l) s := by
  have hls : s.heap.IsList l vs.toArray := ⟨_, (N _ hl).1, rfl, nn, rfl⟩
  have hlt : l < s.heap.objs.size := Heap.lt_size (N _ hl).1
  refine wpAny_pyIter_list hls ?_
  have up : ∀ b o, s.heap.get? b = some o → (s.heap.push { cls := .type "list_iterator", data := .fields #[.ref l, .int 0 0] }).get? b = some o := fun b o e => Heap.get?_push_of_some _ e
  refine comp_block (vs := vs) (nn := nn) J Dm hh hsz (Nat.ne_of_lt hlt) htg hcell hkind ⟨_, Heap.get?_push_size _ rfl, rfl, rfl⟩ (F.keeps up) (N.grown up) (Nat.ne_of_lt F.ns.lt) (next_is_new F) (fun p hp => Nat.ne_of_lt (Heap.lt_size (N p hp).1)) h0 hJl hasg
    (fun i v I oI C oC D m₂ h tk E' ys news₁ => turn _ i v I oI C oC D m₂ h tk E' ys news₁ ⟨_, rfl⟩) ?_
  intro D C h tk m' ys news' F' N' o1 hn hC₀ hD₀ hCL hDL hCD offC j
  show wpAny _ A (assign (.Name y py) env (.ref D)) _ _ _
  refine wpAny_assign_Name (wpAny_storeName_local hy F'.ns (fun h₂ hn₂ hs₂ => ?_) hp)
  have hL₀ : h₀.get? env.locals = none := Heap.get?_none_of_le F'.above
  have F₂ : Fr h₀ env.locals h₂ (fun z => if z = y then some (.ref D) else m z) := ⟨hn₂, fun b o e => hs₂.extBut b o (fun q => by rw [q, hL₀] at e; cases e) (F'.keep b o e), F'.above⟩
  refine ⟨m', hn.sameBut hs₂ hCL, fun h'' hs'' => fin D h'' _ ys news' j (F₂.change hs'' hCL hC₀) (fun p hp => ?_) o1 _⟩
  have z : h₂.get? p.1 = some p.2 := hs₂.extBut _ _ (N' p hp).2.1 (N' p hp).1
  refine ⟨hs''.extBut _ _ ?_ z, (N' p hp).2⟩
  rcases List.mem_cons.mp hp with rfl | hp
  · exact Ne.symm hCD
  · exact offC p hp

theorem asg_name {x : Str} {px : Pos} {scope : Scope} {cl : List (Str × Addr)} {C : Addr} {v : Value} {m' : Str → Option Value} {Q' : Unit → Shared → Prop} (hk : scope.kind = .function) (hx : scope.names.lookup x = some .local) (hn : s.heap.Ns C m')
    (h : ∀ h' tk' m'', h'.Ns C m'' → m'' x = some v → (∀ b o, b ≠ C → s.heap.get? b = some o → h'.get? b = some o) → Q' () { s with heap := h', toks := tk' }) :
    wpAny (model prog w) A (assign (.Name x px) (compEnvC scope cl C env) v) Q' E s :=
  wpAny_assign_Name (wpAny_storeName_local (lookup_relabel_local hx) hn (fun h₃ hn₃ hs₃ => h _ _ _ hn₃ (by simp) fun b o hb e => hs₃.extBut b o hb e) (by simp [compEnvC, relabel, hk]))
theorem asg_pair {a b : Str} {pa pb tp : Pos} {kk : Nat} {scope : Scope} {cl : List (Str × Addr)} {C T : Addr} {x y : Value} {m' : Str → Option Value} {Q' : Unit → Shared → Prop} (hh : A.handled = none) (hk : scope.kind = .function) (ha : scope.names.lookup a = some .local) (hb : scope.names.lookup b = some .local) (hab : ¬ a = b) (ht : s.heap.IsTuple T #[x, y]) (hn : s.heap.Ns C m')
    (h : ∀ h' tk' m'', h'.Ns C m'' → (m'' a = some x ∧ m'' b = some y) → (∀ b o, b ≠ C → s.heap.get? b = some o → h'.get? b = some o) → Q' () { s with heap := h', toks := tk' }) :
    wpAny (model prog w) A (assign (.Tuple [.Name a pa, .Name b pb] kk tp) (compEnvC scope cl C env) (.ref T)) Q' E s :=
  kcp_assign (env := compEnvC scope cl C env) hh ht (lookup_relabel_local ha) (lookup_relabel_local hb) (by simp [compEnvC, relabel, hk]) hn fun h' tk' hn' hs' => h _ _ _ hn' ⟨by simp [hab], by simp⟩ hs'
end
end Mine
end
section
open PySem PySem.W PyProof.Rows PySem.Spec PySem.Calls
set_option maxRecDepth 100000
set_option maxHeartbeats 8000000
namespace Mine
theorem offMSl : True := by
  w_top off
  trivial
section
variable {prog : Program} {w : World} {A : Around} {E : Value → Shared → Prop} {s : Shared}
/-- l[:] = the list D -/
theorem set_all {l sl D : Addr} {items ys : Array Value} {Q : Unit → Shared → Prop} {nn : Nat} (ho : s.heap.get? l = some (listOf items nn)) (hD : s.heap.IsList D ys) (hlD : l ≠ D)
    (hs : s.heap.IsSliceOf sl .none .none .none) (hsz : items.size + ys.size ≤ sizeLine)
    (hQ : ∀ h' k, h'.get? l = some (listOf ys k) → Heap.SameBut l s.heap h' → Q () { s with heap := h' }) :
    wpAny (model prog w) A (setItem (.ref l) (.ref sl) (.ref D)) Q E s := by
  revert ho hD hlD hs hsz hQ
  revert prog w A E s l sl D items ys Q nn
  refine no_implicit_lambda% (henk6 (by repeat' first | exact has_nat | exact has_world | exact has_list | exact has_str | exact has_val | exact has_around | exact has_shared | exact has_heap | exact has_opt | exact has_prop | exact has_expr | exact has_scope | exact has_pos | exact has_env | exact has_prog | exact has_obj | exact has_array | apply has_fun | apply has_pair) ?_)
  intro prog w A E s l
  clear_value prog w A E s l
  refine no_implicit_lambda% (henk6 (by repeat' first | exact has_nat | exact has_world | exact has_list | exact has_str | exact has_val | exact has_around | exact has_shared | exact has_heap | exact has_opt | exact has_prop | exact has_expr | exact has_scope | exact has_pos | exact has_env | exact has_prog | exact has_obj | exact has_array | apply has_fun | apply has_pair) ?_)
  intro sl D items ys Q nn
  clear_value sl D items ys Q nn
  intro ho hD hlD hs hsz hQ
  have hl : s.heap.IsList l items := ⟨_, ho, rfl, nn, rfl⟩
  have hd : (listOf items nn).data = .seq items nn := rfl
  obtain ⟨oD, hoD, hcD, neD, hdD⟩ := id hD
  obtain ⟨os, hos, hcs, hds⟩ := id hs
  have hTs : s.TypeIs (.ref sl) "slice" := ⟨os, hos, hcs⟩
  unfold setItem
  try with_reducible refine wpAny_holding ?_
  first | refine wpAny_bind (wpAny_pure ?_) | skip
  refine wpAny_bind (wpAny_sequenceKey hl.typeIs (by decide) ?_)
  refine wpAny_bind (wpAny_callSpecial?_slot (name := Str.ofString "__setitem__") hl.typeIs slot_list_setitem
    (wpAny_call_entry slot_list_setitem hl.typeIs entry_list_setitem ?_ (args_list_setitem _ _ _)))
  show wpAny _ _ (Builtin.List.listSubscript? (.ref sl) >>= _) _ _ s
  refine wpAny_bind ?_
  unfold Builtin.List.listSubscript?
  refine wpAny_bind (wpAny_specialOf hTs slice_no_index ?_)
  simp only [Option.isNone_none, if_true]
  refine wpAny_pure ?_
  show wpAny _ _ (typeOf (.ref sl) >>= _) _ _ s
  refine wpAny_bind (wpAny_typeOf hTs ?_)
  rw [if_neg (by decide)]
  rw [listSliceParts_eq]
  refine wpAny_bind (wpAny_bind (wpAny_field hos hds (x := .none) rfl (wpAny_bind (wpAny_listPart .none ?_))))
  rw [if_neg (show ¬ ((rawPart none == rawInt 0) = true) from Bool.false_ne_true)]
  refine wpAny_bind (wpAny_field hos hds (x := .none) rfl (wpAny_bind (wpAny_listPart .none ?_)))
  refine wpAny_bind (wpAny_field hos hds (x := .none) rfl (wpAny_bind (wpAny_listPart .none (wpAny_pure ?_))))
  have hsame : Builtin.List.listSameRef (.ref l) (.ref D) = false := by
    show (l == D) = false
    exact beq_false_of_ne hlD
  dsimp only
  rw [hsame]
  simp only [Bool.false_eq_true, if_false]
  refine wpAny_bind (m := Builtin.List.listAllItems (.ref D) _) ?_
  unfold Builtin.List.listAllItems
  refine wpAny_bind (wpAny_typeOf hD.typeIs ?_)
  rw [if_pos (by decide)]
  unfold Builtin.List.listItems
  refine wpAny_bind (wpAny_seqItems hoD hdD (wpAny_pure ?_))
  refine wpAny_bind ?_
  refine wpAny_bind (wpAny_seqItems ho hd (wpAny_pure ?_))
  refine wpAny_bind (wpAny_of_eq (sliceIndices_raw none none none items.size (by decide)) ?_)
  have hb : sliceBounds none none none items.size = ((0 : Int), ((items.size : Nat) : Int), 1) := kms_bounds none none items.size
  have hmax : (max (0 : Int) ((items.size : Nat) : Int)).toNat = items.size := by omega
  have hlong : ¬ (Builtin.List.listTooLong (items.size + ys.size) = true) := by
    unfold Builtin.List.listTooLong
    simp only [decide_eq_true_eq, gt_iff_lt]
    omega
  rw [hb]
  dsimp only
  rw [if_pos (by rfl)]
  refine wpAny_bind (wpAny_rule ?_)
  rw [if_neg hlong, hmax]
  have hf : ∀ xs : Array Value, xs.size = items.size → xs.extract 0 (0 : Int).toNat ++ ys ++ xs.extract items.size = ys := fun xs hx => by
    simp [← hx]
  have hfin : ∃ k, (s.heap.update l (Obj.mapSeq (fun xs : Array Value => xs.extract 0 (0 : Int).toNat ++ ys ++ xs.extract items.size))).get? l = some (listOf ys k) := by
    have hd' : ∃ k, Obj.mapSeq (fun xs : Array Value => xs.extract 0 (0 : Int).toNat ++ ys ++ xs.extract items.size) (listOf items nn) = listOf ys k := ⟨_, by
      unfold Obj.mapSeq
      dsimp only
      rw [hf items rfl]⟩
    obtain ⟨k, e⟩ := hd'
    refine ⟨k, ?_⟩
    rw [Heap.get?_update_self _ ho (by rw [e]; rfl), e]
  obtain ⟨k, hfin⟩ := hfin
  show wpAny _ _ (updateSeq l (fun xs : Array Value => xs.extract 0 (0 : Int).toNat ++ ys ++ xs.extract items.size) >>= _) _ _ s
  refine wpAny_bind (wpAny_updateSeq ho hd ?_ (by omega) (by rw [hf items rfl]; omega))
  refine wpAny_bind (wpAny_letGo ?_)
  exact wpAny_pure ⟨.none, rfl, wpAny_pure (hQ _ k hfin (Heap.SameBut.update ..))⟩
theorem set_all_led {h₀ : Heap} {L : Addr} {m : Str → Option Value} {news : List (Addr × Obj)} {g : Obj → List (Addr × Obj)} {l D : Addr} {vs ys : List Value} {nn k : Nat} {Q : Unit → Shared → Prop} {sl : Addr}
    (F : Fr h₀ L s.heap m) (N : News h₀ L s.heap news) (U : UpdF l (listOf vs.toArray nn) news g) (hD : (D, listOf ys.toArray k) ∈ news) (hlD : l ≠ D) (hs : s.heap.IsSliceOf sl .none .none .none) (hsz : vs.length + ys.length ≤ sizeLine)
    (h : ∀ h' k', Fr h₀ L h' m → News h₀ L h' (g (listOf ys.toArray k')) → Q () { s with heap := h' }) : wpAny (model prog w) A (setItem (.ref l) (.ref sl) (.ref D)) Q E s := by
  obtain ⟨own, rest, rfl, hg, h1, h2⟩ := U.split
  have hmem := N (l, listOf vs.toArray nn) (List.mem_append_right _ (.head _))
  refine set_all hmem.1 ⟨_, (N _ hD).1, rfl, k, rfl⟩ hlD hs (by simpa using hsz) fun h' k' ho' hs' => ?_
  refine h h' k' ⟨F.ns.sameBut hs' (Ne.symm hmem.2.1), fun b ob e => (hs'.2 b (fun q => ?_)).trans (F.keep b ob e), F.above⟩ (hg _ ▸ N.setAt h1 h2 hs' ho')
  rw [q, hmem.2.2] at e; cases e
end
end Mine
end
section
open PySem PySem.W PyProof.Rows PySem.Spec PySem.Calls Mine
local macro_rules | `(tactic| ktn_open) => `(tactic| repeat' (first | (k_unfold; (try dsimp only)) | walk1 | (dsimp only; walk1) | (leave1; walk_say "STEP leave1"; try dsimp only) | fail "no step"))
local macro_rules | `(tactic| k_all) => `(tactic| first | exact List.forall_mem_nil _ | assumption | exact neAll_lt (by assumption) | (refine' List.forall_mem_cons.mpr ⟨?a, ?b⟩; (case a => (first | assumption | (apply Ne.symm; assumption) | k_ne)); (case b => k_all)) | (rename _ ∧ AllLt _ _ => lq; exact neAll_lt (ktn_ltOf lq.2)))
local macro_rules | `(tactic| k_upd) => `(tactic| first | (refine' Upd.head ?a; (case a => k_all)) | (refine' Upd.tail ?a ?b; (case a => (first | assumption | (apply Ne.symm; assumption) | k_ne)); (case b => k_upd)))
local macro_rules | `(tactic| walk_at $s:str) => `(tactic| k_extra $s)
section
open PySem PySem.W PyProof.Rows PySem.Spec PySem.Calls
set_option maxRecDepth 100000
set_option maxHeartbeats 8000000
namespace Mine
theorem offD1 : True := by
  w_top off
  trivial
theorem fill1 : (PySem.Challenge.rw_wf0088_01, hd.heap_1) = (PySem.Challenge.rw_wf0088_01, hd.heap_1) := by
  k_fill
  rfl
/-- what the draws are -/
def drawsL : Int → List Int → List Int
  | _, [] => []
  | x, b :: r => Int.fmod x b :: drawsL (Int.fdiv x b) r
def restL : Int → List Int → Int
  | x, [] => x
  | x, b :: r => restL (Int.fdiv x b) r
abbrev bases : List Int := [4, 4, 4, 4, 2, 3, 16, 3, 2, 100000]
theorem drawsL_snoc : ∀ (l : List Int) (x b : Int), drawsL x (l ++ [b]) = drawsL x l ++ [Int.fmod (restL x l) b]
  | [], _, _ => rfl
  | a :: l, x, b => by simp only [List.cons_append, drawsL, restL, drawsL_snoc l]
theorem restL_snoc : ∀ (l : List Int) (x b : Int), restL x (l ++ [b]) = Int.fdiv (restL x l) b
  | [], _, _ => rfl
  | a :: l, x, b => by simp only [List.cons_append, restL, restL_snoc l]
def DJ (x : Int) (news : Led) (i : Nat) (m : Str → Option Value) (nx : Led) : Prop :=
  ∃ l vs n t T oT, nx = (l, listOf vs n) :: (T, oT) :: news ∧ l ≠ T ∧ (∀ p ∈ news, p.1 < l) ∧ IntsAre vs.toList (drawsL x (bases.take i)) ∧ m (Str.ofString "x") = some (.int (restL x (bases.take i)) t) ∧ m (Str.ofString "draws") = some (.ref l)
theorem IntsAre.snoc {vs : Array Value} {ns : List Int} {k : Int} {t : Tok} (h : IntsAre vs.toList ns) : IntsAre (vs.push (.int k t)).toList (ns ++ [k]) := by
  rw [Array.toList_push]
  exact IntsAre.append h (IntsAre.cons _ _ IntsAre.nil)
theorem drawsL_len : ∀ (l : List Int) (x : Int), (drawsL x l).length = l.length
  | [], _ => rfl
  | b :: l, x => by simp only [drawsL, List.length_cons, drawsL_len l]
theorem ints_small {vs : Array Value} {x : Int} {i : Nat} (h : IntsAre vs.toList (drawsL x (bases.take i))) : vs.size ≤ sizeLine := by
  have e := h.length
  rw [drawsL_len, Array.length_toList] at e
  have : (bases.take i).length ≤ bases.length := List.length_take_le' ..
  have hb : bases.length = 10 := rfl
  rw [e, sizeLine_eq]; omega
section
local macro_rules | `(tactic| size_fits) => `(tactic| assumption)
theorem draws_con (w : World) (news : Led) (x : Int) (t : Tok) :
    Con w 2 243 news [.int x t] (fun v led' => ∃ l vs n, v = .ref l ∧ led' = (l, listOf vs n) :: news ∧ (∀ p ∈ news, p.1 < l) ∧ IntsAre vs.toList (drawsL x bases)) := by
  k_with_none
  (k_with "exec For Name Tuple cons nil" => (k_here; (rename Fr _ _ _ _ => lF'); (refine For_invVF lF' rfl rfl ?_ (fun _ => rfl) PassesOwn.never)))
  (k_with "pyIter ref" => refine Hold.of ?_)
  (k_with "binaryOp FloorDiv int int" => refine floordiv_int (by assumption) ?_ (Or.inl (by assumption)))
  revert w news x t
  refine henk4 (by repeat' first | exact has_nat | exact has_world | exact has_list | exact has_str | exact has_int | exact has_val | exact has_bool | exact has_fun has_nat | exact ⟨⟨0, 0, Str.empty, Str.empty⟩⟩ | apply has_pair) ?_
  intro w news x t
  clear_value w news x t
  refine' con_of_body (binds := [(Str.ofString "x", .int x t)]) ?ho ?hcd ?hb ?hloc ?h ?h1 ?h2 ?h3 ?h4
  (case ho => k_is)
  (case hcd => k_is)
  (case hb => exact fun s => BindsTo.of_eq rfl)
  (case hloc => exact locs rfl)
  (case h1 => exact rfl)
  (case h2 => exact rfl)
  (case h3 => exact rfl)
  (case h4 => decide)
  refine henkC ?_
  intro mean mg mb dp un gd outer A₀ base g L' s
  clear_value mean mg mb dp un gd outer A₀ base g L' s
  intro B F X N T hdp hun
  ktn_open
  refine Hold.out ?_
  (rename Fr _ _ _ _ => lF')
  (rename News _ _ _ _ => lN')
  replace lN' := News.swap lN'
  with_unfolding_all refine' for_tup (fun i m nx => DJ x news i m nx) (by rfl) ?hl lF' lN' ?h0 ?turn ?done
  (case hl => k_mem)
  case h0 => 
    (rename _ ∧ AllLt _ _ => l2)
    (rename ∀ p ∈ news, p.1 < _ => l1)
    refine ⟨_, #[], 0, _, _, _, rfl, Nat.ne_of_lt l2.1, l1, IntsAre.nil, rfl, rfl⟩
  case done =>
    rintro m₁ news₁ h tk ⟨l, vs, n, t, T, oT, rfl, hTl, hlt, hi, hx, hd⟩ F' N'
    rw [map2 hx hd] at F'
    ktn_open
    rename Fr _ _ _ _ => lF
    rename News _ _ _ _ => lN
    exact BodyRet.mk ((l, listOf vs n) :: news) lF (News.swap lN) (fun p hp => .tail _ hp) ⟨_, _, _, rfl, rfl, hlt, hi⟩
  case turn =>
    rintro i v m₁ news₁ h tk I it hv ⟨l, vs, n, t, T, oT, rfl, hTl, hlt, hi, hx, hd⟩ hTm hI hI' F' N'
    rw [map2 hx hd] at F'
    dsimp only at F'
    have hb : ∃ b t, v = .int b t ∧ 0 < b ∧ bases[i]? = some b ∧ Builtin.divisionGoesByPylong (restL x (bases.take i)) b = false := by
      rcases i with _ | _ | _ | _ | _ | _ | _ | _ | _ | _ | i
      all_goals first
        | (cases hv; exact ⟨_, _, rfl, by decide, rfl, PyProof.noPylong_of_log2 (by decide +kernel)⟩)
        | cases hv
    obtain ⟨b, tb, rfl, hb0, hbi, hpy⟩ := hb
    have e := List.take_add_one (l := bases) (i := i)
    rw [hbi] at e
    simp only [Option.toList] at e
    unfold DJ
    rw [e, drawsL_snoc, restL_snoc]
    have hsz := ints_small hi
    have hne : b ≠ 0 := by omega
    have hIl : I ≠ l := fun e => hI' _ (.head _) e.symm
    ktn_open
    refine' FStep.mkT ?F ?N ?O ?J
    case F => assumption
    case N => assumption
    case O => exact ne_keep hI' rfl
    case J => exact ⟨mem_keep hTm (by simp), _, _, _, _, _, _, rfl, hTl, hlt, IntsAre.snoc hi, rfl, rfl⟩
end
end Mine
end
section
open PySem PySem.W PyProof.Rows PySem.Spec PySem.Calls
set_option maxRecDepth 100000
set_option maxHeartbeats 8000000
namespace Mine
theorem offD3 : True := by
  w_top off
  trivial
theorem fillD3 : (PySem.Challenge.rw_wf0088_01, hd.heap_1) = (PySem.Challenge.rw_wf0088_01, hd.heap_1) := by
  k_fill
  rfl
def spoiledF (x : Str) (how : Int) : Str :=
  if how < 8 then x else if how < 14 then Txt.slice x none (some (x.length - (2 * how - 15))) else if how = 14 then Txt.slice x none (some (-1)) ++ Str.ofString "7)" else Txt.slice x none (some (-1)) ++ Txt.slice x (some (-2)) none
theorem spoiled_con (w : World) (news : Led) (x : Str) (t : Tok) (how : Int) (t2 : Tok) (hx : 11 ≤ x.length ∧ x.length ≤ 200) : Con w (1 + 1) 257 (news) [.str x t, .int how t2] (fun v led' => led' = news ∧ ∃ t', v = .str (spoiledF x how) t') := by
  revert hx
  revert w news x t how t2
  refine henk6 (by repeat' first | exact has_nat | exact has_world | exact has_list | exact has_str | exact has_int | exact has_val | exact has_bool | exact has_fun has_nat | exact ⟨⟨0, 0, Str.empty, Str.empty⟩⟩ | apply has_pair) ?_
  intro w news x t how t2
  clear_value w news x t how t2
  intro hx
  refine' con_of_body (binds := [(Str.ofString "text", .str x t), (Str.ofString "how", .int how t2)]) ?ho ?hcd ?hb ?hloc ?h ?h1 ?h2 ?h3 ?h4
  (case ho => k_is)
  (case hcd => k_is)
  (case hb => exact fun s => BindsTo.of_eq rfl)
  (case hloc => exact locs rfl)
  (case h1 => exact rfl)
  (case h2 => exact rfl)
  (case h3 => exact rfl)
  (case h4 => decide)
  refine henkC ?_
  intro mean mg mb dp un gd outer A₀ base g L' s
  clear_value mean mg mb dp un gd outer A₀ base g L' s
  intro B F X N T hdp hun
  ktn_open
  all_goals (refine BodyRet.mk news (by assumption) (by assumption) (fun _ hp => hp) ⟨rfl, ?_⟩)
  all_goals (unfold spoiledF)
  all_goals first
    | (rw [if_pos (by assumption)]; exact ⟨_, rfl⟩)
    | (rw [if_neg (by assumption), if_pos (by assumption)]; exact ⟨_, rfl⟩)
    | (rw [if_neg (by assumption), if_neg (by assumption), if_pos (by assumption)]; exact ⟨_, rfl⟩)
    | (rw [if_neg (by assumption), if_neg (by assumption), if_neg (by assumption)]; exact ⟨_, rfl⟩)

end Mine
end
section
open PySem PySem.W PyProof.Rows PySem.Spec PySem.Calls
set_option maxRecDepth 100000
set_option maxHeartbeats 8000000
namespace Mine
theorem offD4 : True := by
  w_top off
  trivial
theorem fillD4 : (PySem.Challenge.rw_wf0088_01, hd.heap_1) = (PySem.Challenge.rw_wf0088_01, hd.heap_1) := by
  k_fill
  rfl
theorem eof_con (w : World) (news : Led) (x : Int) (t : Tok) : Con w (1 + 1) 99 (news) [.int x t] (fun v led' => led' = news ∧ v = .bool (x == 0)) := by
  refine' con_of_body (binds := [(Str.ofString "x", .int x t)]) ?ho ?hcd ?hb ?hloc ?h ?h1 ?h2 ?h3 ?h4
  (case ho => k_is)
  (case hcd => k_is)
  (case hb => exact fun s => BindsTo.of_eq rfl)
  (case hloc => exact locs rfl)
  (case h1 => exact rfl)
  (case h2 => exact rfl)
  (case h3 => exact rfl)
  (case h4 => decide)
  intro mean mg mb dp un gd outer A₀ base g L' s B F X N T hdp hun
  ktn_open
  refine' BodyRet.mk news ?F ?N (fun _ hp => hp) ⟨rfl, rfl⟩; (case F => assumption); (case N => assumption)

end Mine
end
section
open PySem PySem.W PyProof.Rows PySem.Spec PySem.Calls
set_option maxRecDepth 100000
set_option maxHeartbeats 8000000
namespace Mine
theorem offD5 : True := by
  w_top off
  trivial
theorem fillD5 : (PySem.Challenge.rw_wf0088_01, hd.heap_1) = (PySem.Challenge.rw_wf0088_01, hd.heap_1) := by
  k_fill
  rfl
/-- the name that the scan reads -/
def scanF : List Nat → List Nat
  | [] => []
  | c :: r => if c = 34 then (match r with | d :: r' => if d = 34 then 34 :: scanF r' else [] | [] => []) else c :: scanF r
@[irreducible] def p257F (x : Str) : Str := if (Txt.slice x (some 3) (some 5) == Str.ofString " \"") = true then ⟨(scanF (x.cps.toList.drop 5)).toArray⟩ else Str.ofString ""
def PJ (x : Str) (n : Nat) (m : Str → Option Value) : Prop :=
  ∃ (i : Int) (d : Str) (t0 t1 t2 t3 : Tok), 5 ≤ i ∧ i ≤ x.length ∧ (d.length : Int) ≤ i ∧ (⟨(d.cps.toList ++ scanF (x.cps.toList.drop i.toNat)).toArray⟩ : Str) = ⟨(scanF (x.cps.toList.drop 5)).toArray⟩ ∧ n = x.length - i.toNat ∧
    m (Str.ofString "i") = some (.int i t0) ∧ m (Str.ofString "dirname") = some (.str d t1) ∧ m (Str.ofString "n") = some (.int x.length t2) ∧ m (Str.ofString "resp") = some (.str x t3)
theorem scan_end {x : Str} {i : Int} (h0 : 0 ≤ i) (h : ¬ i < x.length) : scanF (x.cps.toList.drop i.toNat) = [] := by
  rw [List.drop_eq_nil_of_le (by rw [len_toList]; omega)]; rfl
theorem toNat_succ' {i : Int} (h0 : 0 ≤ i) : (i + 1).toNat = i.toNat + 1 := Int.toNat_add h0 (by decide)
theorem le_succ' {i : Int} (h0 : 0 ≤ i) : 0 ≤ i + 1 := Int.le_trans h0 (Int.le_add_of_nonneg_right (by decide))
theorem meas1 {i : Int} {l n : Nat} (h0 : 0 ≤ i) (h : i < l) (hn : n = l - i.toNat) : l - (i + 1).toNat < n := by
  rw [hn, toNat_succ' h0]
  exact Nat.sub_succ_lt_self _ _ ((Int.toNat_lt h0).mpr h)
theorem meas2 {i : Int} {l n : Nat} (h0 : 0 ≤ i) (h : i < l) (hn : n = l - i.toNat) : l - (i + 1 + 1).toNat < n := by
  rw [toNat_succ' (le_succ' h0)]
  exact Nat.lt_of_le_of_lt (Nat.sub_le_sub_left (Nat.le_succ _) l) (meas1 h0 h hn)
theorem scan_brk1 {x : Str} {i : Int} (h0 : 0 ≤ i) (h1 : i < x.length) (hc : (Txt.item x i == Str.ofString "\"") = true) (h2 : (x.length : Int) ≤ i + 1) : scanF (x.cps.toList.drop i.toNat) = [] := by
  obtain ⟨c, e, ed⟩ := item_is h0 h1
  rw [e, quote_cps, one_beq, decide_eq_true_eq] at hc
  rw [ed, List.drop_eq_nil_of_le (by rw [len_toList]; omega), hc]; rfl
theorem scan_brk2 {x : Str} {i : Int} (h0 : 0 ≤ i) (h1 : i < x.length) (hc : (Txt.item x i == Str.ofString "\"") = true) (h2 : ¬ (x.length : Int) ≤ i + 1) (hd : (Txt.item x (i + 1) != Str.ofString "\"") = true) : scanF (x.cps.toList.drop i.toNat) = [] := by
  obtain ⟨c, e, ed⟩ := item_is h0 h1
  obtain ⟨d, e', ed'⟩ := item_is (x := x) (i := i + 1) (by omega) (by omega)
  rw [e, quote_cps, one_beq, decide_eq_true_eq] at hc
  rw [e', quote_cps, bne, one_beq] at hd
  have hd : d ≠ 34 := by simpa using hd
  rw [toNat_succ' h0] at ed'
  rw [ed, ed', hc]
  simp [scanF, hd]
theorem scan_two {x : Str} {i : Int} (h0 : 0 ≤ i) (h1 : i < x.length) (hc : (Txt.item x i == Str.ofString "\"") = true) (h2 : ¬ (x.length : Int) ≤ i + 1) (hd : (Txt.item x (i + 1) != Str.ofString "\"") = false) :
    scanF (x.cps.toList.drop i.toNat) = (Txt.item x i).cps.toList ++ scanF (x.cps.toList.drop (i + 1 + 1).toNat) := by
  obtain ⟨c, e, ed⟩ := item_is h0 h1
  obtain ⟨d, e', ed'⟩ := item_is (x := x) (i := i + 1) (by omega) (by omega)
  rw [e, quote_cps, one_beq, decide_eq_true_eq] at hc
  rw [e', quote_cps, bne, one_beq] at hd
  have hd : d = 34 := by simpa using hd
  rw [toNat_succ' h0] at ed'
  rw [ed, ed', e, hc, hd, toNat_succ' (le_succ' h0), toNat_succ' h0]
  simp [scanF]
theorem scan_one {x : Str} {i : Int} (h0 : 0 ≤ i) (h1 : i < x.length) (hc : (Txt.item x i == Str.ofString "\"") = false) :
    scanF (x.cps.toList.drop i.toNat) = (Txt.item x i).cps.toList ++ scanF (x.cps.toList.drop (i + 1).toNat) := by
  obtain ⟨c, e, ed⟩ := item_is h0 h1
  rw [e, quote_cps, one_beq] at hc
  have hc : c ≠ 34 := by simpa using hc
  rw [ed, e, toNat_succ' h0]
  rw [scanF.eq_def]
  simp [hc]
theorem scan_len_aux : ∀ (n : Nat) (l : List Nat), l.length ≤ n → (scanF l).length ≤ l.length := by
  intro n
  induction n with
  | zero => intro l h; cases l with
    | nil => simp [scanF]
    | cons c r => simp at h
  | succ n ih =>
    intro l h
    match l with
    | [] => simp [scanF]
    | c :: r =>
      have hr : r.length ≤ n := by simpa using h
      rw [scanF.eq_def]
      by_cases hc : c = 34
      · simp only [hc, if_true]
        match r with
        | [] => simp
        | d :: r' =>
          have h' := ih r' (by simp at hr; omega)
          by_cases hd : d = 34
          · simp only [hd, if_true, List.length_cons]; omega
          · simp [hd]
      · simp only [hc, if_false, List.length_cons]
        have := ih r hr
        omega
theorem scan_len (l : List Nat) : (scanF l).length ≤ l.length := scan_len_aux l.length l (Nat.le_refl _)
theorem p257_len (x : Str) : (p257F x).length ≤ x.length - 5 := by
  unfold p257F
  split
  · show (scanF (x.cps.toList.drop 5)).toArray.size ≤ _
    rw [List.size_toArray]
    refine Nat.le_trans (scan_len _) ?_
    rw [List.length_drop, len_toList]; exact Nat.le_refl _
  · exact Nat.zero_le _
theorem slice_five {x : Str} (h : (Txt.slice x (some 3) (some 5) != Str.ofString " \"") = false) : 5 ≤ x.length := by
  have h' : Txt.slice x (some 3) (some 5) = Str.ofString " \"" := by simpa using h
  have e := congrArg (fun s : Str => s.cps.toList.length) h'
  have e2 := slice_nn x 3 5
  rw [show Txt.slice x (some 3) (some 5) = Txt.slice x (some ((3 : Nat) : Int)) (some ((5 : Nat) : Int)) from rfl, e2, List.length_take, List.length_drop, len_toList, show (Str.ofString " \"").cps.toList.length = 2 by decide +kernel] at e
  omega
theorem str_nil (d : Str) : (⟨(d.cps.toList ++ []).toArray⟩ : Str) = d := str_ext (by simp)
theorem fits_small {i : Int} (h0 : 0 ≤ i) (h : i < 1000) : fitsSsize i = true := fitsSsize_of (N := 9223372036854775808) (by omega) (by omega) (Int.le_refl _)
section
theorem p257_con (w : World) (news : Led) (x : Str) (t : Tok) (hx : 4 ≤ x.length ∧ x.length ≤ 400) (h3 : (Txt.slice x none (some 3) == Str.ofString "257") = true) : Con w (1 + 1) 89 (news) [.str x t] (fun v led' => led' = news ∧ ∃ t', v = .str (p257F x) t') := by
  k_with_none
  (k_with "WStep" => with_reducible first | refine WStep.brkI ?_ | refine WStep.retI ?_)
  (k_with "FStep" => with_reducible first | refine FStep.brkI ?_ | refine FStep.retI ?_)
  (k_with "subscriptTail Name Name str int" => (refine item_str (by assumption) (by omega) (by omega) ?_; intro _))
  (k_with "exec While Compare cons nil" => refine Hold.of ?_)
  revert hx h3
  revert w news x t
  refine henk4 (by repeat' first | exact has_nat | exact has_world | exact has_list | exact has_str | exact has_int | exact has_val | exact has_bool | exact has_fun has_nat | exact ⟨⟨0, 0, Str.empty, Str.empty⟩⟩ | apply has_pair) ?_
  intro w news x t
  clear_value w news x t
  intro hx h3
  refine' con_of_body (binds := [(Str.ofString "resp", .str x t)]) ?ho ?hcd ?hb ?hloc ?h ?h1 ?h2 ?h3 ?h4
  (case ho => k_is)
  (case hcd => k_is)
  (case hb => exact fun s => BindsTo.of_eq rfl)
  (case hloc => exact locs rfl)
  (case h1 => exact rfl)
  (case h2 => exact rfl)
  (case h3 => exact rfl)
  (case h4 => decide)
  refine henkC ?_
  intro mean mg mb dp un gd outer A₀ base g L' s
  clear_value mean mg mb dp un gd outer A₀ base g L' s
  intro B F X N T hdp hun
  ktn_open
  · dsimp only
    refine BodyRet.mk news (by assumption) (by assumption) (fun _ hp => hp) ?_
    refine ⟨rfl, ?t, ?e⟩
    rotate_left
    unfold p257F
    rw [if_neg (by rw [Bool.not_eq_true]; (rename (_ != Str.ofString " \"") = true => hq); simpa using hq)]
  · refine Hold.out ?_
    have hx5 : 5 ≤ x.length := slice_five (by with_reducible assumption)
    refine while_led (fun n m nx => nx = news ∧ PJ x n m) (by assumption) (by assumption) (n₀ := x.length - 5) ?_ ?_
    · refine ⟨rfl, 5, Str.ofString "", _, _, _, _, by omega, by omega, by decide, ?_, ?_, rfl, rfl, rfl, rfl⟩
      · exact str_ext (by simp [Str.ofString]; rfl)
      · rfl
    · rintro n m₁ news₁ h₁ tk₁ ⟨rfl, i, d, t0, t1, t2, t3, h5, hi, hd, heq, hn, e1, e2, e3, e4⟩ F' N'
      rw [map4 e1 e2 e3 e4] at F'
      have hf1 : fitsSsize i = true := fits_small (by omega) (by omega)
      have hf2 : fitsSsize (i + 1) = true := fits_small (by omega) (by omega)
      have hi0 : 0 ≤ i := by omega
      (rename (Txt.slice x (some 3) (some 5) != Str.ofString " \"") = false => hq)
      have hp : p257F x = ⟨(scanF (x.cps.toList.drop 5)).toArray⟩ := by unfold p257F; rw [if_pos (by simpa using hq)]
      ktn_open
      · dsimp only
        refine BodyRet.mk news₁ (by assumption) (by assumption) (fun _ hp => hp) ?_
        refine ⟨rfl, t1, ?_⟩
        rw [hp, ← heq, scan_brk1 hi0 (by assumption) (by assumption) (by assumption), str_nil]
      · dsimp only
        refine BodyRet.mk news₁ (by assumption) (by assumption) (fun _ hp => hp) ?_
        refine ⟨rfl, t1, ?_⟩
        rw [hp, ← heq, scan_brk2 hi0 (by assumption) (by assumption) (by assumption) (by assumption), str_nil]
      · refine WStep.mk (n' := x.length - (i + 1 + 1).toNat) (by assumption) (by assumption) (meas2 hi0 (by assumption) hn) ?_
        refine ⟨rfl, i + 1 + 1, d ++ Txt.item x i, _, _, _, _, by omega, by omega, by omega, ?_, rfl, rfl, rfl, rfl, rfl⟩
        rw [← heq, scan_two hi0 (by assumption) (by assumption) (by assumption) (by assumption), cps_app, List.append_assoc]
      · refine WStep.mk (n' := x.length - (i + 1).toNat) (by assumption) (by assumption) (meas1 hi0 (by assumption) hn) ?_
        refine ⟨rfl, i + 1, d ++ Txt.item x i, _, _, _, _, by omega, by omega, by omega, ?_, rfl, rfl, rfl, rfl, rfl⟩
        rw [← heq, scan_one hi0 (by assumption) (by assumption), cps_app, List.append_assoc]
      · dsimp only
        refine BodyRet.mk news₁ (by assumption) (by assumption) (fun _ hp => hp) ?_
        refine ⟨rfl, t1, ?_⟩
        rw [hp, ← heq, scan_end hi0 (by assumption), str_nil]

end
end Mine
end
section
open PySem PySem.W PyProof.Rows PySem.Spec PySem.Calls
set_option maxRecDepth 100000
set_option maxHeartbeats 8000000
namespace Mine
theorem offD6a : True := by
  w_top off
  trivial
theorem fillD6a : (PySem.Challenge.rw_wf0088_01, hd.heap_1) = (PySem.Challenge.rw_wf0088_01, hd.heap_1) := by
  k_fill
  rfl

@[irreducible] noncomputable def exEs (P : Params) : Array DictEntry := match (hd.heap_1 P).lookup 90 with
  | some ⟨_, _, .dict es _, _⟩ => es
  | _ => #[]
@[irreducible] noncomputable def exG (P : Params) (k : Str) : Option Value := findBy Value.isStrOf (exEs P) k
noncomputable def exI (P : Params) (k : Str) : Option Int := (exG P k).bind fun v => match v with | .int c _ => some c | _ => none
theorem exMap {prog : Program} {w : World} {h : Heap} (X : (hd.heap_1 w.params).In h) : h.MapOf (strKind prog w) 90 (exG w.params) := by
  unfold exG
  refine mapOf_K (n := ?n) X ?hl ?hk
  case hl => unfold exEs; with_unfolding_all rfl
  case hk => 
    unfold exEs
    k_keys
theorem exG_int {P : Params} {k : Str} {v : Value} (h : exG P k = some v) : ∃ c t, v = .int c t ∧ exI P k = some c := by
  have hall : ((exEs P).toList.all fun e => match e.val with | .int .. => true | _ => false) = true := by with_unfolding_all rfl
  have h' := h
  unfold exG findBy at h
  obtain ⟨e, he, rfl⟩ := Option.map_eq_some_iff.mp h
  have := List.all_eq_true.mp hall e (by
    have := Array.mem_of_find?_eq_some he
    exact Array.mem_toList_iff.mpr this)
  split at this
  · rename_i c t hv
    refine ⟨c, t, hv, ?_⟩
    unfold exI
    rw [h', hv]; rfl
  · cases this
theorem exI_none {P : Params} {k : Str} (h : (exG P k).isSome = false) : exI P k = none := by
  unfold exI
  cases hg : exG P k with
  | none => rfl
  | some v => rw [hg] at h; simp at h
end Mine
end
section
open PySem PySem.W PyProof.Rows PySem.Spec PySem.Calls
set_option maxRecDepth 100000
set_option maxHeartbeats 8000000
namespace Mine
theorem offD6 : True := by
  w_top off
  trivial
theorem fillD6 : (PySem.Challenge.rw_wf0088_01, hd.heap_1) = (PySem.Challenge.rw_wf0088_01, hd.heap_1) := by
  k_fill
  rfl
theorem getMap {prog : Program} {w : World} {A : Around} {E : Value → Shared → Prop} {s : Shared} {value slice : Expr} {k : Str} {t : Tok} {v : Value} {Q : Value → Shared → Prop} {a : Addr} {f : Str → Option Value}
    (hm : s.heap.MapOf (strKind prog w) a f) (hv : f k = some v) (h : Q v { s with toks := s.toks + 1 })
    (hs : subscripted slice false (.ref a) (.str k t) = operate [.ref a, .str k t] (getItem (.ref a) (.str k t)) := by with_unfolding_all rfl) :
    wpAny (model prog w) A (subscriptTail value slice (.ref a) (.str k t)) Q E s :=
  tail_any hm.typeIs slot_dict_getitem.lookup (wpAny_getItem_of (strKind_is prog w k t) hm hv h) hs
theorem getEx {w : World} {A : Around} {E : Value → Shared → Prop} {s : Shared} {value slice : Expr} {k : Str} {t : Tok} {Q : Value → Shared → Prop} (X : (hd.heap_1 w.params).In s.heap)
    (hv : (exG w.params k).isSome = true) (h : ∀ c t, exI w.params k = some c → Q (.int c t) { s with toks := s.toks + 1 })
    (hs : subscripted slice false (.ref 90) (.str k t) = operate [.ref 90, .str k t] (getItem (.ref 90) (.str k t)) := by with_unfolding_all rfl) :
    wpAny (model PySem.Challenge.pw_wf0088_01 w) A (subscriptTail value slice (.ref 90) (.str k t)) Q E s := by
  cases hg : exG w.params k with
  | none => rw [hg] at hv; cases hv
  | some v =>
    obtain ⟨c, t', rfl, hc⟩ := exG_int hg
    exact getMap (exMap X) hg (h c t' hc) hs
abbrev restF (x : Str) : Str := Txt.slice x (some (2 + (p257F (Str.ofString "257 " ++ x)).length + Txt.count (p257F (Str.ofString "257 " ++ x)) (Str.ofString "\""))) none
noncomputable abbrev tokAt (P : Params) (x : Str) (j : Int) : Option Int := exI P (Txt.slice (restF x) none (some j))
abbrev r229 (x : Str) (size : Int) : Str := Str.ofString "229 " ++ Txt.slice (restF x) (some size) none
abbrev lpar (r : Str) : Int := Txt.find r (Str.ofString "(")
abbrev rpar (r : Str) : Int := Txt.find3 r (Str.ofString ")") (Txt.find r (Str.ofString "(") + 1)
abbrev parts (r : Str) : List Str := Txt.split (Txt.slice r (some (lpar r + 1)) (some (rpar r))) (Txt.item r (lpar r + 1))
def Refuse (r : Str) : Prop := lpar r < 0 ∨ rpar r < 0 ∨ (Txt.item r (lpar r + 1) != Txt.item r (rpar r - 1)) = true ∨ (parts r).length ≠ 5
def Tell (r : Str) (port : Int) : Prop := 0 ≤ lpar r ∧ 0 ≤ rpar r ∧ (Txt.item r (lpar r + 1) != Txt.item r (rpar r - 1)) = false ∧ ∃ a b c d e, parts r = [a, b, c, d, e] ∧ PySem.intText? d = some port
def Scan (P : Params) (x : Str) (size c : Int) : Prop := 0 < size ∧ size ≤ 3 ∧ (∀ j : Int, size < j → j ≤ 3 → tokAt P x j = none) ∧ tokAt P x size = some c
theorem tell_int {r : Str} {a b c d e : Str} (h : (∃ p, Tell r p) ∨ Refuse r) (h1 : ¬ lpar r < 0) (h2 : ¬ rpar r < 0) (h3 : (Txt.item r (lpar r + 1) != Txt.item r (rpar r - 1)) = false) (h4 : parts r = [a, b, c, d, e]) : ∃ n, PySem.intText? d = some n := by
  rcases h with ⟨p, _, _, _, a', b', c', d', e', hs, hi⟩ | h | h | h | h
  · rw [h4] at hs; simp only [List.cons.injEq] at hs; obtain ⟨_, _, _, rfl, _⟩ := hs; exact ⟨p, hi⟩
  · exact absurd h (by omega)
  · exact absurd h (by omega)
  · rw [h3] at h; cases h
  · rw [h4] at h; exact absurd rfl h
/-- what is read of a text -/
inductive ReadR (P : Params) (x : Str) : Int → List Value → Prop where
  | nothing (h : ∀ j : Int, 0 < j → j ≤ 3 → tokAt P x j = none) : ReadR P x 0 []
  | zero {size : Int} (h : Scan P x size 0) : ReadR P x 0 []
  | refused {size c : Int} (h : Scan P x size c) (hc : c ≠ 0) (hr : Refuse (r229 x size)) : ReadR P x 1 []
  | told {size c port : Int} {t1 t2 t3 t4 : Tok} (h : Scan P x size c) (hc : c ≠ 0) (hr : Tell (r229 x size) port) : ReadR P x 2 [.int port t1, .int c t2, .str x t3, .str (p257F (Str.ofString "257 " ++ x)) t4]
abbrev tupO (vs : List Value) : Obj := { cls := .type "tuple", data := .seq vs.toArray 0 }
def ReadsAs (P : Params) (x : Str) (news : Led) (v : Value) (led' : Led) : Prop :=
  ∃ a b k t vs, v = .ref a ∧ led' = (a, tupO [.int k t, .ref b]) :: (b, tupO vs) :: news ∧ ReadR P x k vs
def RJ (P : Params) (x : Str) (n : Nat) (m : Str → Option Value) : Prop :=
  ∃ (size : Int) (t0 t1 t2 t3 : Tok), size = n ∧ 0 ≤ size ∧ size ≤ 3 ∧ (∀ j : Int, size < j → j ≤ 3 → tokAt P x j = none) ∧
    m (Str.ofString "size") = some (.int size t0) ∧ m (Str.ofString "rest") = some (.str (restF x) t1) ∧ m (Str.ofString "text") = some (.str x t2) ∧ m (Str.ofString "name") = some (.str (p257F (Str.ofString "257 " ++ x)) t3)
def TryGo : Prop := True
theorem reads_end {P : Params} {fs : List Addr} {g g' : Heap} {L' : Addr} {s : Shared} {x : Str} {news rest : Led} {a b : Addr} {k : Int} {t : Tok} {vs : List Value} {m' : Str → Option Value} {h' : Heap} {tk' : Nat}
    (T : KtsTurn fs g g') (F : Fr g' L' h' m') (N : News g' L' h' ((a, tupO [.int k t, .ref b]) :: (b, tupO vs) :: rest)) (sub : ∀ p ∈ news, p ∈ rest) (r : ReadR P x k vs) :
    BodyRetS fs g L' s (ReadsAs P x news) (.ret (.ref a)) { s with heap := h', toks := tk' } :=
  BodyRetS.mk _ T F N (fun p hp => by
    rcases List.mem_cons.mp hp with rfl | hp
    · exact .head _
    · rcases List.mem_cons.mp hp with rfl | hp
      · exact .tail _ (.head _)
      · exact .tail _ (.tail _ (sub p hp))) ⟨a, b, k, t, vs, rfl, rfl, r⟩
theorem tok_none {P : Params} {x : Str} {size : Int} (h : (exG P (Txt.slice (restF x) none (some size))).isSome = false) (hno : ∀ j : Int, size < j → j ≤ 3 → tokAt P x j = none) : ∀ j : Int, size - 1 < j → j ≤ 3 → tokAt P x j = none := by
  intro j h1 h2
  by_cases e : j = size
  · rw [e]; exact exI_none h
  · exact hno j (by omega) h2
theorem exMapF {prog : Program} {w : World} {h₀ h : Heap} {L : Addr} {m : Str → Option Value} (F : Fr h₀ L h m) (X : (hd.heap_1 w.params).In h₀) : h.MapOf (strKind prog w) 90 (exG w.params) := exMap (Frag.In.keeps X F.keep)
theorem fits_small' {i : Int} (h0 : 0 ≤ i) (h : i < 1000) : fitsSsize i = true := fitsSsize_of (N := 9223372036854775808) (by omega) (by omega) (Int.le_refl _)
section
variable {prog : Program} {w : World} {A : Around} {E : Value → Shared → Prop} {s : Shared} {h₀ : Heap} {L : Addr} {m : Str → Option Value} {news : List (Addr × Obj)} {Q : Value → Shared → Prop}
theorem addGen {x y r : Str} {t u : Tok} (hr : x ++ y = r) (hsz : x.length + y.length ≤ sizeLine) (h : ∀ t' tk, Q (.str r t') { s with toks := tk }) :
    wpAny (model prog w) A (binaryOp .Add (.str x t) (.str y u)) Q E s := by
  subst hr
  exact add_str h hsz
theorem ne_known {x y : Str} {t u : Tok} (hr : (x == y) = true) (h : Q (.bool false) s) : wpAny (model prog w) A (compareOp .NotEq (.str x t) (.str y u)) Q E s := by
  refine ne_str ?_
  rw [show (x != y) = false by rw [bne, hr]; rfl]
  exact h
theorem ne5 {n : Nat} (h : n ≠ 5) : ((n : Nat) : Int) ≠ 5 := by omega
theorem ne_int_known {x y : Int} {t u : Tok} (hr : x ≠ y) (h : Q (.bool true) s) : wpAny (model prog w) A (compareOp .NotEq (.int x t) (.int y u)) Q E s := by
  refine ne_int ?_
  rw [show (x != y) = true by simpa using hr]
  exact h
theorem len_led5 {D : Addr} {a b c d e : Value} {n : Nat} (N : News h₀ L s.heap news) (hm : (D, listOf #[a, b, c, d, e] n) ∈ news)
    (h : Q (.int 5 (s.toks + 1)) { s with toks := s.toks + 1 + 1 }) : wpAny (model prog w) A (call (.builtin "len") [.ref D]) Q E s :=
  len_led N hm (Nat.le_of_ble_eq_true rfl) h
theorem itemT {value slice : Expr} {a : Addr} {vs : List Value} {nn : Nat} {k : Int} {u : Tok} {v : Value} (N : News h₀ L s.heap news) (hm : (a, ({ cls := .type "tuple", data := .seq vs.toArray nn } : Obj)) ∈ news) (h0 : 0 ≤ k) (hk : k < 2 ^ 62) (hx : vs[k.toNat]? = some v) (h : Q v s)
    (hs : subscripted slice false (.ref a) (.int k u) = operate [.ref a, .int k u] (getItem (.ref a) (.int k u)) := by with_unfolding_all rfl) :
    wpAny (model prog w) A (subscriptTail value slice (.ref a) (.int k u)) Q E s := by
  have ht : IsTup s.heap a vs.toArray := ⟨_, (N _ hm).1, rfl, nn, rfl⟩
  have hlt : k.toNat < vs.length := (List.getElem?_eq_some_iff.mp hx).1
  exact tail_any ht.typeIs PySem.F.slot_tuple_getitem.lookup (getItem_tuple ht (by omega) (by omega) (seqIndex_of h0 (by rw [List.size_toArray]; omega)) (x := v) (by simpa using hx) h) hs
theorem itemL {value slice : Expr} {a : Addr} {vs : List Value} {nn : Nat} {k : Int} {u : Tok} {v : Value} (N : News h₀ L s.heap news) (hm : (a, listOf vs.toArray nn) ∈ news) (h0 : 0 ≤ k) (hk : k < 2 ^ 62) (hx : vs[k.toNat]? = some v) (h : Q v s)
    (hs : subscripted slice false (.ref a) (.int k u) = operate [.ref a, .int k u] (getItem (.ref a) (.int k u)) := by with_unfolding_all rfl) :
    wpAny (model prog w) A (subscriptTail value slice (.ref a) (.int k u)) Q E s := by
  have hl : s.heap.IsList a vs.toArray := ⟨_, (N _ hm).1, rfl, nn, rfl⟩
  exact tail_any hl.typeIs slot_list_getitem.lookup (wpAny_getItem_list hl h0 (by omega) (x := v) (by simpa using hx) h) hs
end
section
local macro_rules | `(tactic| k_room) => `(tactic| ((try simp only [depth_under_make, depth_under_kw, depth_in1, depth_deeper, depth_caller]); (try dsimp only [ktrTop]); first | (refine lt_room (by with_reducible assumption) ?_; k_dflt (exact rfl)) | exact lt_room0 (by with_reducible assumption) | omega))
local macro_rules | `(tactic| size_fits) => `(tactic| first | with_reducible assumption | (rw [sizeLine_eq]; omega) | (simp only [Str.length_append]; rw [sizeLine_eq]; omega))
theorem read_con (w : World) (news : Led) (x : Str) (t : Tok) (hx : x.length ≤ 300) (hg : ∀ size c, Scan w.params x size c → c ≠ 0 → (∃ p, Tell (r229 x size) p) ∨ Refuse (r229 x size)) : ConS w (5 + 1) 264 (news) [.str x t] (ReadsAs w.params x news) := by
  k_with_none
  (k_with "WStep" => with_reducible first | refine WStep.brkI ?_ | refine WStep.retI ?_)
  (k_with "FStep" => with_reducible first | refine FStep.brkI ?_ | refine FStep.retI ?_)
  (k_with "compareOp NotEq int int" => (refine ne_int_known (by with_reducible assumption) ?_))
  (k_with "noteFrame ref" => ((rename ktrTop _ _ _ _ _ _ _ _ _ _ = Around.deeper _ _ => hA); rw [hA]))
  (k_with "compareOp NotEq str str" => (refine ne_known (by with_reducible assumption) ?_))
  (k_with "binaryOp Add str str" => (refine' addGen ?kwk1 ?kwk2 ?_; (case kwk1 => with_reducible assumption); (case kwk2 => with_reducible assumption); intro _ _))
  (k_with "call builtin:str.split" => (refine' split5 ?kwF ?kwN ?kwk1 ?kwk2 ?_; (case kwF => with_reducible assumption); (case kwN => with_reducible assumption); (case kwk1 => exact rfl); (case kwk2 => (rw [sizeLine_eq]; omega)); intro D9 h9 k9 F9 l9 N9; (try k_lt l9); rcases N9 with ⟨a9, b9, c9, d9, e9, ta9, tb9, tc9, td9, te9, q9, z9, N9⟩ | ⟨v9, q9, z9, r9, N9⟩; ((rename _ ∨ Refuse _ => g9); obtain ⟨n9, i9⟩ := tell_int g9 (by with_reducible assumption) (by with_reducible assumption) (by with_reducible assumption) q9; have z9' : d9.length ≤ 640 := Nat.le_trans z9 (Nat.le_trans (Txt.slice_le _ _ _) (by omega))); rotate_left; (have q9' := ne5 q9); rotate_right))
  (k_with "call type:int" => (refine' KIN.call_text ?kwk1 ?kwk2 ?_; (case kwk1 => with_reducible assumption); (case kwk2 => with_reducible assumption)))
  (k_with "call builtin:len" => ((with_reducible show wpAny _ _ (call (Value.builtin "len") [Value.ref _]) _ _ _); k_dflt (first | (refine' len_led5 ?kwN ?kwk1 ?_; (case kwN => with_reducible assumption); (case kwk1 => exact List.Mem.head _)) | (refine' len_led ?kwN ?kwk1 ?kwk2 ?_; (case kwN => with_reducible assumption); (case kwk1 => exact List.Mem.head _); (case kwk2 => with_reducible assumption)))))
  (k_with "subscriptTail Name Constant ref int" => (with_unfolding_all first | (refine' itemT ?kwN ?kwk1 ?kwh0 ?kwhk ?kwhx ?_; (case kwN => with_reducible assumption); (case kwk1 => k_mem); (case kwh0 => decide); (case kwhk => omega); (case kwhx => exact rfl)) | (refine' itemL ?kwN ?kwk1 ?kwh0 ?kwhk ?kwhx ?_; (case kwN => with_reducible assumption); (case kwk1 => k_mem); (case kwh0 => decide); (case kwhk => omega); (case kwhx => exact rfl))))
  (k_with "subscriptTail Name BinOp str int" => (refine item_str (fits_small' (by omega) (by omega)) (by omega) (by omega) ?_; intro _))
  (k_with "exec While BoolOp cons nil" => refine Hold.of ?_)
  (k_with "exec While" => refine Hold.of ?_)
  (k_with "exec Try" => ((fail_if_success (rename TryGo => tg)); refine Hold.of ?_))
  (k_with "compareOp NotIn str ref" => (with_reducible show wpAny _ _ (compareOp CmpOp.NotIn (Value.str _ _) (Value.ref 90)) _ _ _; refine' wpAny_notIn_of (strKind_is _ _ _ _) (by decide) (exMapF ?kwF ?kwX) ?_; (case kwF => with_reducible assumption); (case kwX => with_reducible assumption)))
  (k_with "subscriptTail Name Subscript ref str" => (with_reducible show wpAny _ _ (subscriptTail _ _ (Value.ref 90) (Value.str _ _)) _ _ _; refine' getEx (Frag.In.keeps ?kwX (Fr.keep ?kwF)) ?kwv ?_; (case kwF => with_reducible assumption); (case kwX => with_reducible assumption); (case kwv => with_reducible assumption); intro _ _ _))
  (k_with "call ref" => (refine' Con.use (p257_con _ _ _ _ ?kwhx ?kwh3) ?kwcB ?kwcF ?kwcX ?kwcN ?kwcT rfl ?kwcd ?kwcu ?_; (case kwcN => k_asm); (case kwcB => k_asm); (case kwcF => k_asm); (case kwcX => k_asm); (case kwcT => k_asm); (case kwcd => (refine dp_ok (by with_reducible assumption) ?_; k_dflt (exact rfl))); (case kwcu => (refine un_ok (by with_reducible assumption) ?_; k_dflt (exact rfl))); (case kwhx => assumption); (case kwh3 => assumption); k_whole; intro v9 led9 h9 tk9 F9 N9 R9; obtain ⟨e9, t9, e8⟩ := R9; rw [e9] at N9; clear e9 led9; subst e8))
  (k_with "call ref" => (refine' Con.use (eof_con _ _ _ _) ?kwcB ?kwcF ?kwcX ?kwcN ?kwcT rfl ?kwcd ?kwcu ?_; (case kwcN => k_asm); (case kwcB => k_asm); (case kwcF => k_asm); (case kwcX => k_asm); (case kwcT => k_asm); (case kwcd => (refine dp_ok (by with_reducible assumption) ?_; k_dflt (exact rfl))); (case kwcu => (refine un_ok (by with_reducible assumption) ?_; k_dflt (exact rfl))); k_whole; intro v9 led9 h9 tk9 F9 N9 R9; obtain ⟨e9, e8⟩ := R9; rw [e9] at N9; clear e9 led9; subst e8))
  revert hx hg
  revert w news x t
  refine henk4 (by repeat' first | exact has_nat | exact has_world | exact has_list | exact has_str | exact has_int | exact has_val | exact has_bool | exact has_fun has_nat | exact ⟨⟨0, 0, Str.empty, Str.empty⟩⟩ | apply has_pair) ?_
  intro w news x t
  clear_value w news x t
  intro hx hg
  refine' conS_of_body (binds := [(Str.ofString "text", .str x t)]) ?ho ?hcd ?hb ?hloc ?h ?h1 ?h2 ?h3 ?h4
  (case ho => k_is)
  (case hcd => k_is)
  (case hb => exact fun s => BindsTo.of_eq rfl)
  (case hloc => exact locs rfl)
  (case h1 => exact rfl)
  (case h2 => exact rfl)
  (case h3 => exact rfl)
  (case h4 => decide)
  refine henkC ?_
  intro mean mg mb dp un gd outer A₀ base g L' s
  clear_value mean mg mb dp un gd outer A₀ base g L' s
  intro B F X N T hdp hun XB TB D hA
  have hx1 : 4 ≤ (Str.ofString "257 " ++ x).length ∧ (Str.ofString "257 " ++ x).length ≤ 400 := by rw [len257]; omega
  have h31 : (Txt.slice (Str.ofString "257 " ++ x) none (some 3) == Str.ofString "257") = true := head257 x
  have hnl : (p257F (Str.ofString "257 " ++ x)).length ≤ 300 := by have := p257_len (Str.ofString "257 " ++ x); rw [len257] at this; omega
  have hrl : (restF x).length ≤ 300 := Nat.le_trans (Txt.slice_le _ _ _) hx
  have hrs : (restF x).length ≤ sizeLine := by rw [sizeLine_eq]; omega
  ktn_open
  refine Hold.out ?_
  clear hx1 h31 hnl
  refine while_led (fun n m nx => nx = news ∧ RJ w.params x n m) (by assumption) (by assumption) (n₀ := 3) ?_ ?_
  · refine ⟨rfl, 3, _, _, _, _, rfl, by decide, by decide, fun j h1 h2 => absurd h2 (by omega), rfl, rfl, rfl, rfl⟩
  · rintro n m₁ news₁ h₁ tk₁ ⟨rfl, size, t0, t1, t2, t3, hn, h0, h3, hno, e1, e2, e3, e4⟩ F' N'
    rw [map4 e1 e2 e3 e4] at F'
    ktn_open
    · (rename exI _ _ = some _ => hex)
      refine reads_end KtsTurn.refl (by with_reducible assumption) (by with_reducible assumption) (fun _ h => h) (.zero (size := size) ⟨by with_reducible assumption, h3, hno, ?_⟩)
      show exI _ _ = _
      rw [hex]
      exact congrArg some (by first | assumption | omega)
    · refine Hold.out ?_
      have tg : TryGo := True.intro
      have hsc : Scan w.params x size _ := ⟨by assumption, h3, hno, by assumption⟩
      have hgg0 := hg size _ hsc (by assumption)
      have h4 : (Str.ofString "229 ").length = 4 := by decide +kernel
      have hyl : (Txt.slice (restF x) (some size) none).length ≤ 300 := Nat.le_trans (Txt.slice_le _ _ _) hrl
      have hry : (Str.ofString "229 ").length + (Txt.slice (restF x) (some size) none).length ≤ sizeLine := by rw [sizeLine_eq]; omega
      have h229 : (Txt.slice (Str.ofString "229 " ++ Txt.slice (restF x) (some size) none) none (some 3) == Str.ofString "229") = true := head229 _
      have hryl : (Str.ofString "229 " ++ Txt.slice (restF x) (some size) none).length ≤ 304 := by rw [len229]; omega
      have hr0 : 4 ≤ (Str.ofString "229 " ++ Txt.slice (restF x) (some size) none).length := by rw [len229]; omega
      have hsum : (Str.ofString "229 " ++ Txt.slice (restF x) (some size) none).length ≤ sizeLine := by rw [sizeLine_eq]; omega
      generalize hr : Str.ofString "229 " ++ Txt.slice (restF x) (some size) none = r at h229 hryl hsum hr0
      have hgg : (∃ p, Tell r p) ∨ Refuse r := by rw [← hr]; exact hgg0
      clear hgg0 hg
      have hrr : r229 x size = r := hr
      have hfg := find_ge r
      have hfl := find_lt r (by omega)
      have hf3 : Txt.find3 r (Str.ofString ")") (Txt.find r (Str.ofString "(") + 1) < r.length := find3_lt r (by omega) (by omega)
      have hf4 : 0 ≤ Txt.find3 r (Str.ofString ")") (Txt.find r (Str.ofString "(") + 1) → Txt.find r (Str.ofString "(") + 1 ≤ Txt.find3 r (Str.ofString ")") (Txt.find r (Str.ofString "(") + 1) := find3_from r (by omega)
      clear hyl h4 hno hn hx
      ktn_open
      all_goals first
        | exact reads_end (by with_reducible assumption) (by with_reducible assumption) (by with_reducible assumption) (fun _ h => by repeat (first | exact h | apply List.Mem.tail)) (.refused hsc (by with_reducible assumption) (hrr ▸ (by first | exact .inl (by with_reducible assumption) | exact .inr (.inl (by with_reducible assumption)) | exact .inr (.inr (.inl (by with_reducible assumption))) | exact .inr (.inr (.inr (by with_reducible assumption))))))
        | (refine reads_end KtsTurn.refl (by with_reducible assumption) (by with_reducible assumption) (fun _ h => by repeat (first | exact h | apply List.Mem.tail)) (.told hsc (by with_reducible assumption) ?_); (rename PySem.intText? _ = some _ => i9); (rename Txt.split _ _ = _ => q9); rw [hrr]; exact ⟨Int.not_lt.mp (by with_reducible assumption), Int.not_lt.mp (by with_reducible assumption), by with_reducible assumption, _, _, _, _, _, q9, i9⟩)
    · refine WStep.mk (n' := n - 1) (by with_reducible assumption) (by with_reducible assumption) (by omega) ⟨rfl, size - 1, _, _, _, _, by omega, by omega, by omega, tok_none (by with_reducible assumption) hno, rfl, rfl, rfl, rfl⟩
    · exact reads_end KtsTurn.refl (by with_reducible assumption) (by with_reducible assumption) (fun _ h => h) (.nothing (fun j h1 h2 => hno j (by omega) h2))

end
end Mine
end
section
open PySem PySem.W PyProof.Rows PySem.Spec PySem.Calls Mine
local macro_rules | `(tactic| k_mem) => `(tactic| with_reducible assumption)
section
open PySem PySem.W PyProof.Rows PySem.Spec PySem.Calls
set_option maxRecDepth 100000
set_option maxHeartbeats 8000000
namespace Mine
theorem offD7 : True := by
  w_top off
  trivial
theorem fillD7 : (PySem.Challenge.rw_wf0088_01, hd.heap_1) = (PySem.Challenge.rw_wf0088_01, hd.heap_1) := by
  k_fill
  rfl
section
variable {w : World} {M : Model} {A : Around} {E : Value → Shared → Prop} {s : Shared} {h₀ : Heap} {L : Addr} {m : Str → Option Value}
theorem pat_method {a : Addr} {o : Obj} {pl : Sem Bool} {Q : Value × List Value → Shared → Prop} (F : Fr h₀ L s.heap m) (X : (hd.heap_1 w.params).In h₀) (e : (hd.heap_1 w.params).lookup a = some o) (hc : o.cls = .type "re.Pattern") (hd : o.dict = none)
    (h : Q (.builtin "re.Pattern.search", [.ref a]) s) : wpAny M A (getMethod (.ref a) (Str.ofString "search") pl) Q E s := by
  have ho := (X.keeps F.keep) _ _ e
  exact getMethod_builtin (T := "re.Pattern") ⟨o, ho, hc⟩ plain_pattern slot_search type_search (fun b hb => by cases hb; exact ⟨o, ho, hd⟩) h
end
section
variable {w : World} {A : Around} {E : Value → Shared → Prop} {s : Shared} {h₀ : Heap} {L : Addr} {m : Str → Option Value}
theorem pat_search {a ta : Addr} {o ot : Obj} {vs its : Array Value} {n : Nat} {x : Str} {t : Tok} {Q : Value → Shared → Prop} (F : Fr h₀ L s.heap m) (X : (hd.heap_1 w.params).In h₀) (e : (hd.heap_1 w.params).lookup a = some o) (hc : o.cls = .type "re.Pattern") (hdt : o.data = .fields vs)
    (h6 : PySem.Builtin.Re.reRawNat (vs.getD 6 .none) = 0) (h2 : PySem.Builtin.Re.reRawNat (vs.getD 2 .none) = 0) (h5 : vs.getD 5 .none = .ref ta) (e2 : (hd.heap_1 w.params).lookup ta = some ot) (hdt2 : ot.data = .seq its n) (hcode : (its.map PySem.Builtin.Re.reRawOf).map (·.toNat) = Sre'.code1 ∨ (its.map PySem.Builtin.Re.reRawOf).map (·.toNat) = Sre'.code2)
    (hx : ∀ c ∈ x.cps.toList, 32 ≤ c ∧ c ≤ 126) (hl : x.length < 2 ^ 62) (h : Q .none s) : wpAny (model PySem.Challenge.pw_wf0088_01 w) A (call (.builtin "re.Pattern.search") [.ref a, .str x t]) Q E s :=
  rx_call ((X.keeps F.keep) _ _ e) hc hdt h6 h2 h5 ((X.keeps F.keep) _ _ e2) hdt2 hcode hx hl h
end
theorem code_of {its : Array Value} {c : Array Nat} (h : its.toList.map (fun v => (PySem.Builtin.Re.reRawOf v).toNat) = c.toList) : (its.map PySem.Builtin.Re.reRawOf).map (·.toNat) = c := by
  apply Array.toList_inj.mp
  rw [Array.toList_map, Array.toList_map, List.map_map]
  exact h

section
theorem conv_con (w : World) (news : Led) (sv : Value) (x : Str) (t : Tok) (b : Bool) (hpl : Plain x) : ConK w (1 + 1) 131 (news) [sv, .str x t] [(Str.ofString "name", .bool b)] (fun v led' => led' = news ∧ v = .str x t) := by
  k_with_none
  (k_with "WStep" => with_reducible first | refine WStep.brkI ?_ | refine WStep.retI ?_)
  (k_with "FStep" => with_reducible first | refine FStep.brkI ?_ | refine FStep.retI ?_)
  (k_with "getMethod ref" => k_dflt (refine' pat_method ?kwF ?kwX ?kwe ?kwc ?kwd ?_; (case kwF => with_reducible assumption); (case kwX => with_reducible assumption); (case kwe => k_is); (case kwc => exact rfl); (case kwd => exact rfl)))
  (k_with "call builtin:re.Pattern.search" => k_dflt (refine' pat_search ?kwF ?kwX ?kwe ?kwc ?kwd ?kwh6 ?kwh2 ?kwh5 ?kwe2 ?kwd2 ?kwhcode ?kwhx ?kwhl ?_; (case kwF => with_reducible assumption); (case kwX => with_reducible assumption); (case kwe => k_is); (case kwc => exact rfl); (case kwd => exact rfl); (case kwh6 => exact rfl); (case kwh2 => exact rfl); (case kwh5 => exact rfl); (case kwe2 => k_is); (case kwd2 => exact rfl); (case kwhcode => first | exact Or.inl (code_of rfl) | exact Or.inr (code_of rfl)); (case kwhx => ((rename Plain _ => hp); exact hp.1)); (case kwhl => ((rename Plain _ => hp); have := hp.2; omega))))
  revert hpl
  revert w news sv x t b
  refine henk6 (by repeat' first | exact has_nat | exact has_world | exact has_list | exact has_str | exact has_int | exact has_val | exact has_bool | exact has_fun has_nat | exact ⟨⟨0, 0, Str.empty, Str.empty⟩⟩ | apply has_pair) ?_
  intro w news sv x t b
  clear_value w news sv x t b
  intro hpl
  refine' conK_of_body (binds := [(Str.ofString "self", sv), (Str.ofString "value", .str x t), (Str.ofString "name", .bool b)]) ?ho ?hcd ?hb ?hloc ?h ?h1 ?h2 ?h3 ?h4
  (case ho => k_is)
  (case hcd => k_is)
  (case hb => intro s Xs; first | exact BindsTo.of_eq rfl | exact binds_K Xs rfl (by k_is) rfl rfl rfl)
  (case hloc => exact locs rfl)
  (case h1 => exact rfl)
  (case h2 => exact rfl)
  (case h3 => exact rfl)
  (case h4 => decide)
  refine henkC ?_
  intro mean mg mb dp un gd outer A₀ base g L' s
  clear_value mean mg mb dp un gd outer A₀ base g L' s
  intro B F X N T hdp hun
  ktn_open
  all_goals (refine BodyRet.mk news (by with_reducible assumption) (by with_reducible assumption) (fun _ h => h) ?_)
  all_goals exact ⟨rfl, rfl⟩
end
end Mine
end
section
open PySem PySem.W PyProof.Rows PySem.Spec PySem.Calls
set_option maxRecDepth 100000
set_option maxHeartbeats 8000000
namespace Mine
theorem offD8 : True := by
  w_top off
  trivial
theorem fillD8 : (PySem.Challenge.rw_wf0088_01, hd.heap_1) = (PySem.Challenge.rw_wf0088_01, hd.heap_1) := by
  k_fill
  rfl
section
theorem get_con (w : World) (h dx l : Addr) (hs : Int) (kt : Tok) (n nn : Nat) (vs : List Value) (rest : Led) (ps : Prs) (x : Str) (t : Tok) (hx : Plain x) (hlp : Plain (Txt.lower x)) (hps : ∀ p ∈ ps, Plain p.1) (hv : Fa2 (PairAt rest) vs ps) : ConK w (2 + 1) 179 (tabLed h dx l hs kt n nn vs rest) [.ref h, .str x t] [] (fun v led' => led' = tabLed h dx l hs kt n nn vs rest ∧ (match getF ps (Txt.lower x) with | none => v = .none | some y => ∃ t', v = .str y t')) := by
  k_with_none
  (k_with "WStep" => with_reducible first | refine WStep.brkI ?_ | refine WStep.retI ?_)
  (k_with "FStep" => with_reducible first | refine FStep.brkI ?_ | refine FStep.retI ?_)
  (k_with "GStep" => with_reducible first | refine GStep.brkI ?_ | refine GStep.retI ?_ | refine GStep.cont ?_)
  (k_with "exec For Tuple Attribute cons nil" => refine for_start ?_)
  (k_with "call ref" => k_dflt (refine' ConK.use (conv_con _ _ _ _ _ _ ?kwhpl) ?kwcB ?kwcF ?kwcX ?kwcN ?kwcT rfl ?kwcd ?kwcu ?_; (case kwcN => k_asm); (case kwcB => k_asm); (case kwcF => k_asm); (case kwcX => k_asm); (case kwcT => k_asm); (case kwcd => (refine dp_ok (by with_reducible assumption) ?_; k_dflt (exact rfl))); (case kwcu => (refine un_ok (by with_reducible assumption) ?_; k_dflt (exact rfl))); (case kwhpl => with_reducible assumption); k_whole; intro v9 led9 h9 tk9 F9 N9 R9; obtain ⟨e9, e8⟩ := R9; rw [e9] at N9; clear e9 led9; subst e8))
  (k_with "call builtin:str.lower" => k_dflt (refine' SCL.lower ?kwk1 ?_; (case kwk1 => exact Plain.le5 (by with_reducible assumption)); intro _))
  (k_with "getMethod str" => ((with_reducible show wpAny _ _ (getMethod (Value.str _ _) (PySem.Str.ofString "lower") _) _ _ _); k_dflt (refine' GM.lower ?_)))
  revert hx hlp hps hv
  revert w h dx l hs kt n nn vs rest ps x t
  refine henk13 (by repeat' first | exact has_nat | exact has_world | exact has_list | exact has_str | exact has_int | exact has_val | exact has_bool | exact has_fun has_nat | exact ⟨⟨0, 0, Str.empty, Str.empty⟩⟩ | apply has_pair) ?_
  intro w h dx l hs kt n nn vs rest ps x t
  clear_value w h dx l hs kt n nn vs rest ps x t
  intro hx hlp hps hv
  refine' conK_of_body (binds := [(Str.ofString "self", .ref h), (Str.ofString "name", .str x t), (Str.ofString "default", .none)]) ?ho ?hcd ?hb ?hloc ?h ?h1 ?h2 ?h3 ?h4
  (case ho => k_is)
  (case hcd => k_is)
  (case hb => intro s Xs; first | exact BindsTo.of_eq rfl | exact binds_K Xs rfl (by k_is) rfl rfl rfl)
  (case hloc => exact locs rfl)
  (case h1 => exact rfl)
  (case h2 => exact rfl)
  (case h3 => exact rfl)
  (case h4 => decide)
  refine henkC ?_
  intro mean mg mb dp un gd outer A₀ base g L' s
  clear_value mean mg mb dp un gd outer A₀ base g L' s
  intro B F X N T hdp hun
  have hsz := hx.fits
  ktn_open
  refine Hold.out ?_
  have hrefs : ∀ v ∈ vs, ∃ a, v = .ref a := fun v hvm => by
    obtain ⟨p, _, a, _, _, e, _⟩ := hv.mem hvm
    exact ⟨a, e⟩
  (rename Fr _ _ _ _ => lF)
  (rename News _ _ _ _ => lN)
  refine for_list (vs := vs) (nn := nn) (fun g' => g' = g) (fun i m nx => nx = tabLed h dx l hs kt n nn vs rest ∧ getF ps (Txt.lower x) = getF (ps.drop i) (Txt.lower x) ∧ (∃ t, m (Str.ofString "name") = some (.str (Txt.lower x) t)) ∧ m (Str.ofString "default") = some .none)
    rfl (.tail _ (.tail _ (.head _))) (.inr ⟨⟨_, _, _, rfl⟩, hrefs⟩) (fun g' e => by rw [e]; exact Nat.le_of_lt (Nat.lt_of_le_of_lt lF.above lF.ns.lt)) rfl lF lN ?h0 ?hJl ?turn ?done
  case h0 => exact ⟨rfl, by rw [List.drop_zero], ⟨_, rfl⟩, rfl⟩
  case hJl => rintro i m nx ⟨rfl, _⟩; exact .tail _ (.tail _ (.head _))
  case turn =>
    rintro i v g' m₁ news₁ h' tk I it hvi ⟨rfl, hgF, ⟨t0, e1⟩, e2⟩ rfl hoff hlt F' N'
    obtain ⟨p, hpi, a, t1, t2, rfl, hm⟩ := hv.get hvi
    have hpp : Plain p.1 := hps _ (List.mem_of_getElem? hpi)
    rw [map2 e1 e2] at F'
    have N2 := news_front N' (.tail _ (.tail _ (.tail _ (.tail _ hm))))
    clear N' lF lN
    rw [getF_drop hpi] at hgF
    ktn_open
    · dsimp only
      refine BodyRet.mk _ (by assumption) (by assumption) (fun _ q => .tail _ (.tail _ q)) ?_
      refine ⟨rfl, ?_⟩
      rw [hgF, if_pos (by with_reducible assumption)]
      exact ⟨_, rfl⟩
    · refine GStep.mk (tabLed h dx l hs kt n nn vs rest) rfl (by assumption) (by assumption) (.tail _ (.head _)) (fun _ q => .tail _ (.tail _ q)) hoff ⟨rfl, ?_, ⟨_, rfl⟩, rfl⟩
      rw [hgF, if_neg (by rw [Bool.not_eq_true]; with_reducible assumption)]
  case done => 
    rintro g' m₁ news₁ h' tk ⟨rfl, hgF, ⟨t0, e1⟩, e2⟩ rfl F' N'
    rw [map2 e1 e2] at F'
    clear lF lN
    ktn_open
    dsimp only
    refine BodyRet.mk _ (by assumption) (by assumption) (fun _ q => q) ?_
    refine ⟨rfl, ?_⟩
    rw [hgF, List.drop_eq_nil_of_le (Nat.le_of_eq hv.length.symm)]
    rfl

end
end Mine
end
section
open PySem PySem.W PyProof.Rows PySem.Spec PySem.Calls
set_option maxRecDepth 100000
set_option maxHeartbeats 8000000
namespace Mine
theorem offD9 : True := by
  w_top off
  trivial
theorem fillD9 : (PySem.Challenge.rw_wf0088_01, hd.heap_1) = (PySem.Challenge.rw_wf0088_01, hd.heap_1) := by
  k_fill
  rfl
section
theorem take_snoc {α : Type} {l : List α} {i : Nat} {a : α} (h : l[i]? = some a) : l.take (i + 1) = l.take i ++ [a] := by
  rw [List.take_add_one, h]; rfl
theorem values_con (w : World) (h dx l : Addr) (hs : Int) (kt : Tok) (n nn : Nat) (vs : List Value) (rest : Led) (ps : Prs) (hv : Fa2 (PairAt rest) vs ps) (hsz : vs.length ≤ sizeLine) : ConK w (2 + 1) 189 (tabLed h dx l hs kt n nn vs rest) [.ref h] [] (fun v led' => ∃ D ws, v = .ref D ∧ (∀ p ∈ tabLed h dx l hs kt n nn vs rest, p.1 ≠ D) ∧ Fa2 (fun w (p : Str × Str) => ∃ t, w = .str p.2 t) ws ps ∧ led' = (D, LCg.lst ws) :: tabLed h dx l hs kt n nn vs rest) := by
  k_with_none
  (k_with "WStep" => with_reducible first | refine WStep.brkI ?_ | refine WStep.retI ?_)
  (k_with "FStep" => with_reducible first | refine FStep.brkI ?_ | refine FStep.retI ?_)
  (k_with "GStep" => with_reducible first | refine GStep.brkI ?_ | refine GStep.retI ?_ | refine GStep.cont ?_)
  (k_with "eval ListComp" => (k_here; k_dflt (refine comp_start (cl := []) (by with_unfolding_all rfl) (by rfl) (by decide) ?_)))
  (k_with "eval Name" => (k_here; k_dflt (refine LCgL.ld_own ?kwN ?kwm ?kwc ?kwx ?_; (case kwN => k_asm); (case kwm => k_mem); (case kwc => k_asm); (case kwx => k_asm))))
  revert hv hsz
  revert w h dx l hs kt n nn vs rest ps
  refine henk11 (by repeat' first | exact has_nat | exact has_world | exact has_list | exact has_str | exact has_int | exact has_val | exact has_bool | exact has_fun has_nat | exact ⟨⟨0, 0, Str.empty, Str.empty⟩⟩ | apply has_pair) ?_
  intro w h dx l hs kt n nn vs rest ps
  clear_value w h dx l hs kt n nn vs rest ps
  intro hv hsz
  refine' conK_of_body (binds := [(Str.ofString "self", .ref h)]) ?ho ?hcd ?hb ?hloc ?h ?h1 ?h2 ?h3 ?h4
  (case ho => k_is)
  (case hcd => k_is)
  (case hb => intro s Xs; first | exact BindsTo.of_eq rfl | exact binds_K Xs rfl (by k_is) rfl rfl rfl)
  (case hloc => exact locs rfl)
  (case h1 => exact rfl)
  (case h2 => exact rfl)
  (case h3 => exact rfl)
  (case h4 => decide)
  refine henkC ?_
  intro mean mg mb dp un gd outer A₀ base g L' s
  clear_value mean mg mb dp un gd outer A₀ base g L' s
  intro B F X N T hdp hun
  ktn_open
  (rename Fr _ _ _ _ => lF)
  (rename News _ _ _ _ => lN)
  refine Hold.out ?_
  have hrefs : ∀ v ∈ vs, ∃ a, v = .ref a := fun v hvm => by
    obtain ⟨p, _, a, _, _, e, _⟩ := hv.mem hvm
    exact ⟨a, e⟩
  refine comp_list (vs := vs) (nn := nn) (fun i ys nx => nx = tabLed h dx l hs kt n nn vs rest ∧ Fa2 (fun w (p : Str × Str) => ∃ t, w = .str p.2 t) ys (ps.take i)) (fun i m => ∃ p t1 t2, ps[i]? = some p ∧ m (Str.ofString "k") = some (.str p.1 t1) ∧ m (Str.ofString "v") = some (.str p.2 t2))
    rfl (.tail _ (.tail _ (.head _))) hsz (.inr ⟨⟨_, _, _, rfl⟩, hrefs⟩) (by decide) (by rfl) lF lN ?h0 ?hJl ?hasg ?turn ?fin
  case h0 => exact ⟨rfl, by rw [List.take_zero]; exact .nil⟩
  case hJl => rintro i ys nx ⟨rfl, _⟩; exact .tail _ (.tail _ (.head _))
  case hasg =>
    rintro i v C m' news₁ ys s₂ E' Q' hvi ⟨rfl, _⟩ hn hN hQ
    obtain ⟨p, hpi, a, t1, t2, rfl, hm⟩ := hv.get hvi
    refine asg_pair rfl (by rfl) (by rfl) (by rfl) (by decide) ⟨_, (hN _ (.tail _ (.tail _ (.tail _ hm)))).1, rfl, 0, rfl⟩ hn fun h' tk' m'' hn' hd' hs' => hQ h' tk' m'' hn' ⟨p, t1, t2, hpi, hd'.1, hd'.2⟩ hs'
  case turn =>
    rintro s₁ i v I oI C oC D m₂ h' tk E' ys news₁ ⟨hp, rfl⟩ hvi ⟨rfl, hF⟩ hC ⟨p, t1, t2, hpi, e1, e2⟩ F' N' off ne
    show wpAny _ _ (eval _ _) _ _ _
    clear lF lN
    ktn_open
    dsimp only
    refine CEnd.mk (tabLed h dx l hs kt n nn vs rest) (by assumption) (by assumption) (.head _) (.tail _ (.head _)) (.tail _ (.tail _ (.head _))) (fun _ q => .tail _ (.tail _ (.tail _ q))) off ⟨rfl, ?_⟩
    rw [take_snoc hpi]
    exact hF.snoc ⟨_, rfl⟩
  case fin =>
    rintro D h' tk ys news' ⟨rfl, hF⟩ F' N' off
    clear lF lN
    ktn_open
    dsimp only
    refine BodyRet.mk _ (by assumption) (by assumption) (fun _ q => q) ⟨D, ys, rfl, off, ?_, rfl⟩
    rw [hv.length, List.take_length] at hF
    exact hF

end
end Mine
end
section
open PySem PySem.W PyProof.Rows PySem.Spec PySem.Calls
set_option maxRecDepth 100000
set_option maxHeartbeats 8000000
namespace Mine
theorem offD10 : True := by
  w_top off
  trivial
theorem fillD10 : (PySem.Challenge.rw_wf0088_01, hd.heap_1) = (PySem.Challenge.rw_wf0088_01, hd.heap_1) := by
  k_fill
  rfl
section
theorem pick_all (vs : List Value) : slicePick vs.toArray none none none = vs.toArray := by rw [kms_pick_eq]; simp [kms_pick, kms_lo, kms_hi]
theorem items_con (w : World) (h dx l : Addr) (hs : Int) (kt : Tok) (n nn : Nat) (vs : List Value) (rest : Led) (hsz : vs.length ≤ sizeLine) : ConK w (2 + 1) 196 (tabLed h dx l hs kt n nn vs rest) [.ref h] [] (fun v led' => ∃ D n', v = .ref D ∧ (∀ p ∈ tabLed h dx l hs kt n nn vs rest, p.1 ≠ D) ∧ led' = (D, listOf vs.toArray n') :: tabLed h dx l hs kt n nn vs rest) := by
  k_with_none
  (k_with "WStep" => with_reducible first | refine WStep.brkI ?_ | refine WStep.retI ?_)
  (k_with "FStep" => with_reducible first | refine FStep.brkI ?_ | refine FStep.retI ?_)
  (k_with "GStep" => with_reducible first | refine GStep.brkI ?_ | refine GStep.retI ?_ | refine GStep.cont ?_)
  refine' conK_of_body (binds := [(Str.ofString "self", .ref h)]) ?ho ?hcd ?hb ?hloc ?h ?h1 ?h2 ?h3 ?h4
  (case ho => k_is)
  (case hcd => k_is)
  (case hb => intro s Xs; first | exact BindsTo.of_eq rfl | exact binds_K Xs rfl (by k_is) rfl rfl rfl)
  (case hloc => exact locs rfl)
  (case h1 => exact rfl)
  (case h2 => exact rfl)
  (case h3 => exact rfl)
  (case h4 => decide)
  intro mean mg mb dp un gd outer A₀ base g L' s B F X N T hdp hun
  have N0 := N
  ktn_open
  dsimp only
  rename News _ _ _ _ => lN
  rw [pick_all] at lN
  exact BodyRet.mk _ (by assumption) lN (fun _ q => q) ⟨_, 0, rfl, fun p hp => Nat.ne_of_lt (Nat.lt_succ_of_lt (Heap.lt_size (N0 p hp).1)), rfl⟩

end
end Mine
end
section
open PySem PySem.W PyProof.Rows PySem.Spec PySem.Calls
set_option maxRecDepth 100000
set_option maxHeartbeats 8000000
namespace Mine
theorem offD11 : True := by
  w_top off
  trivial
theorem fillD11 : (PySem.Challenge.rw_wf0088_01, hd.heap_1) = (PySem.Challenge.rw_wf0088_01, hd.heap_1) := by
  k_fill
  rfl
section
theorem del_con (w : World) (h dx l : Addr) (hs : Int) (kt : Tok) (n nn : Nat) (vs : List Value) (rest : Led) (ps : Prs) (x : Str) (t : Tok) (hx : Plain x) (hlp : Plain (Txt.lower x)) (hps : ∀ p ∈ ps, Plain p.1) (hv : Fa2 (PairAt rest) vs ps) (hsz : vs.length + vs.length ≤ sizeLine) (hrl : ∀ p ∈ rest, p.1 ≠ l) : ConK w (2 + 1) 150 (tabLed h dx l hs kt n nn vs rest) [.ref h, .str x t] [] (fun v led' => ∃ vs' nn', v = .none ∧ Fa2 (PairAt rest) vs' (ps.filter fun p => Txt.lower p.1 != Txt.lower x) ∧ led' = tabLed h dx l hs kt n nn' vs' rest) := by
  k_with_none
  (k_with "WStep" => with_reducible first | refine WStep.brkI ?_ | refine WStep.retI ?_)
  (k_with "FStep" => with_reducible first | refine FStep.brkI ?_ | refine FStep.retI ?_)
  (k_with "GStep" => with_reducible first | refine GStep.brkI ?_ | refine GStep.retI ?_ | refine GStep.cont ?_)
  (k_with "eval ListComp" => (k_here; k_dflt (refine comp_start (by with_unfolding_all rfl) (by rfl) (by decide) ?_)))
  (k_with "eval Name" => (k_here; k_dflt (refine LCgL.ld_own ?kwN ?kwm ?kwc ?kwx ?_; (case kwN => k_asm); (case kwm => k_mem); (case kwc => k_asm); (case kwx => k_asm))))
  (k_with "call ref" => k_dflt (refine' ConK.use (conv_con _ _ _ _ _ _ ?kwhpl) ?kwcB ?kwcF ?kwcX ?kwcN ?kwcT rfl ?kwcd ?kwcu ?_; (case kwcN => k_asm); (case kwcB => k_asm); (case kwcF => k_asm); (case kwcX => k_asm); (case kwcT => k_asm); (case kwcd => (refine dp_ok (by with_reducible assumption) ?_; k_dflt (exact rfl))); (case kwcu => (refine un_ok (by with_reducible assumption) ?_; k_dflt (exact rfl))); (case kwhpl => with_reducible assumption); k_whole; intro v9 led9 h9 tk9 F9 N9 R9; obtain ⟨e9, e8⟩ := R9; rw [e9] at N9; clear e9 led9; subst e8))
  (k_with "call builtin:str.lower" => k_dflt (refine' SCL.lower ?kwk1 ?_; (case kwk1 => exact Plain.le5 (by with_reducible assumption)); intro _))
  (k_with "getMethod str" => ((with_reducible show wpAny _ _ (getMethod (Value.str _ _) (PySem.Str.ofString "lower") _) _ _ _); k_dflt (refine' GM.lower ?_)))
  revert hx hlp hps hv hsz hrl
  revert w h dx l hs kt n nn vs rest ps x t
  refine henk13 (by repeat' first | exact has_nat | exact has_world | exact has_list | exact has_str | exact has_int | exact has_val | exact has_bool | exact has_fun has_nat | exact ⟨⟨0, 0, Str.empty, Str.empty⟩⟩ | apply has_pair) ?_
  intro w h dx l hs kt n nn vs rest ps x t
  clear_value w h dx l hs kt n nn vs rest ps x t
  intro hx hlp hps hv hsz hrl
  refine' conK_of_bodyC (binds := [(Str.ofString "self", .ref h), (Str.ofString "name", .str x t)]) ?ho ?hcd ?hb ?hkind ?hnd ?h ?h1 ?h2 ?h3
  (case ho => k_is)
  (case hcd => k_is)
  (case hb => intro s Xs; first | exact BindsTo.of_eq rfl | exact binds_K Xs rfl (by k_is) rfl rfl rfl)
  (case hkind => exact rfl)
  (case hnd => decide +kernel)
  (case h1 => exact rfl)
  (case h2 => exact rfl)
  (case h3 => exact rfl)
  refine henkC ?_
  intro mean mg mb dp un gd outer A₀ base g L' s
  clear_value mean mg mb dp un gd outer A₀ base g L' s
  intro cells B F X N T hdp hun Y hlt
  k_cells Y
  (try simp only [List.cons_append, List.nil_append] at N)
  (try dsimp only)
  have hoff : ∀ p ∈ tabLed h dx l hs kt n nn vs rest, p.1 ≠ L' + 1 := fun p hp => Nat.ne_of_lt (Nat.lt_succ_of_lt (hlt p hp))
  ktn_open
  (rename Fr _ _ _ _ => lF)
  (rename News _ _ _ _ => lN)
  refine Hold.out ?_
  have hrefs : ∀ v ∈ vs, ∃ a, v = .ref a := fun v hvm => by
    obtain ⟨p, _, a, _, _, e, _⟩ := hv.mem hvm
    exact ⟨a, e⟩
  rename Obj => oc
  refine comp_list (vs := vs) (nn := nn) (fun i ys nx => nx = (L' + 1, oc) :: tabLed h dx l hs kt n nn vs rest ∧ Fa2 (PairAt rest) ys ((ps.take i).filter fun p => Txt.lower p.1 != Txt.lower x)) (fun i m => ∃ v, vs[i]? = some v ∧ m (Str.ofString "kv") = some v)
    rfl (.tail _ (.tail _ (.tail _ (.head _)))) (by omega) (.inl fun _ _ => rfl) (by decide) (by rfl) lF lN ?h0 ?hJl ?hasg ?turn ?fin
  case h0 => exact ⟨rfl, by rw [List.take_zero]; exact .nil⟩
  case hJl => rintro i ys nx ⟨rfl, _⟩; exact .tail _ (.tail _ (.tail _ (.head _)))
  case hasg =>
    rintro i v C m' news₁ ys s₂ E' Q' hvi _ hn hN hQ
    exact asg_name (by rfl) (by rfl) hn fun h' tk' m'' hn' hd' hs' => hQ h' tk' m'' hn' ⟨v, hvi, hd'⟩ hs'
  case turn =>
    rintro s₁ i v I oI C oC D m₂ h' tk E' ys news₁ ⟨hp, rfl⟩ hvi ⟨rfl, hF⟩ hC ⟨v', hvi', e1⟩ F' N' off ne
    rw [hvi] at hvi'
    cases hvi'
    obtain ⟨p, hpi, a, t1, t2, rfl, hm⟩ := hv.get hvi
    have hpp : Plain p.1 := hps _ (List.mem_of_getElem? hpi)
    have N2 := news_front N' (.tail _ (.tail _ (.tail _ (.tail _ (.tail _ (.tail _ (.tail _ hm)))))))
    show wpAny _ _ (isTrue _ _ _) _ _ _
    clear lF lN N'
    ktn_open
    · refine CEnd.mk ((L' + 1, oc) :: tabLed h dx l hs kt n nn vs rest) (by assumption) (by assumption) (.tail _ (.head _)) (.tail _ (.tail _ (.head _))) (.tail _ (.tail _ (.tail _ (.head _)))) (fun _ q => .tail _ (.tail _ (.tail _ (.tail _ q)))) off ⟨rfl, ?_⟩
      rw [take_snoc hpi, List.filter_append]
      rw [show [p].filter (fun p => Txt.lower p.1 != Txt.lower x) = [p] from List.filter_cons_of_pos (by with_reducible assumption)]
      exact hF.snoc ⟨a, t1, t2, rfl, hm⟩
    · refine CEnd.mk ((L' + 1, oc) :: tabLed h dx l hs kt n nn vs rest) (by assumption) (by assumption) (.tail _ (.head _)) (.tail _ (.tail _ (.head _))) (.tail _ (.tail _ (.tail _ (.head _)))) (fun _ q => .tail _ (.tail _ (.tail _ (.tail _ q)))) off ⟨rfl, ?_⟩
      rw [take_snoc hpi, List.filter_append]
      rw [show [p].filter (fun p => Txt.lower p.1 != Txt.lower x) = [] from List.filter_cons_of_neg (by rw [Bool.not_eq_true]; with_reducible assumption), List.append_nil]
      exact hF
  case fin =>
    rintro D h' tk ys news' ⟨rfl, hF⟩ F' F'' off
    have N' := F''
    clear lF lN
    have hlen : ys.length ≤ vs.length := by
      rw [hF.length, hv.length]
      refine Nat.le_trans (List.length_filter_le _ _) ?_
      rw [List.length_take]
      omega
    have hhl : h ≠ l := fun e => by
      have z1 := (F'' _ (.tail _ (.tail _ (.head _)))).1
      have z2 := (F'' _ (.tail _ (.tail _ (.tail _ (.tail _ (.head _)))))).1
      dsimp only at z1 z2
      rw [e, z2] at z1
      cases z1
    have hdl : dx ≠ l := fun e => by
      have z1 := (F'' _ (.tail _ (.tail _ (.tail _ (.head _))))).1
      have z2 := (F'' _ (.tail _ (.tail _ (.tail _ (.tail _ (.head _)))))).1
      dsimp only at z1 z2
      rw [e, z2] at z1
      exact absurd (Value.type.inj (congrArg Obj.cls (Option.some.inj z1)).symm) (by decide)
    have hDl : D ≠ l := fun e => off _ (.tail _ (.tail _ (.tail _ (.head _)))) e.symm
    have hcl : L' + 1 ≠ l := fun e => hoff _ (.tail _ (.tail _ (.head _))) e.symm
    ktn_open
    refine set_all_led (vs := vs) (nn := nn) (ys := ys) (k := ys.length) (F'.push _) (fun p hp => ⟨Heap.get?_push_of_some _ (F'' p hp).1, (F'' p hp).2⟩) (.tail hDl (.tail hcl (.tail hhl (.tail hdl (.head hrl))))) (.head _) (Ne.symm hDl) (Heap.IsSliceOf.new ..) (by omega) ?_
    intro h₄ k₄ F₄ N₄
    ktn_open
    dsimp only
    refine BodyRet.mkN (tabLed h dx l hs kt n k₄ ys rest) F₄ N₄ (fun _ q => .tail _ (.tail _ q)) ⟨ys, k₄, rfl, ?_, rfl⟩
    rw [hv.length, List.take_length] at hF
    exact hF

end
end Mine
end
section
open PySem PySem.W PyProof.Rows PySem.Spec PySem.Calls
set_option maxRecDepth 100000
set_option maxHeartbeats 8000000
namespace Mine
theorem offD12 : True := by
  w_top off
  trivial
theorem fillD12 : (PySem.Challenge.rw_wf0088_01, hd.heap_1) = (PySem.Challenge.rw_wf0088_01, hd.heap_1) := by
  k_fill
  rfl
section
theorem del_own {M : Model} {A : Around} {E : Value → Shared → Prop} {s : Shared} {K : Frag} {x C L f : Addr} {h₀ : Heap} {m : Str → Option Value} {ox : Obj} {od : Option Obj} {i : Value} {Q : Unit → Shared → Prop} (F : Fr h₀ L s.heap m) (X₀ : K.In h₀) (I : InstAt s.heap x ox C od) (hq : noSeq K C = true) (hs : findIn K (.ref C) "__delitem__" = some (some (.ref f))) (hf : isFn K (.ref f) = true)
    (h : wpAny M A (call (.ref f) [.ref x, i]) (fun _ s' => Q () s') E s) : wpAny M A (delItem (.ref x) i) Q E s := by
  have X := X₀.keeps F.keep
  unfold delItem sequenceKey
  refine wpAny_holding (wpAny_bind (wpAny_bind (I.type.here ?_)))
  refine wpAny_bind ((anyM_none X hq).here ?_)
  rw [if_pos (show (!false) = true from rfl)]
  exact wpAny_pure (wpAny_bind (special_fn X I hs (beq_iff_eq.mp hf) (wpAny_mono h (fun _ _ z => wpAny_pure z) fun _ _ z => z)))
theorem setitem_con (w : World) (h dx l : Addr) (hs : Int) (kt : Tok) (n nn : Nat) (vs : List Value) (rest : Led) (ps : Prs) (x : Str) (t : Tok) (y : Str) (u : Tok) (hx : Plain x) (hy : Plain y) (hlp : Plain (Txt.lower x)) (hps : ∀ p ∈ ps, Plain p.1) (hv : Fa2 (PairAt rest) vs ps) (hsz : vs.length + vs.length ≤ sizeLine) (hrl : ∀ p ∈ rest, p.1 ≠ l) : ConK w (3 + 1) 145 (tabLed h dx l hs kt n nn vs rest) [.ref h, .str x t, .str y u] [] (fun v led' => ∃ vs' nn' T, v = .none ∧ (∀ p ∈ tabLed h dx l hs kt n nn vs rest, p.1 ≠ T) ∧ (∃ t1 t2, led' = tabLed h dx l hs kt n nn' (vs' ++ [.ref T]) ((T, tupV [.str x t1, .str y t2]) :: rest)) ∧ Fa2 (PairAt rest) vs' (ps.filter fun p => Txt.lower p.1 != Txt.lower x)) := by
  k_with_none
  (k_with "WStep" => with_reducible first | refine WStep.brkI ?_ | refine WStep.retI ?_)
  (k_with "FStep" => with_reducible first | refine FStep.brkI ?_ | refine FStep.retI ?_)
  (k_with "GStep" => with_reducible first | refine GStep.brkI ?_ | refine GStep.retI ?_ | refine GStep.cont ?_)
  (k_with "delItem ref" => (k_here; (with_reducible show wpAny _ _ (delItem (Value.ref _) _) _ _ _); k_dflt (refine' del_own ?kwF ?kwX ?kwI ?kwhQ ?kwhS ?kwhF ?_; (case kwF => k_asm); (case kwX => k_asm); (case kwI => k_inst); (case kwhS => k_is); (case kwhF => k_is); (case kwhQ => k_is); k_whole)))
  (k_with "call ref" => k_dflt (refine' ConK.use (del_con _ _ _ _ _ _ _ _ _ _ _ _ _ ?kwhx ?kwhl ?kwhp ?kwhv ?kwhz ?kwhr) ?kwcB ?kwcF ?kwcX ?kwcN ?kwcT rfl ?kwcd ?kwcu ?_; (case kwcN => k_asm); (case kwcB => k_asm); (case kwcF => k_asm); (case kwcX => k_asm); (case kwcT => k_asm); (case kwcd => (refine dp_ok (by with_reducible assumption) ?_; k_dflt (exact rfl))); (case kwcu => (refine un_ok (by with_reducible assumption) ?_; k_dflt (exact rfl))); (case kwhx => with_reducible assumption); (case kwhl => with_reducible assumption); (case kwhp => with_reducible assumption); (case kwhv => with_reducible assumption); (case kwhz => with_reducible assumption); (case kwhr => with_reducible assumption); k_whole; intro v9 led9 h9 tk9 F9 N9 R9; obtain ⟨vs9, nn9, e9, w9, z9⟩ := R9; rw [z9] at N9; clear z9 led9; subst e9))
  (k_with "call ref" => k_dflt (refine' ConK.use (conv_con _ _ _ _ _ _ ?kwhpl) ?kwcB ?kwcF ?kwcX ?kwcN ?kwcT rfl ?kwcd ?kwcu ?_; (case kwcN => k_asm); (case kwcB => k_asm); (case kwcF => k_asm); (case kwcX => k_asm); (case kwcT => k_asm); (case kwcd => (refine dp_ok (by with_reducible assumption) ?_; k_dflt (exact rfl))); (case kwcu => (refine un_ok (by with_reducible assumption) ?_; k_dflt (exact rfl))); (case kwhpl => with_reducible assumption); k_whole; intro v9 led9 h9 tk9 F9 N9 R9; obtain ⟨e9, e8⟩ := R9; rw [e9] at N9; clear e9 led9; subst e8))
  revert hx hy hlp hps hv hsz hrl
  revert w h dx l hs kt n nn vs rest ps x t y u
  refine henk11 (by repeat' first | exact has_nat | exact has_world | exact has_list | exact has_str | exact has_int | exact has_val | exact has_bool | exact has_fun has_nat | exact ⟨⟨0, 0, Str.empty, Str.empty⟩⟩ | apply has_pair) ?_
  intro w h dx l hs kt n nn vs rest ps
  clear_value w h dx l hs kt n nn vs rest ps
  refine henk4 (by repeat' first | exact has_nat | exact has_world | exact has_list | exact has_str | exact has_int | exact has_val | exact has_bool | exact has_fun has_nat | exact ⟨⟨0, 0, Str.empty, Str.empty⟩⟩ | apply has_pair) ?_
  intro x t y u
  clear_value x t y u
  intro hx hy hlp hps hv hsz hrl
  refine' conK_of_body (binds := [(Str.ofString "self", .ref h), (Str.ofString "name", .str x t), (Str.ofString "val", .str y u)]) ?ho ?hcd ?hb ?hloc ?h ?h1 ?h2 ?h3 ?h4
  (case ho => k_is)
  (case hcd => k_is)
  (case hb => intro s Xs; first | exact BindsTo.of_eq rfl | exact binds_K Xs rfl (by k_is) rfl rfl rfl)
  (case hloc => exact locs rfl)
  (case h1 => exact rfl)
  (case h2 => exact rfl)
  (case h3 => exact rfl)
  (case h4 => decide)
  refine henkC ?_
  intro mean mg mb dp un gd outer A₀ base g L' s
  clear_value mean mg mb dp un gd outer A₀ base g L' s
  intro B F X N T hdp hun
  ktn_open
  rename_i T9 hD lF lN lq
  have hlen : vs9.length ≤ vs.length := by
    have := w9.length
    have h2 := hv.length
    have h3 := List.length_filter_le (fun p : Str × Str => Txt.lower p.1 != Txt.lower x) ps
    exact Nat.le_trans (Nat.le_of_eq this) (Nat.le_trans h3 (Nat.le_of_eq h2.symm))
  have hhl : h ≠ l := fun e => by
    have z1 := (lN _ (.tail _ (.head _))).1
    have z2 := (lN _ (.tail _ (.tail _ (.tail _ (.head _))))).1
    dsimp only at z1 z2
    rw [e, z2] at z1
    cases z1
  have hdl : dx ≠ l := fun e => by
    have z1 := (lN _ (.tail _ (.tail _ (.head _)))).1
    have z2 := (lN _ (.tail _ (.tail _ (.tail _ (.head _))))).1
    dsimp only at z1 z2
    rw [e, z2] at z1
    exact absurd (Value.type.inj (congrArg Obj.cls (Option.some.inj z1)).symm) (by decide)
  have hTl := Nat.ne_of_gt lq.2.2.1
  have hoffT : ∀ p ∈ tabLed h dx l hs kt n nn vs rest, p.1 < T9 := fun p hp => by
    rcases List.mem_cons.mp hp with rfl | hp
    · exact lq.1
    rcases List.mem_cons.mp hp with rfl | hp
    · exact lq.2.1
    rcases List.mem_cons.mp hp with rfl | hp
    · exact lq.2.2.1
    · exact ktn_ltOf lq.2.2.2 p hp
  refine append_K lF lN (.tail hTl (.tail hhl (.tail hdl (.head hrl)))) ?_ ?_
  · intro h₄ F₄ N₄
    ktn_open
    dsimp only
    rw [List.push_toArray] at N₄
    refine BodyRet.mkN (tabLed h dx l hs kt n (nn9 + 1) (vs9 ++ [.ref T9]) ((T9, tupV [.str x t, .str y u]) :: rest)) F₄ N₄ (fun q hq => ?_) ⟨vs9, nn9 + 1, T9, rfl, fun p hp => Nat.ne_of_lt (hoffT p hp), ⟨t, u, rfl⟩, w9⟩
    rcases List.mem_cons.mp hq with rfl | hq
    · exact .tail _ (.head _)
    rcases List.mem_cons.mp hq with rfl | hq
    · exact .tail _ (.tail _ (.head _))
    rcases List.mem_cons.mp hq with rfl | hq
    · exact .tail _ (.tail _ (.tail _ (.head _)))
    rcases List.mem_cons.mp hq with rfl | hq
    · exact .head _
    · exact .tail _ (.tail _ (.tail _ (.tail _ hq)))
  · rw [List.size_toArray]; omega

end
end Mine
end
section
open PySem PySem.W PyProof.Rows PySem.Spec PySem.Calls
set_option maxRecDepth 100000
set_option maxHeartbeats 8000000
namespace Mine
theorem offMN : True := by
  w_top off
  trivial
def names4 : List Str := [Str.ofString "q\"", Str.ofString "Q\"", Str.ofString "\"\"", Str.ofString "R"]
def deeds4 : List Str := [Str.ofString "*", Str.ofString "**", Str.ofString "*=", Str.ofString "**="]
structure Nw where
  port : Int
  code : Int
  text : Str
  name : Str
deriving DecidableEq
def portF (r2 r9 : Nat) : Int := [9, 10, 100, (r9 : Int)].getD r2 0
def codeF (r1 : Nat) : Int := [16, 35, 38, 46].getD r1 0
def nameF (r0 : Nat) : Str := names4.getD r0 (Str.ofString "")
def deedF (r1 : Nat) : Str := deeds4.getD r1 (Str.ofString "")
def markF (r3 : Nat) : Str := Txt.item (Str.ofString "|!x\"") (r3 : Int)
def fieldsF (r2 r4 r9 : Nat) : List Str := [Str.ofString "", Txt.mul (Str.ofString "2") (r4 : Int), Txt.mul (Str.ofString "7.7") (r4 : Int), Txt.mul (Str.ofString "0") (r4 : Int) ++ Str.ofString (toString (portF r2 r9)), Str.ofString ""]
def textF (r0 r1 r2 r3 r4 r9 : Nat) : Str := Str.ofString "\"" ++ Txt.replace (nameF r0) (Str.ofString "\"") (Str.ofString "\"\"") ++ Str.ofString "\"" ++ deedF r1 ++ Str.ofString "(" ++ Txt.join (markF r3) (fieldsF r2 r4 r9) ++ Str.ofString ")"
def madeF (r0 r1 r2 r3 r4 r9 : Nat) : Nw := ⟨portF r2 r9, codeF r1, textF r0 r1 r2 r3 r4 r9, nameF r0⟩
abbrev tupN (x : Nw) (t1 t2 t3 t4 : Tok) : Obj := tupV [.int x.port t1, .int x.code t2, .str x.text t3, .str x.name t4]
/-- the value is a news -/
def NwAt (led : List (Addr × Obj)) (v : Value) (x : Nw) : Prop := ∃ a t1 t2 t3 t4, v = .ref a ∧ (a, tupN x t1 t2 t3 t4) ∈ led
theorem NwAt.sub {led led' : List (Addr × Obj)} (h : ∀ p ∈ led, p ∈ led') {v : Value} {p : Nw} (x : NwAt led v p) : NwAt led' v p := by
  obtain ⟨a, t1, t2, t3, t4, e, m⟩ := x
  exact ⟨a, t1, t2, t3, t4, e, h _ m⟩
end Mine
end
section
open PySem PySem.W PyProof.Rows PySem.Spec PySem.Calls
set_option maxRecDepth 100000
set_option maxHeartbeats 8000000
namespace Mine
theorem offV1 : True := by
  w_top off
  trivial
def scEq : Value → Value → Bool
  | .int a _, .int b _ => a == b
  | .str a _, .str b _ => decide (a = b)
  | _, _ => false
def scLt : Value → Value → Bool
  | .int a _, .int b _ => decide (a < b)
  | .str a _, .str b _ => decide (a.cps.toList < b.cps.toList)
  | _, _ => false
abbrev scGt (x y : Value) : Bool := scLt y x
inductive ScK : Value → Value → Prop where
  | int (a b : Int) (t u : Tok) : ScK (.int a t) (.int b u)
  | str (a b : Str) (t u : Tok) : ScK (.str a t) (.str b u)
def lexB (lt : Value → Value → Bool) : List Value → List Value → Bool
  | x :: xs, y :: ys => if scEq x y = true then lexB lt xs ys else lt x y
  | _, _ => false
theorem lexB_cons {lt : Value → Value → Bool} {x y : Value} {xs ys : List Value} : lexB lt (x :: xs) (y :: ys) = if scEq x y = true then lexB lt xs ys else lt x y := rfl
section
variable {prog : Program} {w : World} {A : Around} {E : Value → Shared → Prop} {s : Shared}
theorem eqBool_sc {x y : Value} {Q : Bool → Shared → Prop} (k : ScK x y) (h : Q (scEq x y) s) : wpAny (model prog w) A (eqBool x y) Q E s := by
  cases k with
  | int => exact wpAny_eqBool_int h
  | str => exact wpAny_eqBool_str h
theorem lt_sc {x y : Value} {Q : Value → Shared → Prop} (k : ScK x y) (h : Q (.bool (scLt x y)) s) : wpAny (model prog w) A (richCompare .Lt x y) Q E s := by
  cases k with
  | int => exact PyProof.Rows.lt_int h
  | str => exact PyProof.Rows.lt_str h
theorem gt_sc {x y : Value} {Q : Value → Shared → Prop} (k : ScK x y) (h : Q (.bool (scLt y x)) s) : wpAny (model prog w) A (richCompare .Gt x y) Q E s := by
  cases k with
  | int => exact PyProof.Rows.gt_int h
  | str => exact P.gt_str h
theorem tup_lt_tree {a b : Addr} {oa ob : Obj} {xs ys : Array Value} {na nb : Nat} {P : PySem.Fin → Shared → Prop} (hoa : s.heap.get? a = some oa) (hda : oa.data = .seq xs na) (hob : s.heap.get? b = some ob) (hcb : ob.cls = .type "tuple") (hdb : ob.data = .seq ys nb)
    (hk : Fa2 ScK xs.toList ys.toList) (h : P (.done (.ret (.bool (lexB scLt xs.toList ys.toList)))) s) :
    wpAny (model prog w) A (Builtin.«tuple.__lt__» ⟨[.ref a, .ref b], []⟩) P E s := by
  show wpAny _ _ (isInstance (.ref b) (.type "tuple") >>= _) _ _ s
  refine wpAny_bind (wpAny_isInstance (T := "tuple") ⟨ob, hob, hcb⟩ isSubtype_tuple_tuple ?_)
  simp only [Bool.not_true, Bool.false_eq_true, if_false]
  refine wpAny_bind (wpAny_tupleItemsOf hoa hda ?_)
  refine wpAny_bind (wpAny_tupleItemsOf hob hdb ?_)
  refine wpAny_bind ?_
  refine wpAny_forIn_list _
    (fun rest r s' => r.1 = none ∧ s' = s ∧ ∃ xs' ys', rest = List.zip xs' ys' ∧ Fa2 ScK xs' ys' ∧ lexB scLt xs' ys' = lexB scLt xs.toList ys.toList)
    _ ?_ ?_ _ _ ⟨rfl, rfl, xs.toList, ys.toList, rfl, hk, rfl⟩
  · rintro ⟨u, v⟩ rest r s' ⟨hr, rfl, xs', ys', hz, hx', hl⟩
    cases hx' with
    | nil => simp at hz
    | @cons u' v' xs'' ys'' h1 hx'' =>
      simp only [List.zip_cons_cons, List.cons.injEq, Prod.mk.injEq] at hz
      obtain ⟨⟨rfl, rfl⟩, rfl⟩ := hz
      refine wpAny_bind (eqBool_sc h1 ?_)
      rw [lexB_cons] at hl
      by_cases hq : scEq u v = true
      · rw [hq] at hl ⊢
        simp only [Bool.not_true, Bool.false_eq_true, if_false, if_true] at hl ⊢
        exact wpAny_pure ⟨rfl, rfl, xs'', ys'', rfl, hx'', hl⟩
      · rw [Bool.not_eq_true] at hq
        rw [hq] at hl ⊢
        simp only [Bool.not_false, Bool.false_eq_true, if_false, if_true] at hl ⊢
        rw [← hl] at h
        exact wpAny_bind (wpAny_rule (wpAny_bind (lt_sc h1 (wpAny_bind (wpAny_pure (wpAny_pure (wpAny_pure h)))))))
  · rintro ⟨r1, r2⟩ s' ⟨hr, rfl, xs', ys', hz, hx', hl⟩
    simp only at hr
    subst hr
    refine wpAny_pure ?_
    have hs : xs.size = ys.size := by simpa using hk.length
    have h0 : lexB scLt xs.toList ys.toList = false := by
      rw [← hl]
      cases hx' with
      | nil => rfl
      | cons => simp at hz
    rw [h0] at h
    show P (.done (.ret (.bool (decide (xs.size < ys.size))))) s'
    rw [hs, decide_eq_false (Nat.lt_irrefl _)]
    exact h
theorem tup_gt_tree {a b : Addr} {oa ob : Obj} {xs ys : Array Value} {na nb : Nat} {P : PySem.Fin → Shared → Prop} (hoa : s.heap.get? a = some oa) (hda : oa.data = .seq xs na) (hob : s.heap.get? b = some ob) (hcb : ob.cls = .type "tuple") (hdb : ob.data = .seq ys nb)
    (hk : Fa2 ScK xs.toList ys.toList) (h : P (.done (.ret (.bool (lexB scGt xs.toList ys.toList)))) s) :
    wpAny (model prog w) A (Builtin.«tuple.__gt__» ⟨[.ref a, .ref b], []⟩) P E s := by
  show wpAny _ _ (isInstance (.ref b) (.type "tuple") >>= _) _ _ s
  refine wpAny_bind (wpAny_isInstance (T := "tuple") ⟨ob, hob, hcb⟩ isSubtype_tuple_tuple ?_)
  simp only [Bool.not_true, Bool.false_eq_true, if_false]
  refine wpAny_bind (wpAny_tupleItemsOf hoa hda ?_)
  refine wpAny_bind (wpAny_tupleItemsOf hob hdb ?_)
  refine wpAny_bind ?_
  refine wpAny_forIn_list _
    (fun rest r s' => r.1 = none ∧ s' = s ∧ ∃ xs' ys', rest = List.zip xs' ys' ∧ Fa2 ScK xs' ys' ∧ lexB scGt xs' ys' = lexB scGt xs.toList ys.toList)
    _ ?_ ?_ _ _ ⟨rfl, rfl, xs.toList, ys.toList, rfl, hk, rfl⟩
  · rintro ⟨u, v⟩ rest r s' ⟨hr, rfl, xs', ys', hz, hx', hl⟩
    cases hx' with
    | nil => simp at hz
    | @cons u' v' xs'' ys'' h1 hx'' =>
      simp only [List.zip_cons_cons, List.cons.injEq, Prod.mk.injEq] at hz
      obtain ⟨⟨rfl, rfl⟩, rfl⟩ := hz
      refine wpAny_bind (eqBool_sc h1 ?_)
      rw [lexB_cons] at hl
      by_cases hq : scEq u v = true
      · rw [hq] at hl ⊢
        simp only [Bool.not_true, Bool.false_eq_true, if_false, if_true] at hl ⊢
        exact wpAny_pure ⟨rfl, rfl, xs'', ys'', rfl, hx'', hl⟩
      · rw [Bool.not_eq_true] at hq
        rw [hq] at hl ⊢
        simp only [Bool.not_false, Bool.false_eq_true, if_false, if_true] at hl ⊢
        rw [← hl] at h
        exact wpAny_bind (wpAny_rule (wpAny_bind (gt_sc h1 (wpAny_bind (wpAny_pure (wpAny_pure (wpAny_pure h)))))))
  · rintro ⟨r1, r2⟩ s' ⟨hr, rfl, xs', ys', hz, hx', hl⟩
    simp only at hr
    subst hr
    refine wpAny_pure ?_
    have hs : xs.size = ys.size := by simpa using hk.length
    have h0 : lexB scGt xs.toList ys.toList = false := by
      rw [← hl]
      cases hx' with
      | nil => rfl
      | cons => simp at hz
    rw [h0] at h
    show P (.done (.ret (.bool (decide (xs.size > ys.size))))) s'
    rw [hs, decide_eq_false (Nat.lt_irrefl _)]
    exact h
theorem tup_lt {h₀ : Heap} {L : Addr} {news : List (Addr × Obj)} {a b : Addr} {xs ys : List Value} {na nb : Nat} {Q : Value → Shared → Prop} (N : News h₀ L s.heap news) (ha : (a, ({ cls := .type "tuple", data := .seq xs.toArray na } : Obj)) ∈ news)
    (hb : (b, ({ cls := .type "tuple", data := .seq ys.toArray nb } : Obj)) ∈ news) (hk : Fa2 ScK xs ys) (hu : A.units < cLine) (h : Q (.bool (lexB scLt xs ys)) s) : wpAny (model prog w) A (richCompare .Lt (.ref a) (.ref b)) Q E s :=
  wpAny_richCompare_same_room (T := "tuple") ⟨_, (N _ ha).1, rfl⟩ ⟨_, (N _ hb).1, rfl⟩ PySem.F.slot_tuple_lt
    (wpAny_call_entry PySem.F.slot_tuple_lt ⟨_, (N _ ha).1, rfl⟩ PySem.F.entry_tuple_lt (tup_lt_tree (N _ ha).1 rfl (N _ hb).1 rfl rfl hk ⟨_, rfl, (fun e => nomatch e), h⟩) (PySem.F.args_tuple_lt_2 _ _)) hu
theorem tup_gt {h₀ : Heap} {L : Addr} {news : List (Addr × Obj)} {a b : Addr} {xs ys : List Value} {na nb : Nat} {Q : Value → Shared → Prop} (N : News h₀ L s.heap news) (ha : (a, ({ cls := .type "tuple", data := .seq xs.toArray na } : Obj)) ∈ news)
    (hb : (b, ({ cls := .type "tuple", data := .seq ys.toArray nb } : Obj)) ∈ news) (hk : Fa2 ScK xs ys) (hu : A.units < cLine) (h : Q (.bool (lexB scGt xs ys)) s) : wpAny (model prog w) A (richCompare .Gt (.ref a) (.ref b)) Q E s :=
  wpAny_richCompare_same_room (T := "tuple") ⟨_, (N _ ha).1, rfl⟩ ⟨_, (N _ hb).1, rfl⟩ PySem.F.slot_tuple_gt
    (wpAny_call_entry PySem.F.slot_tuple_gt ⟨_, (N _ ha).1, rfl⟩ PySem.F.entry_tuple_gt (tup_gt_tree (N _ ha).1 rfl (N _ hb).1 rfl rfl hk ⟨_, rfl, (fun e => nomatch e), h⟩) (PySem.F.args_tuple_gt_2 _ _)) hu
end
end Mine
end
section
open PySem PySem.W PyProof.Rows PySem.Spec PySem.Calls
set_option maxRecDepth 100000
set_option maxHeartbeats 8000000
namespace Mine
theorem offV2 : True := by
  w_top off
  trivial
section
variable {prog : Program} {w : World} {A : Around}
/-- items that are compared in the heap as it stands -/
def CmpIn (prog : Program) (w : World) (A : Around) (Ok : Heap → Prop) (P : Nat → Value → Prop) (bt : Nat → Nat → Bool) : Prop :=
  ∀ i j vi vj (s : Shared) (Q E : Value → Shared → Prop), Ok s.heap → P i vi → P j vj → Q (.bool (bt i j)) s → wpAny (model prog w) A (richCompare .Gt vi vj) Q E s
def bestAt (bt : Nat → Nat → Bool) : Nat → Nat
  | 0 => 0
  | k + 1 => if bt (k + 1) (bestAt bt k) = true then k + 1 else bestAt bt k
abbrev boxOf (vs : Array Value) (c : Nat) : Obj := { cls := .type "list", dict := none, data := .seq vs c, slots := #[] }
theorem max_name : (toString "max" ++ toString ".loop" : String) = "max.loop" := by decide
theorem max_turns {R : Result → Shared → Prop} {I S : Addr} {fp wr : List Addr} {n : Nat} {P : Nat → Value → Prop} {St : Nat → Heap → Prop} {Ok : Heap → Prop} {bt : Nat → Nat → Bool}
    (W : Walks prog w A.in1 I fp wr n P St) (cmp : CmpIn prog w A.in1 Ok P bt) (hSf : S ∉ fp) (hOk : ∀ h h', Ok h → (∀ b o, b ∉ wr → b ≠ S → h.get? b = some o → h'.get? b = some o) → Ok h') :
    ∀ (r j : Nat) (s : Shared) (v : Value) (c : Nat), j + 1 + r = n → St (j + 1) s.heap → P (bestAt bt j) v → Ok s.heap → s.heap.get? S = some (boxOf #[v, v] c) →
      (∀ v' h' tk, P (bestAt bt (n - 1)) v' → (∀ b o, b ∉ wr → b ≠ S → s.heap.get? b = some o → h'.get? b = some o) → R (.ok (.ret v')) { s with heap := h', toks := tk }) →
      codeAny (model prog w) A (.builtin "max.loop" ⟨[.ref I, .none, .ref S], []⟩) R s
  | 0, j, s, v, c, hr, st, hv, ok, hS, k => by
    have hSw : S ∉ wr := fun h => hSf (W.sub _ h)
    subst hr
    refine codeAny_builtin PySem.F.entry_max_loop ?_
    rw [Around.under_plainId PySem.F.plain_max_loop _]
    show wpAny _ A.in1 (seqItems? (.ref S) >>= _) _ _ s
    refine wpAny_bind (wpAny_seqItems hS rfl ?_)
    show wpAny _ A.in1 (tryCatch (pyNext (.ref I)) _ >>= _) _ _ s
    refine wpAny_bind (wpAny_tryCatch (W.done s _ _ st fun h₁ t₁ k₁ => ?_))
    show wpAny _ A.in1 (updateSeq S (fun _ => #[]) >>= _) _ _ _
    refine wpAny_bind (wpAny_updateSeq (k₁ S _ hSw hS) rfl (wpAny_bind (wpAny_letGo (wpAny_pure ?_))))
    exact k v _ t₁ hv fun b o h1 h2 e => (Heap.get?_update_other _ _ (Ne.symm h2)).trans (k₁ b o h1 e)
  | r + 1, j, s, v, c, hr, st, hv, ok, hS, k => by
    have hSw : S ∉ wr := fun h => hSf (W.sub _ h)
    refine codeAny_builtin PySem.F.entry_max_loop ?_
    rw [Around.under_plainId PySem.F.plain_max_loop _]
    show wpAny _ A.in1 (seqItems? (.ref S) >>= _) _ _ s
    refine wpAny_bind (wpAny_seqItems hS rfl ?_)
    show wpAny _ A.in1 (tryCatch (pyNext (.ref I)) _ >>= _) _ _ s
    refine wpAny_bind (wpAny_tryCatch (W.item (j + 1) s _ _ (by omega) st fun x h₁ t₁ hx st₁ k₁ => ?_))
    have hS₁ := k₁ S _ hSw hS
    have ok₁ : Ok h₁ := hOk _ _ ok fun b o h1 _ e => k₁ b o h1 e
    show wpAny _ A.in1 (tryCatch (holding [x, x] (richCompare .Gt x v >>= _)) _ >>= _) _ _ _
    refine wpAny_bind (wpAny_tryCatch (wpAny_holding (wpAny_bind (cmp (j + 1) (bestAt bt j) x v _ _ _ ok₁ hx hv ?_))))
    refine wpAny_bind (wpAny_holding (wpAny_truthy_bool ?_))
    refine wpAny_bind (wpAny_letGo (wpAny_pure ?_))
    by_cases hb : bt (j + 1) (bestAt bt j) = true
    · rw [hb]
      simp only [if_true]
      refine wpAny_bind (wpAny_updateSeq hS₁ rfl (wpAny_bind (wpAny_letGo ?_)))
      rw [max_name]
      have kk : ∀ b o, b ∉ wr → b ≠ S → s.heap.get? b = some o → (h₁.update S (Obj.mapSeq fun _ => #[x, x])).get? b = some o := fun b o h1 h2 e => (Heap.get?_update_other _ _ (Ne.symm h2)).trans (k₁ b o h1 e)
      refine wpAny_pure ⟨plainId_quiet PySem.F.plain_max_loop _, max_turns W cmp hSf hOk r (j + 1) _ x _ (by omega) (W.frame _ _ _ st₁ fun b hbf o e => ?_) (by rw [bestAt, if_pos hb]; exact hx) (hOk _ _ ok kk) (Heap.get?_update_self _ hS₁ rfl) fun v' h' tk hv' k' => ?_⟩
      · exact (Heap.get?_update_other _ _ (fun h : S = b => hSf (by rw [h]; exact hbf))).trans e
      · exact k v' h' tk hv' fun b o h1 h2 e => k' b o h1 h2 (kk b o h1 h2 e)
    · rw [Bool.not_eq_true] at hb
      rw [hb]
      simp only [Bool.false_eq_true, if_false]
      refine wpAny_bind (wpAny_letGo ?_)
      rw [max_name]
      refine wpAny_pure ⟨plainId_quiet PySem.F.plain_max_loop _, max_turns W cmp hSf hOk r (j + 1) _ v c (by omega) st₁ (by rw [bestAt, hb, if_neg (by simp)]; exact hv) ok₁ hS₁ fun v' h' tk hv' k' => ?_⟩
      exact k v' h' tk hv' fun b o h1 h2 e => k' b o h1 h2 (k₁ b o h1 e)
theorem max_list {E : Value → Shared → Prop} {s : Shared} {h₀ : Heap} {L l : Addr} {m : Str → Option Value} {news : List (Addr × Obj)} {vs : List Value} {nn : Nat} {Q : Value → Shared → Prop} (bt : Nat → Nat → Bool)
    (hh : A.handled = none) (F : Fr h₀ L s.heap m) (N : News h₀ L s.heap news) (hm : (l, listOf vs.toArray nn) ∈ news) (hne : 0 < vs.length)
    (cmp : ∀ i j vi vj (s' : Shared) (Q' E' : Value → Shared → Prop), News h₀ L s'.heap news → vs[i]? = some vi → vs[j]? = some vj → Q' (.bool (bt i j)) s' → wpAny (model prog w) A.in1 (richCompare .Gt vi vj) Q' E' s')
    (h : ∀ v h' tk, vs[bestAt bt (vs.length - 1)]? = some v → Fr h₀ L h' m → News h₀ L h' news → Q v { s with heap := h', toks := tk }) :
    wpAny (model prog w) A (call (.builtin "max") [.ref l]) Q E s := by
  have hl : s.heap.IsList l vs.toArray := ⟨_, (N _ hm).1, rfl, nn, rfl⟩
  refine call_function_tree PySem.F.kind_max PySem.F.plain_max PySem.F.entry_max (PySem.F.args_max1 _) ?_
  show wpAny _ A.in1 (Builtin.Builtins.bindParams "max" ["key", "default"] 0 ⟨[], []⟩ >>= _) _ _ s
  refine wpAny_bind (wpAny_of_eq (show Builtin.Builtins.bindParams "max" ["key", "default"] 0 ⟨[], []⟩ = pure [none, none] from rfl) ?_)
  refine wpAny_bind (wpAny_pure ?_)
  refine wpAny_bind (PySem.Flt.iter_list_ hl fun s₂ e st hfp hlI => ?_)
  subst e
  have W := Walks.list (prog := prog) (w := w) (A := A.in1) hh s.heap.objs.size l hlI vs.toArray
  refine wpAny_bind (wpAny_newObj_type ?_)
  rw [max_name]
  dsimp only at st hfp ⊢
  generalize hH : s.heap.push { cls := .type "list_iterator", data := .fields #[.ref l, .int 0 0] } = H at st hfp ⊢
  have hsz : H.objs.size = s.heap.objs.size + 1 := by rw [← hH, size_push']
  have kH : ∀ b o, s.heap.get? b = some o → H.get? b = some o := fun b o e => by rw [← hH]; exact Heap.get?_push_of_some _ e
  have hSf : H.objs.size ∉ [s.heap.objs.size, l] := fun h => Nat.lt_irrefl _ (hfp _ h)
  have hSw : H.objs.size ∉ [s.heap.objs.size] := fun h => hSf (W.sub _ h)
  have k2 : ∀ b o, b ∉ [s.heap.objs.size] → b ≠ H.objs.size → H.get? b = some o → (H.push (boxOf #[] 0)).get? b = some o := fun b o _ _ e => Heap.get?_push_of_some _ e
  have hkeep : ∀ {g g' : Heap}, (∀ b o, s.heap.get? b = some o → g.get? b = some o) → (∀ b o, b ∉ [s.heap.objs.size] → b ≠ H.objs.size → g.get? b = some o → g'.get? b = some o) → ∀ b o, s.heap.get? b = some o → g'.get? b = some o := fun a c b o e => by
    have hlt : b < s.heap.objs.size := Heap.lt_size e
    exact c b o (fun h => Nat.ne_of_lt hlt (List.mem_singleton.mp h)) (by rw [hsz]; exact Nat.ne_of_lt (Nat.lt_succ_of_lt hlt)) (a b o e)
  have hOk : ∀ g g' : Heap, News h₀ L g news → (∀ b o, b ∉ [s.heap.objs.size] → b ≠ H.objs.size → g.get? b = some o → g'.get? b = some o) → News h₀ L g' news := fun g g' n c p hp => by
    have hlt : p.1 < s.heap.objs.size := Heap.lt_size (N p hp).1
    exact ⟨c _ _ (fun h => Nat.ne_of_lt hlt (List.mem_singleton.mp h)) (by rw [hsz]; exact Nat.ne_of_lt (Nat.lt_succ_of_lt hlt)) (n p hp).1, (n p hp).2⟩
  refine wpAny_pure ⟨plainId_quiet PySem.F.plain_max_loop _, ?_⟩
  refine codeAny_builtin PySem.F.entry_max_loop ?_
  rw [Around.under_plainId PySem.F.plain_max_loop _]
  show wpAny _ A.in1 (seqItems? (.ref _) >>= _) _ _ _
  refine wpAny_bind (wpAny_seqItems (Heap.get?_push_size _ rfl) rfl ?_)
  show wpAny _ A.in1 (tryCatch (pyNext (.ref _)) _ >>= _) _ _ _
  refine wpAny_bind (wpAny_tryCatch (W.item 0 _ _ _ (by simpa using hne) (W.frame _ _ _ st fun b _ o e => Heap.get?_push_of_some _ e) fun x h₁ t₁ hx st₁ k₁ => ?_))
  have hS₁ := k₁ _ _ hSw (Heap.get?_push_size H (o := boxOf #[] 0) rfl)
  show wpAny _ A.in1 (updateSeq _ (fun _ => #[x, x]) >>= _) _ _ _
  refine wpAny_bind (wpAny_updateSeq hS₁ rfl ?_)
  rw [max_name]
  have k₂ : ∀ b o, b ∉ [s.heap.objs.size] → b ≠ H.objs.size → H.get? b = some o → (h₁.update H.objs.size (Obj.mapSeq fun _ => #[x, x])).get? b = some o := fun b o h1 h2 e => (Heap.get?_update_other _ _ (Ne.symm h2)).trans (k₁ b o h1 (k2 b o h1 h2 e))
  have kall := hkeep kH k₂
  refine wpAny_pure ⟨plainId_quiet PySem.F.plain_max_loop _, max_turns (Ok := fun g => News h₀ L g news) (bt := bt) W (fun i j vi vj s' Q' E' ok hi hj q => cmp i j vi vj s' Q' E' ok (by simpa using hi) (by simpa using hj) q) hSf hOk (vs.length - 1) 0 _ x _ (by simp; omega)
    (W.frame _ _ _ st₁ fun b hbf o e => (Heap.get?_update_other _ _ (fun h : H.objs.size = b => hSf (by rw [h]; exact hbf))).trans e) hx (N.grown kall) (Heap.get?_update_self _ hS₁ rfl) fun v h' tk hv k' => ?_⟩
  exact h v h' tk (by simpa using hv) (F.kept (hkeep kall k')) (N.grown (hkeep kall k'))
end
end Mine
end
section
open PySem PySem.W PyProof.Rows PySem.Spec PySem.Calls
set_option maxRecDepth 100000
set_option maxHeartbeats 8000000
namespace Mine
theorem offV3 : True := by
  w_top off
  trivial
section
variable {prog : Program} {w : World} {A : Around} {E : Value → Shared → Prop} {s : Shared} {h₀ : Heap} {L : Addr} {m : Str → Option Value} {news : List (Addr × Obj)}
theorem sort_few {a : Addr} {vs : List Value} {n : Nat} {P : PySem.Fin → Shared → Prop} (F : Fr h₀ L s.heap m) (N : News h₀ L s.heap news) (ho : s.heap.get? a = some (seqObj "list" vs.toArray n)) (haL : a ≠ L) (ha0 : h₀.get? a = none) (hna : ∀ p ∈ news, p.1 ≠ a) (h2 : vs.length < 2)
    (h : ∀ c h', Fr h₀ L h' m → News h₀ L h' ((a, listOf vs.toArray c) :: news) → P (.done (.ret .none)) { s with heap := h' }) :
    wpAny (model prog w) A (Builtin.«list.sort» ⟨[.ref a], []⟩) P E s := by
  have s1 := Heap.SameBut.update s.heap a (Obj.mapSeq fun _ => (#[] : Array Value))
  obtain ⟨e1, ho1⟩ : ∃ e1, (s.heap.update a (Obj.mapSeq fun _ => (#[] : Array Value))).get? a = some (seqObj "list" #[] e1) := ⟨_, get?_update_seq ho fun _ => #[]⟩
  generalize hH : s.heap.update a (Obj.mapSeq fun _ => (#[] : Array Value)) = H at s1 ho1
  have F1 : Fr h₀ L ((H.push (seqObj "tuple" vs.toArray 0)).push (seqObj "list" #[] 0)) m := ((kas_fr F s1 haL ha0).push _).push _
  have N1 : News h₀ L ((H.push (seqObj "tuple" vs.toArray 0)).push (seqObj "list" #[] 0)) news := (kas_news N s1 hna).grown fun b x e => Heap.get?_push_of_some _ (Heap.get?_push_of_some _ e)
  have o3 : ((H.push (seqObj "tuple" vs.toArray 0)).push (seqObj "list" #[] 0)).get? a = some (seqObj "list" #[] e1) := Heap.get?_push_of_some _ (Heap.get?_push_of_some _ ho1)
  rw [list_sort_plain]
  refine wpAny_bind (listItems_at ho rfl ?_)
  refine wpAny_bind (listUpdate_at ho rfl ?_ (by rw [List.size_toArray, sizeLine_eq]; omega) (Nat.zero_le _))
  rw [hH]
  refine wpAny_bind (seqEpoch_at ho1 rfl ?_)
  refine wpAny_bind (wpAny_newTuple ?_ (by show vs.length ≤ _; rw [sizeLine_eq]; omega))
  refine wpAny_bind (wpAny_newList ?_ (Nat.zero_le _))
  refine wpAny_holding ?_
  dsimp only
  have hn2 : vs.toArray.size < 2 := by rw [List.size_toArray]; exact h2
  rw [if_pos hn2, if_pos hn2]
  refine wpAny_bind (wpAny_pure ?_)
  refine wpAny_bind (wpAny_pure ?_)
  dsimp only
  have hout : (arrOf (SortSt.mk' general' (vs.toArray.zip vs.toArray) #[] 7 none)).map (·.2) = vs.toArray := by
    show (vs.toArray.zip vs.toArray).map (·.2) = _
    apply Array.toList_inj.mp
    rw [Array.toList_map, Array.toList_zip]
    exact List.map_snd_zip (Nat.le_refl _)
  rw [hout]
  have s2 := Heap.SameBut.update ((H.push (seqObj "tuple" vs.toArray 0)).push (seqObj "list" #[] 0)) a (Obj.mapSeq fun _ => vs.toArray)
  obtain ⟨c2, hc2⟩ : ∃ c2, (((H.push (seqObj "tuple" vs.toArray 0)).push (seqObj "list" #[] 0)).update a (Obj.mapSeq fun _ => vs.toArray)).get? a = some (seqObj "list" vs.toArray c2) := ⟨_, get?_update_seq o3 fun _ => vs.toArray⟩
  refine wpAny_bind (seqEpoch_at o3 rfl ?_)
  refine wpAny_bind (listUpdate_at o3 rfl ?_ (Nat.zero_le _) (by rw [List.size_toArray, sizeLine_eq]; omega))
  simp only [bne_self_eq_false, Bool.false_eq_true, if_false]
  refine wpAny_pure (h c2 _ (kas_fr F1 s2 haL ha0) fun p hp => ?_)
  rcases List.mem_cons.mp hp with rfl | hp
  · exact ⟨hc2, haL, ha0⟩
  · exact kas_news N1 s2 hna p hp
theorem sorted_few {l : Addr} {vs : List Value} {n : Nat} {Q : Value → Shared → Prop} (F : Fr h₀ L s.heap m) (N : News h₀ L s.heap news) (hm : (l, listOf vs.toArray n) ∈ news) (h2 : vs.length < 2)
    (h : ∀ D c h', Fr h₀ L h' m → News h₀ L h' ((D, listOf vs.toArray c) :: news) → (∀ q ∈ news, q.1 < D) → Q (.ref D) { s with heap := h' }) :
    wpAny (model prog w) A (call (.builtin "sorted") [.ref l]) Q E s := by
  have hl : s.heap.IsList l vs.toArray := ⟨_, (N _ hm).1, rfl, n, rfl⟩
  refine Calls.call_function_entry kind_sorted plain_sorted entry_sorted (args_sorted1 _) ?_
  unfold Builtin.«sorted»
  refine wpAny_bind (m := checkCount "sorted" 1 1 _) (wpAny_pure ?_)
  refine wpAny_bind (collect_list hl ?_ (by rw [sizeLine_eq]; omega))
  refine wpAny_bind (wpAny_newList ?_ (by rw [sizeLine_eq]; omega))
  generalize hH : (s.heap.push (seqObj "list" #[] 0)).update s.heap.objs.size (Obj.mapSeq (· ++ vs.toArray)) = H
  have hsz : H.objs.size = s.heap.objs.size + 1 := by rw [← hH, Heap.size_update, size_push']
  have hoL : (H.push (seqObj "list" vs.toArray 0)).get? H.objs.size = some (seqObj "list" vs.toArray 0) := Heap.get?_push_size _ rfl
  have keep : ∀ b o, s.heap.get? b = some o → (H.push (seqObj "list" vs.toArray 0)).get? b = some o := fun b o q => by
    have hlt : b < s.heap.objs.size := Heap.lt_size q
    rw [Heap.get?_push_ne _ _ _ (by rw [hsz]; exact Nat.ne_of_lt (Nat.lt_succ_of_lt hlt)), ← hH, Heap.get?_update_ne _ _ _ _ (Nat.ne_of_lt hlt), Heap.get?_push_ne _ _ _ (Nat.ne_of_lt hlt)]
    exact q
  have hL : L < s.heap.objs.size := F.ns.lt
  have hlt : ∀ q ∈ news, q.1 < H.objs.size := fun q hq => by rw [hsz]; exact Nat.lt_succ_of_lt (Heap.lt_size (N q hq).1)
  refine wpAny_bind (wpAny_holding (wpAny_call_entry slot_list_sort ⟨_, hoL, rfl⟩ entry_list_sort ?body (args_list_sort _)))
  case body =>
    refine sort_few (s := { s with heap := H.push (seqObj "list" vs.toArray 0) }) (F.kept keep) (N.grown keep) hoL (by rw [hsz]; exact Nat.ne_of_gt (Nat.lt_succ_of_lt hL))
      (Heap.get?_none_of_le (by rw [hsz]; exact Nat.le_trans F.above (Nat.le_succ_of_le (Nat.le_of_lt hL)))) (fun p hp => Nat.ne_of_lt (hlt p hp)) h2 fun c h' F' N' => ?_
    exact ⟨_, rfl, wpAny_pure ⟨_, rfl, h _ c h' F' N' hlt⟩⟩
end
end Mine
end
section
open PySem PySem.W PyProof.Rows PySem.Spec PySem.Calls
set_option maxRecDepth 100000
set_option maxHeartbeats 8000000
namespace Mine
theorem offV4 : True := by
  w_top off
  trivial
def ltP (p q : Str × Str) : Bool := if decide (p.1 = q.1) = true then (if decide (p.2 = q.2) = true then false else decide (p.2.cps.toList < q.2.cps.toList)) else decide (p.1.cps.toList < q.1.cps.toList)
def runT (lt : Nat → Nat → Bool) {α : Type} : KasT α → α
  | .ret a => a
  | .ask i j k => runT lt (k (lt i j))
def okT (n : Nat) {α : Type} : KasT α → Bool
  | .ret _ => true
  | .ask i j k => decide (i < n) && decide (j < n) && okT n (k true) && okT n (k false)
theorem okT_ask {n : Nat} {α : Type} {i j : Nat} {k : Bool → KasT α} (h : okT n (.ask i j k) = true) : i < n ∧ j < n ∧ ∀ b, okT n (k b) = true := by
  simp only [okT, Bool.and_eq_true, decide_eq_true_eq] at h
  exact ⟨h.1.1.1, h.1.1.2, fun b => by cases b; exact h.2; exact h.1.2⟩
theorem kas_det {α : Type} {cmp : Nat → Nat → (Bool → Shared → Prop) → Shared → Prop} {lt : Nat → Nat → Bool} {n : Nat} {Q : α → Shared → Prop} {s : Shared} (hc : ∀ i j, i < n → j < n → ∀ C : Bool → Shared → Prop, C (lt i j) s → cmp i j C s) :
    ∀ t : KasT α, okT n t = true → Q (runT lt t) s → t.kasWp cmp Q s
  | .ret _, _, h => h
  | .ask i j k, o, h => by
    obtain ⟨h1, h2, h3⟩ := okT_ask o
    exact hc i j h1 h2 _ (kas_det hc (k (lt i j)) (h3 _) h)
theorem runT_congr {α : Type} {lt lt' : Nat → Nat → Bool} {n : Nat} (e : ∀ i j, i < n → j < n → lt i j = lt' i j) : ∀ t : KasT α, okT n t = true → runT lt t = runT lt' t
  | .ret _, _ => rfl
  | .ask i j k, o => by
    obtain ⟨h1, h2, h3⟩ := okT_ask o
    show runT lt (k (lt i j)) = runT lt' (k (lt' i j))
    rw [e i j h1 h2]
    exact runT_congr e _ (h3 _)
def tab3 (a b c : Bool) : Nat → Nat → Bool
  | 0, 1 => a
  | 1, 0 => !a
  | 1, 2 => b
  | 2, 1 => !b
  | 0, 2 => c
  | 2, 0 => !c
  | _, _ => false
theorem ok2 : okT 2 (kas_sort 2) = true := by decide +kernel
theorem ok3 : okT 3 (kas_sort 3) = true := by decide +kernel
theorem run2 : ∀ a : Bool, let p := (runT (tab3 a false false) (kas_sort 2)).toList; p.isPerm [0, 1] = true ∧ (∀ x ∈ p, x < 2) ∧ p.Pairwise (fun i j => tab3 a false false i j = true) := by decide +kernel
theorem run3 : ∀ a b c : Bool, (a && b && !c) = false → (!a && !b && c) = false → let p := (runT (tab3 a b c) (kas_sort 3)).toList; p.isPerm [0, 1, 2] = true ∧ (∀ x ∈ p, x < 3) ∧ p.Pairwise (fun i j => tab3 a b c i j = true) := by decide +kernel
theorem ltP_self (p : Str × Str) : ltP p p = false := by simp [ltP]
theorem str_of_cps {a b : Str} (h : a.cps.toList = b.cps.toList) : a = b := by
  cases a; cases b; congr; exact Array.toList_inj.mp h
theorem ltP_ne {p q : Str × Str} (h : p.1 ≠ q.1) : ltP p q = decide (p.1.cps.toList < q.1.cps.toList) := by
  unfold ltP; rw [if_neg (by simpa using h)]
theorem ltP_flip {p q : Str × Str} (h : p.1 ≠ q.1) : ltP q p = !ltP p q := by
  rw [ltP_ne h, ltP_ne (Ne.symm h)]
  have hne : p.1.cps.toList ≠ q.1.cps.toList := fun e => h (str_of_cps e)
  by_cases c : p.1.cps.toList < q.1.cps.toList
  · rw [decide_eq_true c, decide_eq_false (List.lt_asymm c)]; rfl
  · rw [decide_eq_false c]
    have : q.1.cps.toList < p.1.cps.toList := by
      rcases List.le_iff_lt_or_eq.mp (List.not_lt.mp c) with x | x
      · exact x
      · exact absurd x.symm hne
    rw [decide_eq_true this]; rfl
theorem ltP_trans {p q r : Str × Str} (h1 : p.1 ≠ q.1) (h2 : q.1 ≠ r.1) (h3 : p.1 ≠ r.1) (a : ltP p q = true) (b : ltP q r = true) : ltP p r = true := by
  rw [ltP_ne h1, decide_eq_true_eq] at a
  rw [ltP_ne h2, decide_eq_true_eq] at b
  rw [ltP_ne h3, decide_eq_true_eq]
  exact List.lt_trans a b
section
variable {prog : Program} {w : World} {A : Around} {E : Value → Shared → Prop} {s : Shared} {h₀ : Heap} {L : Addr} {m : Str → Option Value} {news : List (Addr × Obj)}
theorem lt_pair {v u : Value} {p q : Str × Str} {C : Bool → Shared → Prop} (N : News h₀ L s.heap news) (hv : PairAt news v p) (hu : PairAt news u q) (h : C (ltP p q) s) : wpAny (model prog w) A (keyLt' (tuples' true) v u) C E s := by
  obtain ⟨a, t1, t2, rfl, ha⟩ := hv
  obtain ⟨b, u1, u2, rfl, hb⟩ := hu
  refine kat_lt (N _ ha).1 rfl (N _ hb).1 rfl ?_
  unfold ltP at h
  refine kat_cons (wpAny_eqBool_str (kat_go (fun e => ?_) fun e => ?_))
  · rw [if_pos e] at h
    refine kat_yes (kat_cons (wpAny_eqBool_str (kat_go (fun e' => ?_) fun e' => ?_)))
    · rw [if_pos e'] at h
      exact kat_yes (kat_nil h)
    · rw [if_neg (by simpa using e')] at h
      exact kat_no (kat_one _ _ (PyProof.Rows.lt_str h))
  · rw [if_neg (by simpa using e)] at h
    exact kat_no (oneLt_str h)
theorem pairs_tups : ∀ {vs : List Value} {ps : Prs}, Fa2 (PairAt news) vs ps → News h₀ L s.heap news → ∃ fs, KatTups s.heap vs fs ∧ fs.length = vs.length ∧ ∀ v ∈ fs, ∃ x t, v = .str x t
  | _, _, .nil, _ => ⟨[], .nil, rfl, fun _ h => nomatch h⟩
  | _, _, .cons x t, N => by
    obtain ⟨fs, k, e, f⟩ := pairs_tups t N
    obtain ⟨a, t1, t2, rfl, ha⟩ := x
    refine ⟨_ :: fs, .cons (N _ ha).1 rfl rfl rfl k, by simp [e], fun v hv => ?_⟩
    rcases List.mem_cons.mp hv with rfl | hv
    · exact ⟨_, _, rfl⟩
    · exact f v hv
theorem Fa2.getD {α β : Type} {R : α → β → Prop} {l : List α} {r : List β} (h : Fa2 R l r) {a : α} {b : β} {i : Nat} (hi : i < l.length) : R (l.getD i a) (r.getD i b) := by
  obtain ⟨y, hy, hr⟩ := h.get (List.getElem?_eq_getElem hi)
  rw [List.getD_eq_getElem?_getD, List.getD_eq_getElem?_getD, List.getElem?_eq_getElem hi, hy]
  exact hr
theorem Fa2.map {α β γ : Type} {R : α → β → Prop} {f : γ → α} {g : γ → β} : ∀ {l : List γ}, (∀ x ∈ l, R (f x) (g x)) → Fa2 R (l.map f) (l.map g)
  | [], _ => .nil
  | x :: _, h => .cons (h x (.head _)) (Fa2.map fun y hy => h y (.tail _ hy))
end
section
variable {prog : Program} {w : World} {A : Around} {E : Value → Shared → Prop} {s : Shared} {h₀ : Heap} {L : Addr} {m : Str → Option Value} {news : List (Addr × Obj)}
abbrev dP : Str × Str := (Str.ofString "", Str.ofString "")
abbrev ltI (ps : Prs) (i j : Nat) : Bool := ltP (ps.getD i dP) (ps.getD j dP)
theorem apart_get {ps : Prs} (hd : ps.Pairwise fun p q => p.1 ≠ q.1) {i j : Nat} (hij : i < j) (hj : j < ps.length) : (ps.getD i dP).1 ≠ (ps.getD j dP).1 := by
  have hi : i < ps.length := by omega
  rw [List.getD_eq_getElem?_getD, List.getD_eq_getElem?_getD, List.getElem?_eq_getElem hi, List.getElem?_eq_getElem hj]
  exact List.pairwise_iff_getElem.mp hd i j hi hj hij
theorem len_nil {α : Type} {l : List α} (h : l.length = 0) : l = [] := List.length_eq_zero_iff.mp h
theorem len_cons {α : Type} {l : List α} {n : Nat} (h : l.length = n + 1) : ∃ a r, l = a :: r ∧ r.length = n := by
  cases l with
  | nil => exact absurd h.symm (Nat.succ_ne_zero _)
  | cons a r => exact ⟨a, r, rfl, Nat.succ.inj h⟩
theorem len_two {α : Type} {l : List α} (h : l.length = 2) : ∃ a b, l = [a, b] := by
  obtain ⟨a, r, e, h1⟩ := len_cons h
  obtain ⟨b, q, e2, h2⟩ := len_cons h1
  exact ⟨a, b, by rw [e, e2, len_nil h2]⟩
theorem len_three {α : Type} {l : List α} (h : l.length = 3) : ∃ a b c, l = [a, b, c] := by
  obtain ⟨a, r, e, h1⟩ := len_cons h
  obtain ⟨b, c, e2⟩ := len_two h1
  exact ⟨a, b, c, by rw [e, e2]⟩
theorem two_of {i : Nat} (h : i < 2) : i = 0 ∨ i = 1 := by
  rcases Nat.lt_or_eq_of_le (Nat.le_of_lt_succ h) with h | h
  · exact .inl (Nat.lt_one_iff.mp h)
  · exact .inr h
theorem three_of {i : Nat} (h : i < 3) : i = 0 ∨ i = 1 ∨ i = 2 := by
  rcases Nat.lt_or_eq_of_le (Nat.le_of_lt_succ h) with h | h
  · exact (two_of h).elim .inl fun h => .inr (.inl h)
  · exact .inr (.inr h)
theorem run_sorted {ps : Prs} (hd : ps.Pairwise fun p q => p.1 ≠ q.1) (h : ps.length = 2 ∨ ps.length = 3) :
    okT ps.length (kas_sort ps.length) = true ∧ (let p := (runT (ltI ps) (kas_sort ps.length)).toList; (p.map fun i => ps.getD i dP).Perm ps ∧ (∀ x ∈ p, x < ps.length) ∧ (p.map fun i => ps.getD i dP).Pairwise fun a b => ltP a b = true) := by
  rcases h with h | h
  · rw [h]
    refine ⟨ok2, ?_⟩
    have e : runT (ltI ps) (kas_sort 2) = runT (tab3 (ltI ps 0 1) false false) (kas_sort 2) := runT_congr (n := 2) (fun i j hi hj => by
      have h01 := apart_get hd (i := 0) (j := 1) (by decide) (by omega)
      rcases two_of hi with rfl | rfl
      · rcases two_of hj with rfl | rfl
        · exact ltP_self _
        · rfl
      · rcases two_of hj with rfl | rfl
        · exact ltP_flip h01
        · exact ltP_self _) _ ok2
    obtain ⟨r1, r2, r3⟩ := run2 (ltI ps 0 1)
    rw [e]
    refine ⟨?_, r2, ?_⟩
    · have := (List.isPerm_iff.mp r1).map fun i => ps.getD i dP
      refine this.trans (List.Perm.of_eq ?_)
      obtain ⟨a, b, rfl⟩ := len_two h
      rfl
    · rw [List.pairwise_map]
      refine r3.imp_of_mem fun {i j} hi hj q => ?_
      have hi := r2 i hi
      have hj := r2 j hj
      have h01 := apart_get hd (i := 0) (j := 1) (by decide) (by omega)
      rcases two_of hi with rfl | rfl
      · rcases two_of hj with rfl | rfl
        · cases q
        · exact q
      · rcases two_of hj with rfl | rfl
        · exact (ltP_flip h01).trans q
        · cases q
  · rw [h]
    refine ⟨ok3, ?_⟩
    have h01 := apart_get hd (i := 0) (j := 1) (by decide) (by omega)
    have h12 := apart_get hd (i := 1) (j := 2) (by decide) (by omega)
    have h02 := apart_get hd (i := 0) (j := 2) (by decide) (by omega)
    have c1 : (ltI ps 0 1 && ltI ps 1 2 && !ltI ps 0 2) = false := by
      rw [Bool.eq_false_iff]
      intro hc
      simp only [Bool.and_eq_true, Bool.not_eq_true'] at hc
      exact absurd ((ltP_trans h01 h12 h02 hc.1.1 hc.1.2).symm.trans hc.2) (by decide)
    have c2 : (!ltI ps 0 1 && !ltI ps 1 2 && ltI ps 0 2) = false := by
      rw [Bool.eq_false_iff]
      intro hc
      rw [Bool.and_eq_true, Bool.and_eq_true] at hc
      have a1 : ltI ps 1 0 = true := (ltP_flip h01).trans hc.1.1
      have a2 : ltI ps 2 1 = true := (ltP_flip h12).trans hc.1.2
      have a3 := ltP_trans (Ne.symm h12) (Ne.symm h01) (Ne.symm h02) a2 a1
      rw [ltP_flip h02] at a3
      rw [show ltP (ps.getD 0 dP) (ps.getD 2 dP) = true from hc.2] at a3
      exact absurd a3 (by decide)
    have e : ∀ i j, i < 3 → j < 3 → ltI ps i j = tab3 (ltI ps 0 1) (ltI ps 1 2) (ltI ps 0 2) i j := fun i j hi hj => by
      rcases three_of hi with rfl | rfl | rfl
      · rcases three_of hj with rfl | rfl | rfl
        · exact ltP_self _
        · rfl
        · rfl
      · rcases three_of hj with rfl | rfl | rfl
        · exact ltP_flip h01
        · exact ltP_self _
        · rfl
      · rcases three_of hj with rfl | rfl | rfl
        · exact ltP_flip h02
        · exact ltP_flip h12
        · exact ltP_self _
    obtain ⟨r1, r2, r3⟩ := run3 _ _ _ c1 c2
    rw [runT_congr e _ ok3]
    refine ⟨?_, r2, ?_⟩
    · have := (List.isPerm_iff.mp r1).map fun i => ps.getD i dP
      refine this.trans (List.Perm.of_eq ?_)
      obtain ⟨a, b, c, rfl⟩ := len_three h
      rfl
    · rw [List.pairwise_map]
      exact r3.imp_of_mem fun {i j} hi hj q => (e i j (r2 i hi) (r2 j hj)).trans q
theorem sorted_pairs {R : Value → Str × Str → Prop} {l : Addr} {vs : List Value} {ps : Prs} {n : Nat} {Q : Value → Shared → Prop} (F : Fr h₀ L s.heap m) (N : News h₀ L s.heap news) (hm : (l, listOf vs.toArray n) ∈ news) (hR : ∀ v p, R v p → PairAt news v p) (hv : Fa2 R vs ps) (h3 : vs.length ≤ 3) (hd : ps.Pairwise fun p q => p.1 ≠ q.1)
    (h : ∀ D c vs' ps' h', Fr h₀ L h' m → News h₀ L h' ((D, listOf vs'.toArray c) :: news) → (∀ q ∈ news, q.1 < D) → Fa2 R vs' ps' → ps'.Perm ps → ps'.Pairwise (fun a b => ltP a b = true) → Q (.ref D) { s with heap := h' }) :
    wpAny (model prog w) A (call (.builtin "sorted") [.ref l]) Q E s := by
  have hlen := hv.length
  by_cases h2 : vs.length < 2
  · refine sorted_few F N hm h2 fun D c h' F' N' l1 => h D c vs ps h' F' N' l1 hv (List.Perm.refl _) ?_
    match ps, hlen with
    | [], _ => exact .nil
    | [a], _ => exact List.pairwise_singleton _ _
    | _ :: _ :: _, e => simp at e; omega
  · have hl : s.heap.IsList l vs.toArray := ⟨_, (N _ hm).1, rfl, n, rfl⟩
    refine kat_sorted F N hl (by omega) (by omega) fun D e1 h' F' N' lt' => ?_
    obtain ⟨fs, t, e, f⟩ := pairs_tups (s := { s with heap := h' }) (h₀ := h₀) (L := L) (hv.mono hR) (fun p hp => N' p (.tail _ hp))
    refine kat_kind (s := { s with heap := h' }) (T := .type "str") t (by omega) (fun v hv => ?_) rfl ?_
    · obtain ⟨x, t, rfl⟩ := f v hv
      exact Looks.of_pure rfl
    rw [show (Value.type "str" != Value.type "tuple") = true by decide]
    obtain ⟨o, r1, r2, r3⟩ := run_sorted hd (by omega)
    rw [hlen]
    refine kas_det (lt := ltI ps) (n := ps.length) (fun i j hi hj C hC => ?_) _ o ?_
    · exact lt_pair (h₀ := h₀) (L := L) (fun p hp => N' p (.tail _ hp)) (hR _ _ (hv.getD (by omega))) (hR _ _ (hv.getD (by omega))) hC
    · refine KasFin.intro (s := { s with heap := h' }) F' N' (.head fun p hp => Nat.ne_of_lt (lt' p hp)) fun h'' c F'' N'' => ?_
      exact h D c _ _ h'' F'' N'' lt' (Fa2.map fun i hi => hv.getD (by have := r2 i hi; omega)) r1 r3
end
end Mine
end
section
open PySem PySem.W PyProof.Rows PySem.Spec PySem.Calls
set_option maxRecDepth 100000
set_option maxHeartbeats 8000000
namespace Mine
theorem offV5 : True := by
  w_top off
  trivial
abbrev prD (p : Str × Str) : PyData := .tuple [.str p.1, .str p.2]
abbrev nwD (x : Nw) : PyData := .tuple [.int x.port, .int x.code, .str x.text, .str x.name]
theorem eqv_prD (p q : Str × Str) : PyData.eqv (prD p) (prD q) = decide (p = q) := by
  simp only [PyData.eqv, PyData.eqvAll, Bool.and_true]
  obtain ⟨a, b⟩ := p
  obtain ⟨c, d⟩ := q
  rw [Bool.eq_iff_iff]
  simp
theorem eqv_nwD (x y : Nw) : PyData.eqv (nwD x) (nwD y) = decide (x = y) := by
  simp only [PyData.eqv, PyData.eqvAll, Bool.and_true]
  obtain ⟨a, b, c, d⟩ := x
  obtain ⟨a', b', c', d'⟩ := y
  rw [Bool.eq_iff_iff]
  simp
theorem eqvAll_map {α : Type} [DecidableEq α] {f : α → PyData} (hf : ∀ a b, PyData.eqv (f a) (f b) = decide (a = b)) : ∀ l r : List α, PyData.eqvAll (l.map f) (r.map f) = decide (l = r)
  | [], [] => rfl
  | [], _ :: _ => rfl
  | _ :: _, [] => rfl
  | a :: l, b :: r => by
    show (PyData.eqv (f a) (f b) && PyData.eqvAll (l.map f) (r.map f)) = _
    rw [hf, eqvAll_map hf l r, Bool.eq_iff_iff]
    simp
theorem canLay_map {α : Type} {f : α → PyData} {l : List α} (h : ∀ a ∈ l, (f a).canLay0 = true) : PyData.canLayAll0 (l.map f) = true := by
  induction l with
  | nil => rfl
  | cons a l ih =>
    show (PyData.canLay0 (f a) && PyData.canLayAll0 (l.map f)) = true
    rw [h a (.head _), ih fun b hb => h b (.tail _ hb)]; rfl
theorem depth_map {α : Type} {f : α → PyData} {l : List α} {n : Nat} (h : ∀ a ∈ l, (f a).depth ≤ n) : PyData.depthAll (l.map f) ≤ n := by
  induction l with
  | nil => exact Nat.zero_le _
  | cons a l ih =>
    show max (PyData.depth (f a)) (PyData.depthAll (l.map f)) ≤ n
    exact Nat.max_le.mpr ⟨h a (.head _), ih fun b hb => h b (.tail _ hb)⟩
theorem Plain.ok {x : Str} (h : Plain x) : PyData.strOk x = true := by
  unfold PyData.strOk
  rw [Array.all_eq_true']
  intro c hc
  have := (h.1 c (by simpa using hc)).2
  exact decide_eq_true (by omega)
theorem canLay_pr {p : Str × Str} (h1 : Plain p.1) (h2 : Plain p.2) : (prD p).canLay0 = true := by
  simp [PyData.canLay0, PyData.canLayAll0, h1.ok, h2.ok]
theorem canLay_nw {x : Nw} (h1 : Plain x.text) (h2 : Plain x.name) : (nwD x).canLay0 = true := by
  simp [PyData.canLay0, PyData.canLayAll0, h1.ok, h2.ok]
theorem depth_pr (p : Str × Str) : (prD p).depth = 1 := rfl
theorem depth_nw (x : Nw) : (nwD x).depth = 1 := rfl
section
variable {prog : Program} {w : World} {A : Around} {E : Value → Shared → Prop} {s : Shared} {h₀ : Heap} {L : Addr} {m : Str → Option Value} {news : List (Addr × Obj)} {Q : Value → Shared → Prop}
theorem readsAll_fa {α : Type} {R : Value → α → Prop} {f : α → PyData} {h : Heap} (hr : ∀ v a, R v a → ∃ as, Reads h v (f a) as) : ∀ {vs : List Value} {l : List α}, Fa2 R vs l → ∃ as, ReadsAll h vs (l.map f) as
  | _, _, .nil => ⟨_, .nil⟩
  | _, _, .cons x t => by
    obtain ⟨as, a⟩ := hr _ _ x
    obtain ⟨bs, b⟩ := readsAll_fa hr t
    exact ⟨_, .cons a b⟩
theorem reads_pr (N : News h₀ L s.heap news) (v : Value) (p : Str × Str) (h : PairAt news v p) : ∃ as, Reads s.heap v (prD p) as := by
  obtain ⟨a, t1, t2, rfl, ha⟩ := h
  exact ⟨_, .tuple (N _ ha).1 rfl rfl (.cons (.str _ _) (.cons (.str _ _) .nil))⟩
theorem reads_nw (N : News h₀ L s.heap news) (v : Value) (x : Nw) (h : NwAt news v x) : ∃ as, Reads s.heap v (nwD x) as := by
  obtain ⟨a, t1, t2, t3, t4, rfl, ha⟩ := h
  exact ⟨_, .tuple (N _ ha).1 rfl rfl (.cons (.int _ _) (.cons (.int _ _) (.cons (.str _ _) (.cons (.str _ _) .nil))))⟩
theorem reads_led {α : Type} {R : Value → α → Prop} {f : α → PyData} {l : Addr} {vs : List Value} {n : Nat} {xs : List α} (N : News h₀ L s.heap news) (hm : (l, listOf vs.toArray n) ∈ news) (hr : ∀ v a, R v a → ∃ as, Reads s.heap v (f a) as) (hv : Fa2 R vs xs) :
    ∃ as, Reads s.heap (.ref l) (.list (xs.map f)) as := by
  obtain ⟨as, a⟩ := readsAll_fa hr hv
  exact ⟨_, .list (N _ hm).1 rfl rfl a⟩
abbrev prsD (ps : Prs) : PyData := .list (ps.map prD)
theorem shaped_prs {ps : Prs} (h : ∀ p ∈ ps, Plain p.1 ∧ Plain p.2) : SeqAt.shaped (prsD ps) = true := by
  unfold SeqAt.shaped
  rw [Bool.and_eq_true, decide_eq_true_eq]
  refine ⟨canLay_map fun p hp => canLay_pr (h p hp).1 (h p hp).2, ?_⟩
  have := depth_map (f := prD) (l := ps) (n := 1) fun p _ => Nat.le_of_eq (depth_pr p)
  show PyData.depthAll (ps.map prD) + 1 ≤ 64
  omega
theorem eq_prs {a b : Addr} {vs us : List Value} {n k : Nat} {ps qs : Prs} (N : News h₀ L s.heap news) (ha : (a, listOf vs.toArray n) ∈ news) (hb : (b, listOf us.toArray k) ∈ news) (hv : Fa2 (PairAt news) vs ps) (hu : Fa2 (PairAt news) us qs) (hp : ∀ p ∈ ps, Plain p.1 ∧ Plain p.2) (hq : ∀ p ∈ qs, Plain p.1 ∧ Plain p.2)
    (hA : A.units + 64 < cLine) (h : Q (.bool (decide (ps = qs))) s) : wpAny (model prog w) A (compareOp .Eq (.ref a) (.ref b)) Q E s := by
  obtain ⟨as, ra⟩ := reads_led (f := prD) N ha (reads_pr N) hv
  obtain ⟨bs, rb⟩ := reads_led (f := prD) N hb (reads_pr N) hu
  refine PyProof.Rows.eq_dataH ra rb (shaped_prs hp) (shaped_prs hq) hA ?_
  rw [show PyData.eqv (.list (ps.map prD)) (.list (qs.map prD)) = decide (ps = qs) from eqvAll_map eqv_prD ps qs]
  exact h
theorem ne_prs {a b : Addr} {vs us : List Value} {n k : Nat} {ps qs : Prs} (N : News h₀ L s.heap news) (ha : (a, listOf vs.toArray n) ∈ news) (hb : (b, listOf us.toArray k) ∈ news) (hv : Fa2 (PairAt news) vs ps) (hu : Fa2 (PairAt news) us qs) (hp : ∀ p ∈ ps, Plain p.1 ∧ Plain p.2) (hq : ∀ p ∈ qs, Plain p.1 ∧ Plain p.2)
    (hA : A.units + 64 < cLine) (h : Q (.bool (!decide (ps = qs))) s) : wpAny (model prog w) A (compareOp .NotEq (.ref a) (.ref b)) Q E s := by
  obtain ⟨as, ra⟩ := reads_led (f := prD) N ha (reads_pr N) hv
  obtain ⟨bs, rb⟩ := reads_led (f := prD) N hb (reads_pr N) hu
  refine PyProof.Rows.ne_dataH ra rb (shaped_prs hp) (shaped_prs hq) hA ?_
  rw [show PyData.eqv (.list (ps.map prD)) (.list (qs.map prD)) = decide (ps = qs) from eqvAll_map eqv_prD ps qs]
  exact h
theorem notIn_nws {b : Addr} {v : Value} {us : List Value} {k : Nat} {x : Nw} {ys : List Nw} (N : News h₀ L s.heap news) (hb : (b, listOf us.toArray k) ∈ news) (hv : NwAt news v x) (hu : Fa2 (NwAt news) us ys) (hx : Plain x.text ∧ Plain x.name) (hy : ∀ y ∈ ys, Plain y.text ∧ Plain y.name)
    (hA : A.units + 64 < cLine) (h : Q (.bool (!decide (x ∈ ys))) s) : wpAny (model prog w) A (compareOp .NotIn v (.ref b)) Q E s := by
  obtain ⟨as, ra⟩ := reads_nw N v x hv
  obtain ⟨bs, rb⟩ := reads_led (f := nwD) N hb (reads_nw N) hu
  refine SeqAt.notIn_list_reads rb ra (canLay_map fun y hy' => canLay_nw (hy y hy').1 (hy y hy').2) (canLay_nw hx.1 hx.2) (by have : min (PyData.depthAll (ys.map nwD)) (nwD x).depth ≤ 1 := Nat.min_le_right _ _; omega) ?_
  rw [show ((ys.map nwD).any fun y => PyData.eqv y (nwD x)) = decide (x ∈ ys) by
    rw [List.any_map, Bool.eq_iff_iff, List.any_eq_true, decide_eq_true_eq]
    constructor
    · rintro ⟨y, hy, e⟩
      have := (eqv_nwD y x).symm.trans e
      rw [decide_eq_true_eq] at this
      exact this ▸ hy
    · intro hm
      exact ⟨x, hm, (eqv_nwD x x).trans (decide_eq_true rfl)⟩]
  exact h
end
end Mine
end
section
open PySem PySem.W PyProof.Rows PySem.Spec PySem.Calls
set_option maxRecDepth 100000
set_option maxHeartbeats 8000000
namespace Mine
theorem offV6 : True := by
  w_top off
  trivial
section
variable {prog : Program} {w : World} {A : Around} {E : Value → Shared → Prop} {s : Shared} {h₀ : Heap} {L : Addr} {m : Str → Option Value} {news : List (Addr × Obj)}
theorem applied_to3 {sl : Addr} {u : Tok} {Q : Int × Int × Nat → Shared → Prop} (hs : s.heap.IsSliceOf sl .none (.int 3 u) .none) (h : Q (0, 1, 3) s) :
    wpAny (model prog w) A (Builtin.Slice.sliceApplied (.ref sl) (pure (4 : Int))) Q E s := by
  obtain ⟨os, hos, hcs, hds⟩ := id hs
  unfold Builtin.Slice.sliceApplied Builtin.Slice.sliceFields
  refine wpAny_bind (wpAny_bind (wpAny_field hos hds (x := .none) rfl (wpAny_bind (wpAny_field hos hds (x := .int 3 u) rfl (wpAny_bind (wpAny_field hos hds (x := .none) rfl (wpAny_pure ?_)))))))
  refine wpAny_bind (slicePart_none ?_)
  show wpAny _ _ (if ((1 : Int) == 0) = true then _ else _) _ _ s
  rw [if_neg (by decide)]
  refine wpAny_bind (slicePart_none (wpAny_bind (slicePart_int (wpAny_bind (wpAny_pure ?_)))))
  exact wpAny_pure h
theorem getItem_to3 {t sl : Addr} {a b c d : Value} {nn : Nat} {u : Tok} {Q : Value → Shared → Prop} (ht : IsTup s.heap t #[a, b, c, d]) (hs : s.heap.IsSliceOf sl .none (.int 3 u) .none)
    (h : Q (.ref s.heap.objs.size) { s with heap := s.heap.push { cls := .type "tuple", data := .seq #[a, b, c] } }) : wpAny (model prog w) A (getItem (.ref t) (.ref sl)) Q E s := by
  have hdrop : sizeOk (.seq #[a, b, c]) := Nat.le_of_ble_eq_true rfl
  obtain ⟨os, hos, hcs, hds⟩ := id hs
  have hTs : s.TypeIs (.ref sl) "slice" := ⟨os, hos, hcs⟩
  unfold getItem
  try with_reducible refine wpAny_holding ?_
  first | refine wpAny_bind (wpAny_pure ?_) | skip
  refine wpAny_bind (wpAny_sequenceKey ht.typeIs (by decide) ?_)
  refine wpAny_bind (wpAny_callSpecial?_slot (name := Str.ofString "__getitem__") ht.typeIs slot_tuple_getitem
    (wpAny_call_entry slot_tuple_getitem ht.typeIs entry_tuple_getitem ?_ (args_tuple_getitem _ _)))
  show wpAny _ _ (Builtin.Tuple.tupleItemsOf (.ref t) >>= _) _ _ s
  refine wpAny_bind (tupleItemsOf_ ht ?_)
  refine wpAny_bind (wpAny_typeOf hTs ?_)
  rw [if_pos (by decide)]
  refine wpAny_bind (applied_to3 hs ?_)
  exact wpAny_bind (m := Builtin.Tuple.tupleExact _) (wpAny_newObj_type (wpAny_bind (wpAny_pure (wpAny_pure ⟨_, rfl, wpAny_pure h⟩))) hdrop)
theorem tup_to3 {value slice : Expr} {t : Addr} {a b c d : Value} {nn : Nat} {u : Tok} {Q : Value → Shared → Prop}
    (F : Fr h₀ L s.heap m) (N : News h₀ L s.heap news) (hm : (t, ({ cls := .type "tuple", data := .seq #[a, b, c, d] nn } : Obj)) ∈ news)
    (h : ∀ D h', Fr h₀ L h' m → News h₀ L h' ((D, tupV [a, b, c]) :: news) → Q (.ref D) { s with heap := h' })
    (hs : subscripted slice false (.ref t) (.ref s.heap.objs.size) = operate [.ref s.heap.objs.size, .ref t] (getItem (.ref t) (.ref s.heap.objs.size)) := by with_unfolding_all rfl)
    (hg : ∀ r, letTemporaryGo value (.ref t) r = pure () := by intro _; with_unfolding_all rfl) :
    wpAny (model prog w) A (subscriptTail value slice (.ref t) (.ref s.heap.objs.size)) Q E { s with heap := s.heap.push { cls := .type "slice", data := .fields #[.none, .int 3 u, .none] } } := by
  have ht : IsTup s.heap t #[a, b, c, d] := ⟨_, (N _ hm).1, rfl, nn, rfl⟩
  have ht' : IsTup (s.heap.push { cls := .type "slice", data := .fields #[.none, .int 3 u, .none] }) t #[a, b, c, d] := ht.keeps fun _ _ e => Heap.get?_push_of_some _ e
  refine subscriptTail_ops (s := { s with heap := s.heap.push { cls := .type "slice", data := .fields #[.none, .int 3 u, .none] } }) ht'.typeIs slot_tuple_getitem.lookup
    (getItem_to3 (nn := nn) ht' (Heap.IsSliceOf.new ..) ?_) hs hg
  exact h _ _ ((F.push _).push _) (News.push (F.push { cls := .type "slice", data := .fields #[.none, .int 3 u, .none] }) (N.grown fun _ _ e => Heap.get?_push_of_some _ e) (tupV [a, b, c]))
end
end Mine
end
section
open PySem PySem.W PyProof.Rows PySem.Spec PySem.Calls
set_option maxRecDepth 100000
set_option maxHeartbeats 8000000
namespace Mine
theorem offV7 : True := by
  w_top off
  trivial
def dN : Nw := ⟨0, 0, Str.ofString "", Str.ofString ""⟩
def gt4 (x y : Nw) : Bool := lexB scGt [.int x.port 0, .int x.code 0, .str x.text 0, .str x.name 0] [.int y.port 0, .int y.code 0, .str y.text 0, .str y.name 0]
def maxAt (l : List Nw) : Option Nw := l[bestAt (fun i j => gt4 (l.getD i dN) (l.getD j dN)) (l.length - 1)]?
def bestOne (nws : List Nw) (f : Str) : Prs := (maxAt (nws.filter fun x => Txt.lower x.name == f)).toList.map fun x => (x.name, x.text)
def bestL (nws : List Nw) (fs : List Str) : Prs := fs.flatMap (bestOne nws)
def three : List Str := [Str.ofString "q\"", Str.ofString "\"\"", Str.ofString "r"]
theorem bestAt_le (bt : Nat → Nat → Bool) : ∀ k, bestAt bt k ≤ k
  | 0 => Nat.le_refl _
  | k + 1 => by
    unfold bestAt
    split
    · exact Nat.le_refl _
    · exact Nat.le_succ_of_le (bestAt_le bt k)
theorem Fa2.getR {α β : Type} {R : α → β → Prop} : ∀ {l : List α} {r : List β}, Fa2 R l r → ∀ {i : Nat} {a : α} {b : β}, l[i]? = some a → r[i]? = some b → R a b := fun x i a b h1 h2 => by
  obtain ⟨b', h3, h4⟩ := x.get h1
  rw [h2] at h3
  cases h3
  exact h4
section
variable {prog : Program} {w : World} {A : Around} {E : Value → Shared → Prop} {s : Shared} {h₀ : Heap} {L : Addr} {m : Str → Option Value} {news : List (Addr × Obj)} {Q : Value → Shared → Prop}
theorem nws_shaped {xs : List Nw} (h : ∀ x ∈ xs, Plain x.text ∧ Plain x.name) : SeqAt.shaped (.list (xs.map nwD)) = true := by
  unfold SeqAt.shaped
  rw [Bool.and_eq_true, decide_eq_true_eq]
  refine ⟨canLay_map fun p hp => canLay_nw (h p hp).1 (h p hp).2, ?_⟩
  have := depth_map (f := nwD) (l := xs) (n := 1) fun p _ => Nat.le_of_eq (depth_nw p)
  show PyData.depthAll (xs.map nwD) + 1 ≤ 64
  omega
theorem ne_empty9 {a b : Addr} {us : List Value} {n k : Nat} {xs : List Nw} (N : News h₀ L s.heap news) (ha : (a, listOf us.toArray n) ∈ news) (hb : (b, listOf #[] k) ∈ news) (hu : Fa2 (NwAt news) us xs) (hp : ∀ x ∈ xs, Plain x.text ∧ Plain x.name)
    (hA : A.units + 64 < cLine) {c : Bool} (hc : (!decide (xs = [])) = c) (h : Q (.bool c) s) : wpAny (model prog w) A (compareOp .NotEq (.ref a) (.ref b)) Q E s := by
  obtain ⟨as, ra⟩ := reads_led (f := nwD) N ha (reads_nw N) hu
  have rb : Reads s.heap (.ref b) (.list ([].map nwD)) (b :: []) := .list (N _ hb).1 rfl rfl .nil
  refine PyProof.Rows.ne_dataH ra rb (nws_shaped hp) (nws_shaped (xs := []) fun _ h => nomatch h) hA ?_
  rw [show PyData.eqv (.list (xs.map nwD)) (.list (([] : List Nw).map nwD)) = decide (xs = []) from eqvAll_map eqv_nwD xs []]
  exact hc ▸ h
theorem max_nws {l : Addr} {us : List Value} {n : Nat} {xs : List Nw} (hh : A.handled = none) (F : Fr h₀ L s.heap m) (N : News h₀ L s.heap news) (hm : (l, listOf us.toArray n) ∈ news) (hu : Fa2 (NwAt news) us xs) (hne : xs ≠ []) (hA : A.units + 64 < cLine)
    (h : ∀ a x t1 t2 t3 t4 h' tk, maxAt xs = some x → (a, tupN x t1 t2 t3 t4) ∈ news → Fr h₀ L h' m → News h₀ L h' news → Q (.ref a) { s with heap := h', toks := tk }) : wpAny (model prog w) A (call (.builtin "max") [.ref l]) Q E s := by
  have hl := hu.length
  have hpos : 0 < us.length := by rw [hl]; exact List.length_pos_iff.mpr hne
  refine max_list (fun i j => gt4 (xs.getD i dN) (xs.getD j dN)) hh F N hm hpos (fun i j vi vj s' Q' E' N' hi hj q => ?_) fun v h' tk hv F' N' => ?_
  · obtain ⟨x, hx, a, t1, t2, t3, t4, rfl, ha⟩ := hu.get hi
    obtain ⟨y, hy, b, u1, u2, u3, u4, rfl, hb⟩ := hu.get hj
    rw [List.getD_eq_getElem?_getD, List.getD_eq_getElem?_getD, hx, hy] at q
    exact tup_gt N' ha hb (.cons (.int _ _ _ _) (.cons (.int _ _ _ _) (.cons (.str _ _ _ _) (.cons (.str _ _ _ _) .nil)))) (by show A.units + 1 < cLine; omega) q
  · obtain ⟨x, hx, a, t1, t2, t3, t4, rfl, ha⟩ := hu.get hv
    rw [hl] at hx
    exact h a x t1 t2 t3 t4 h' tk hx ha F' N'
end
end Mine
end
section
open PySem PySem.W PyProof.Rows PySem.Spec PySem.Calls
set_option maxRecDepth 100000
set_option maxHeartbeats 8000000
namespace Mine
theorem offD13 : True := by
  w_top off
  trivial
theorem fillD13 : (PySem.Challenge.rw_wf0088_01, hd.heap_1) = (PySem.Challenge.rw_wf0088_01, hd.heap_1) := by
  k_fill
  rfl
section
theorem strs_item3 {l : List Value} {i : Nat} {v : Value} (h : l[i]? = some v) (a : l.all isS = true) (b : ((l.map strOf).all fun x => decide (x.length ≤ 3)) = true) : ∃ x t, v = .str x t ∧ x = (l.map strOf).getD i (Str.ofString "") ∧ x.length ≤ 3 := by
  have hm := List.mem_of_getElem? h
  have hb := List.all_eq_true.mp b _ (List.mem_map_of_mem (f := strOf) hm)
  obtain ⟨t, e⟩ := strs_item h a
  rw [e] at hb
  exact ⟨_, t, e, rfl, of_decide_eq_true hb⟩
theorem ints_item9 {l : List Value} {i : Nat} {v : Value} (h : l[i]? = some v) (a : l.all isI = true) (b : ∀ v ∈ l, 0 ≤ intOf v ∧ intOf v < 100000) : ∃ k t, v = .int k t ∧ k = (l.map intOf).getD i 0 ∧ 0 ≤ k ∧ k < 100000 := by
  have hm := List.mem_of_getElem? h
  have hb := b v hm
  obtain ⟨t, e⟩ := ints_item h a
  rw [e] at hb
  exact ⟨_, t, e, rfl, hb⟩
theorem mul_len3 {x : Str} {r : Nat} (hx : x.length ≤ 3) (hr : r < 2) : (Txt.mul x (r : Int)).length ≤ 3 := by
  have h : r = 0 ∨ r = 1 := by omega
  have e := PyProof.Rows.len_mul x (r : Int)
  rw [if_neg (by simp)] at e
  rcases h with rfl | rfl <;> omega
theorem ConK.mono {w : World} {d : Nat} {f : Addr} {led : Led} {vs : List Value} {kw : List (Str × Value)} {Ret Ret' : Value → Led → Prop} (C : ConK w d f led vs kw Ret) (h : ∀ v l, Ret v l → Ret' v l) : ConK w d f led vs kw Ret' :=
  fun mean mg mb dp un gd cn cs a ccd cl outer A₀ base h₀ L m s E B F X N T hk hdd hu =>
    wpAny_mono (C mean mg mb dp un gd cn cs a ccd cl outer A₀ base h₀ L m s E B F X N T hk hdd hu) (fun _ _ ⟨led', h', tk', e, F', N', r⟩ => ⟨led', h', tk', e, F', N', h _ _ r⟩) fun _ _ x => x
theorem made_end {g h' : Heap} {L' : Addr} {s : Shared} {m' : Str → Option Value} {tk' : Nat} {x : Nw} {T : Addr} {u1 u2 u3 u4 : Tok} {j1 j2 j3 j4 j5 : Addr × Obj} {led : Led} (F : Fr g L' h' m') (N : News g L' h' ((T, tupN x u1 u2 u3 u4) :: j1 :: j2 :: j3 :: j4 :: j5 :: led)) (ho : ∀ p ∈ led, p.1 ≠ T) :
    BodyRet g L' s (fun v led' => ∃ T u1 u2 u3 u4, v = .ref T ∧ led' = (T, tupN x u1 u2 u3 u4) :: led ∧ ∀ p ∈ led, p.1 ≠ T) (.ret (.ref T)) { s with heap := h', toks := tk' } :=
  BodyRet.mk _ F N (fun p hp => by
    rcases List.mem_cons.mp hp with rfl | hp
    · exact .head _
    · exact .tail _ (.tail _ (.tail _ (.tail _ (.tail _ (.tail _ hp)))))) ⟨_, _, _, _, _, rfl, rfl, ho⟩
theorem repl_len (i : Nat) : (Txt.replace (names4.getD i (Str.ofString "")) (Str.ofString "\"") (Str.ofString "\"\"")).length ≤ 8 := by
  match i with
  | 0 => decide +kernel
  | 1 => decide +kernel
  | 2 => decide +kernel
  | 3 => decide +kernel
  | n + 4 => exact (by decide +kernel : (Txt.replace (Str.ofString "") (Str.ofString "\"") (Str.ofString "\"\"")).length ≤ 8)
section
variable {prog : Program} {w : World} {A : Around} {E : Value → Shared → Prop} {s : Shared} {Q : Value → Shared → Prop} {t u : Tok}
theorem mulGen {x : Str} {r : Nat} (hx : x.length ≤ 3) (hr : r < 2) (h : ∀ z t' tk, z = Txt.mul x (r : Int) → z.length ≤ 3 → Q (.str z t') { s with toks := tk }) :
    wpAny (model prog w) A (binaryOp .Mult (.str x t) (.int (r : Int) u)) Q E s := by
  refine SB.mul (mulOk2 _ hr) ?_
  intro t' tk
  exact h _ t' tk rfl (mul_len3 hx hr)
theorem strGen {k : Int} (h0 : 0 ≤ k) (h1 : k < 100000) (h : ∀ z t' tk, z = Str.ofString (toString k) → z.length ≤ 10 → Q (.str z t') { s with toks := tk }) :
    wpAny (model prog w) A (call (.type "str") [.int k t]) Q E s :=
  P.str_of_int (shown (N := 2 ^ 1920) (by omega) (Int.lt_of_lt_of_le h1 (by decide +kernel)) (Int.le_refl _)) (h _ _ _ rfl (KT.len_num h0 (by omega)))
theorem replGen {x y z : Str} {v : Tok} (hu : u ≠ 0) (hv : v ≠ 0) (huv : u ≠ v) (hyz : (y == z) = false) (hx : x.length ≤ 3) (hz : z.length ≤ 14) (hR : (Txt.replace x y z).length ≤ 8)
    (h : ∀ r t' tk, r = Txt.replace x y z → r.length ≤ 8 → Q (.str r t') { s with toks := tk }) : wpAny (model prog w) A (call (.builtin "str.replace") [.str x t, .str y u, .str z v]) Q E s :=
  SC.replaceW hu hv huv hyz (by omega) hz fun _ _ => h _ _ _ rfl hR
theorem join5 {sep a b c d e : Str} {ta tb tc td te : Tok} {D : Addr} {n : Nat} {h₀ : Heap} {L : Addr} {news : List (Addr × Obj)} (N : News h₀ L s.heap news) (hm : (D, listOf #[.str a ta, .str b tb, .str c tc, .str d td, .str e te] n) ∈ news)
    (hs : sep.length ≤ 1) (ha : a.length ≤ 20) (hb : b.length ≤ 20) (hc : c.length ≤ 20) (hd : d.length ≤ 20) (he : e.length ≤ 20)
    (h : ∀ r t' tk, r = Txt.join sep [a, b, c, d, e] → r.length ≤ 104 → Q (.str r t') { s with toks := tk }) : wpAny (model prog w) A (call (.builtin "str.join") [.str sep t, .ref D]) Q E s := by
  have hl : s.heap.IsList D (strValues [(a, ta), (b, tb), (c, tc), (d, td), (e, te)]).toArray := ⟨_, (N _ hm).1, rfl, n, rfl⟩
  refine SC.join hl (texts := [a, b, c, d, e]) rfl (joinOk_of_weight (by simp only [List.map_cons, List.map_nil, List.sum_cons, List.sum_nil, List.length_cons, List.length_nil]; omega) (by omega)) fun t' k => h _ t' k rfl ?_
  show (Builtin.Str.glued sep [a, b, c, d, e]).length ≤ 104
  rw [StrLaws.glued_eq_join, len_join_cons]
  simp only [List.map_cons, List.map_nil, List.sum_cons, List.sum_nil, List.length_cons, List.length_nil]
  omega
theorem addG {x y : Str} (hb : x.length + y.length ≤ 1000) (h : ∀ z t' tk, z = x ++ y → z.length = x.length + y.length → Q (.str z t') { s with toks := tk }) :
    wpAny (model prog w) A (binaryOp .Add (.str x t) (.str y u)) Q E s :=
  add_str (fun t' tk => h _ t' tk rfl (Str.length_append _ _)) (by rw [sizeLine_eq]; omega)
theorem itemL0 {value slice : Expr} {a : Addr} {vs : List Value} {nn : Nat} {k : Int} {u : Tok} {v : Value} {h₀ : Heap} {L : Addr} {news : List (Addr × Obj)} (N : News h₀ L s.heap news) (hm : (a, listOf vs.toArray nn) ∈ news) (h0 : 0 ≤ k) (hk : k < 2 ^ 62) (hx : vs[k.toNat]? = some v) (h : Q v s)
    (hs : subscripted slice false (.ref a) (.int k u) = operate [.ref a, .int k u] (getItem (.ref a) (.int k u)) := by with_unfolding_all rfl) :
    wpAny (model prog w) A (subscriptTail value slice (.ref a) (.int k u)) Q E s := by
  have hl : s.heap.IsList a vs.toArray := ⟨_, (N _ hm).1, rfl, nn, rfl⟩
  exact tail_any hl.typeIs slot_list_getitem.lookup (wpAny_getItem_list hl h0 (by omega) (x := v) (by simpa using hx) h) hs
end
theorem made_conF (w : World) (r0 r1 r2 r3 r4 r5 r6 r7 r8 r9 : Nat) (t0 t1 t2 t3 t4 t5 t6 t7 t8 t9 : Tok) (D : Addr) (k : Nat) (rest : Led) (h0 : r0 < 4) (h1 : r1 < 4) (h2 : r2 < 4) (h3 : r3 < 4) (h4 : r4 < 2) (h9 : r9 < 100000) : ConK w (2 + 1) 250 ((D, listOf #[.int r0 t0, .int r1 t1, .int r2 t2, .int r3 t3, .int r4 t4, .int r5 t5, .int r6 t6, .int r7 t7, .int r8 t8, .int r9 t9] k) :: rest) [.ref D] [] (fun v led' => ∃ T u1 u2 u3 u4, v = .ref T ∧ led' = (T, tupN (madeF r0 r1 r2 r3 r4 r9) u1 u2 u3 u4) :: (D, listOf #[.int r0 t0, .int r1 t1, .int r2 t2, .int r3 t3, .int r4 t4, .int r5 t5, .int r6 t6, .int r7 t7, .int r8 t8, .int r9 t9] k) :: rest ∧ ∀ p ∈ (D, listOf #[.int r0 t0, .int r1 t1, .int r2 t2, .int r3 t3, .int r4 t4, .int r5 t5, .int r6 t6, .int r7 t7, .int r8 t8, .int r9 t9] k) :: rest, p.1 ≠ T) := by
  k_with_none
  (k_with "WStep" => with_reducible first | refine WStep.brkI ?_ | refine WStep.retI ?_)
  (k_with "FStep" => with_reducible first | refine FStep.brkI ?_ | refine FStep.retI ?_)
  (k_with "GStep" => with_reducible first | refine GStep.brkI ?_ | refine GStep.retI ?_ | refine GStep.cont ?_)
  (k_with "subscriptTail Name Constant ref int" => (with_unfolding_all (refine' itemL0 ?kwN ?kwk1 ?kwh0 ?kwhk ?kwhx ?_; (case kwN => with_reducible assumption); (case kwk1 => k_dflt (first | exact .head _ | exact .tail _ (.head _) | exact .tail _ (.tail _ (.head _))| exact .tail _ (.tail _ (.tail _ (.head _))) | exact .tail _ (.tail _ (.tail _ (.tail _ (.head _)))))); (case kwh0 => decide); (case kwhk => omega); (case kwhx => exact rfl))))
  (k_with "subscriptTail" => ((with_reducible show wpAny _ _ (subscriptTail (Expr.Tuple _ _ _) (Expr.Subscript _ _ _) (Value.ref _) (Value.int _ _)) _ _ _); k_dflt (refine kba_turn (value' := Expr.Name (Str.ofString "_") ⟨0, 0, 0, 0⟩) (fun _ => rfl) ?_); k_dflt (refine' tup_item_nat ?kwN ?kwm ?kwhi ?kwhz ?_; (case kwN => k_asm); (case kwm => exact .head _); (case kwhi => (show _ < 4; with_reducible assumption)); (case kwhz => exact (by decide : (4 : Nat) < 1000)); (intro v9 hv9; first | (obtain ⟨x9, t9, e9, q9, z9⟩ := strs_item3 hv9 rfl (by simp only [List.map, strOf]; decide +kernel); subst e9; clear hv9) | (obtain ⟨k9, t9, e9, q9, z9, y9⟩ := ints_item9 hv9 rfl (by simp only [List.mem_cons, List.not_mem_nil, or_false, forall_eq_or_imp, forall_eq, intOf]; omega); subst e9; clear hv9)))))
  (k_with "binaryOp Mult str int" => (k_dflt (refine' mulGen ?kwhx ?kwhr ?_; (case kwhx => exact Nat.le_of_ble_eq_true rfl); (case kwhr => with_reducible assumption)); intro x9 t9 tk9 q9 z9))
  (k_with "call type:str" => (k_dflt (refine' strGen ?kwa ?kwb ?_; (case kwa => with_reducible assumption); (case kwb => with_reducible assumption)); intro x9 t9 tk9 q9 z9))
  (k_with "call builtin:str.join" => (k_dflt (refine' join5 ?kwN ?kwhm ?kwhs ?kwha ?kwhb ?kwhc ?kwhd ?kwhe ?_; (case kwN => k_asm); (case kwhm => exact .head _); (case kwhs => omega); (case kwha => exact Nat.le_of_ble_eq_true rfl); (case kwhb => omega); (case kwhc => omega); (case kwhd => omega); (case kwhe => exact Nat.le_of_ble_eq_true rfl)); intro x9 t9 tk9 q9 z9))
  (k_with "call builtin:str.replace" => (k_dflt (refine' replGen ?kwhu ?kwhv ?kwhuv ?kwhyz ?kwhx ?kwhz ?kwhR ?_; (case kwhu => ((show @Ne Nat _ _); omega)); (case kwhv => ((show @Ne Nat _ _); omega)); (case kwhuv => ((show @Ne Nat _ _); omega)); (case kwhyz => decide); (case kwhx => with_reducible assumption); (case kwhz => decide); (case kwhR => (rename _ = List.getD (List.map strOf [Value.str (Str.ofString "q\"") _, _, _, _]) _ _ => qn; rw [qn]; exact repl_len _))); intro x9 t9 tk9 q9 z9))
  (k_with "binaryOp Add str str" => (k_dflt (refine' addG ?kwa ?_; (case kwa => omega)); intro x9 t9 tk9 q9 z9))
  revert h0 h1 h2 h3 h4 h9
  revert w r0 r1 r2 r3 r4 r5 r6 r7 r8 r9 t0 t1 t2 t3 t4 t5 t6 t7 t8 t9 D k rest
  refine henk13 (by repeat' first | exact has_nat | exact has_world | exact has_list | exact has_str | exact has_int | exact has_val | exact has_bool | exact has_fun has_nat | exact ⟨⟨0, 0, Str.empty, Str.empty⟩⟩ | apply has_pair) ?_
  intro w r0 r1 r2 r3 r4 r5 r6 r7 r8 r9 t0 t1
  clear_value w r0 r1 r2 r3 r4 r5 r6 r7 r8 r9 t0 t1
  refine henk11 (by repeat' first | exact has_nat | exact has_world | exact has_list | exact has_str | exact has_int | exact has_val | exact has_bool | exact has_fun has_nat | exact ⟨⟨0, 0, Str.empty, Str.empty⟩⟩ | apply has_pair) ?_
  intro t2 t3 t4 t5 t6 t7 t8 t9 D k rest
  clear_value t2 t3 t4 t5 t6 t7 t8 t9 D k rest
  intro h0 h1 h2 h3 h4 h9
  refine' conK_of_body (binds := [(Str.ofString "row", .ref D)]) ?ho ?hcd ?hb ?hloc ?h ?h1 ?h2 ?h3 ?h4
  (case ho => k_is)
  (case hcd => k_is)
  (case hb => intro s Xs; first | exact BindsTo.of_eq rfl | exact binds_K Xs rfl (by k_is) rfl rfl rfl)
  (case hloc => exact locs rfl)
  (case h1 => exact rfl)
  (case h2 => exact rfl)
  (case h3 => exact rfl)
  (case h4 => decide)
  refine henkC ?_
  intro mean mg mb dp un gd outer A₀ base g L' s
  clear_value mean mg mb dp un gd outer A₀ base g L' s
  intro B F X N T hdp hun
  ktn_open
  subst_vars
  rename Fr _ _ _ _ => lF
  rename News _ _ _ _ => lN
  rename _ ∧ _ ∧ _ ∧ _ ∧ _ ∧ _ ∧ AllLt _ _ => lq
  exact made_end (x := madeF r0 r1 r2 r3 r4 r9) lF lN (List.forall_mem_cons.mpr ⟨Nat.ne_of_lt lq.2.2.2.2.2.1, neAll_lt (ktn_ltOf lq.2.2.2.2.2.2)⟩)

theorem made_con (w : World) (r0 r1 r2 r3 r4 r5 r6 r7 r8 r9 : Nat) (t0 t1 t2 t3 t4 t5 t6 t7 t8 t9 : Tok) (D : Addr) (k : Nat) (rest : Led) (h0 : r0 < 4) (h1 : r1 < 4) (h2 : r2 < 4) (h3 : r3 < 4) (h4 : r4 < 2) (h9 : r9 < 100000) : ConK w (2 + 1) 250 ((D, listOf #[.int r0 t0, .int r1 t1, .int r2 t2, .int r3 t3, .int r4 t4, .int r5 t5, .int r6 t6, .int r7 t7, .int r8 t8, .int r9 t9] k) :: rest) [.ref D] [] (fun v led' => ∃ T u1 u2 u3 u4, v = .ref T ∧ led' = (T, tupN (madeF r0 r1 r2 r3 r4 r9) u1 u2 u3 u4) :: (D, listOf #[.int r0 t0, .int r1 t1, .int r2 t2, .int r3 t3, .int r4 t4, .int r5 t5, .int r6 t6, .int r7 t7, .int r8 t8, .int r9 t9] k) :: rest) :=
  (made_conF w r0 r1 r2 r3 r4 r5 r6 r7 r8 r9 t0 t1 t2 t3 t4 t5 t6 t7 t8 t9 D k rest h0 h1 h2 h3 h4 h9).mono fun _ _ ⟨T, u1, u2, u3, u4, e1, e2, _⟩ => ⟨T, u1, u2, u3, u4, e1, e2⟩
end
end Mine
end
section
open PySem PySem.W PyProof.Rows PySem.Spec PySem.Calls
set_option maxRecDepth 100000
set_option maxHeartbeats 8000000
namespace Mine
theorem offMH : True := by
  w_top off
  trivial
abbrev HgP (P : Params) (x : Str) : Prop := ∀ size c, Scan P x size c → c ≠ 0 → (∃ p, Tell (r229 x size) p) ∨ Refuse (r229 x size)
/-- a whole text: it is read as its news -/
structure Good (P : Params) (nw : Nw) : Prop where
  len : nw.text.length ≤ 300
  hg : HgP P nw.text
  told : ∀ k vs, ReadR P nw.text k vs → k = 2 ∧ ∃ t1 t2 t3 t4, vs = [.int nw.port t1, .int nw.code t2, .str nw.text t3, .str nw.name t4]
  pt : Plain nw.text
  pn : Plain nw.name
  pl : Plain (Txt.lower nw.name)
/-- a spoiled text: the kind that is told of it -/
structure Bad (P : Params) (x : Str) (k : Int) : Prop where
  len : x.length ≤ 300
  hg : HgP P x
  told : ∀ k' vs, ReadR P x k' vs → k' = k
  ne : k ≠ 2
theorem ConS.mono {w : World} {d : Nat} {f : Addr} {led : Led} {vs : List Value} {Ret Ret' : Value → Led → Prop} (C : ConS w d f led vs Ret) (h : ∀ v l, Ret v l → Ret' v l) : ConS w d f led vs Ret' :=
  fun mean mg mb dp un gd cn cs a ccd cl outer A₀ base h₀ L m s E B F X N T hk hdd hu XB TB D =>
    wpAny_mono (C mean mg mb dp un gd cn cs a ccd cl outer A₀ base h₀ L m s E B F X N T hk hdd hu XB TB D) (fun _ _ ⟨g, led', h', tk', e, G, F', N', r⟩ => ⟨g, led', h', tk', e, G, F', N', h _ _ r⟩) fun _ _ x => x
theorem read_good (w : World) (news : Led) (nw : Nw) (t : Tok) (g : Good w.params nw) : ConS w (5 + 1) 264 news [.str nw.text t] (fun v led' => ∃ a b u t1 t2 t3 t4, v = .ref a ∧ led' = (a, tupV [.int 2 u, .ref b]) :: (b, tupN nw t1 t2 t3 t4) :: news) :=
  (read_con w news nw.text t g.len g.hg).mono fun _ _ ⟨a, b, k, u, vs, e1, e2, r⟩ => by
    obtain ⟨rfl, t1, t2, t3, t4, rfl⟩ := g.told _ _ r
    exact ⟨a, b, u, t1, t2, t3, t4, e1, e2⟩
theorem read_bad (w : World) (news : Led) (x : Str) (k : Int) (t : Tok) (g : Bad w.params x k) : ConS w (5 + 1) 264 news [.str x t] (fun v led' => ∃ a b u vs, v = .ref a ∧ led' = (a, tupV [.int k u, .ref b]) :: (b, tupV vs) :: news) :=
  (read_con w news x t g.len g.hg).mono fun _ _ ⟨a, b, k', u, vs, e1, e2, r⟩ => by
    obtain rfl := g.told _ _ r
    exact ⟨a, b, u, vs, e1, e2⟩
abbrev prOf (x : Nw) : Str × Str := (x.name, x.text)
def lt3 (x y : Nw) : Bool := lexB scLt [.int x.port 0, .int x.code 0, .str x.text 0] [.int y.port 0, .int y.code 0, .str y.text 0]
def putF (qs : List Nw) (nw : Nw) : List Nw := (qs.filter fun q => Txt.lower q.name != Txt.lower nw.name) ++ [nw]
abbrev heldF (qs : List Nw) (nw : Nw) : Option Nw := qs.find? fun q => Txt.lower q.name == Txt.lower nw.name
def hearF (qs : List Nw) (nw : Nw) : List Nw := match heldF qs nw with
  | none => putF qs nw
  | some q => if lt3 q nw = true then putF qs nw else qs
theorem getF_of (qs : List Nw) (nw : Nw) : getF (qs.map prOf) (Txt.lower nw.name) = (heldF qs nw).map (·.text) := by
  unfold getF heldF
  rw [List.find?_map, Option.map_map]
  rfl
theorem putF_pairs (qs : List Nw) (nw : Nw) : (qs.map prOf).filter (fun p => Txt.lower p.1 != Txt.lower nw.name) ++ [prOf nw] = (putF qs nw).map prOf := by
  unfold putF
  rw [List.map_append, List.filter_map]
  rfl
theorem held_mem {qs : List Nw} {nw q : Nw} (h : heldF qs nw = some q) : q ∈ qs := List.mem_of_find?_eq_some h
/-- what a table is after a hearing -/
def HeardR (h dx l : Addr) (hs : Int) (kt : Tok) (n : Nat) (rest : Led) (qs : List Nw) (led' : Led) : Prop :=
  ∃ vs' nn' fresh, led' = tabLed h dx l hs kt n nn' vs' (fresh ++ rest) ∧ (∀ p ∈ fresh, p.2.cls = .type "tuple") ∧ Fa2 (PairAt (fresh ++ rest)) vs' (qs.map prOf) ∧ (∀ f ∈ fresh, ∀ p ∈ tabLed h dx l hs kt n 0 [] rest, p.1 ≠ f.1)
end Mine
end
section
open PySem PySem.W PyProof.Rows PySem.Spec PySem.Calls
set_option maxRecDepth 100000
set_option maxHeartbeats 8000000
namespace Mine
theorem offD14 : True := by
  w_top off
  trivial
theorem fillD14 : (PySem.Challenge.rw_wf0088_01, hd.heap_1) = (PySem.Challenge.rw_wf0088_01, hd.heap_1) := by
  k_fill
  rfl
section
theorem eq_no {prog : Program} {w : World} {A : Around} {E : Value → Shared → Prop} {s : Shared} {Q : Value → Shared → Prop} {x y : Int} {t u : Tok} (hr : x ≠ y) (h : Q (.bool false) s) : wpAny (model prog w) A (compareOp .Eq (.int x t) (.int y u)) Q E s := by
  refine eq_int ?_
  rw [show (x == y) = false by simpa using hr]
  exact h
theorem hear_bad (w : World) (h dx l : Addr) (hs : Int) (kt : Tok) (n nn : Nat) (vs : List Value) (rest : Led) (x : Str) (t : Tok) (k : Int) (hb : Bad w.params x k) : ConS w (8 + 1) 271 (tabLed h dx l hs kt n nn vs rest) [.ref h, .str x t] (fun v led' => led' = tabLed h dx l hs kt n nn vs rest ∧ ∃ u, v = .int k u) := by
  k_with_none
  (k_with "WStep" => with_reducible first | refine WStep.brkI ?_ | refine WStep.retI ?_)
  (k_with "FStep" => with_reducible first | refine FStep.brkI ?_ | refine FStep.retI ?_)
  (k_with "GStep" => with_reducible first | refine GStep.brkI ?_ | refine GStep.retI ?_ | refine GStep.cont ?_)
  (k_with "compareOp Eq int int" => (refine eq_no (by with_reducible assumption) ?_))
  (k_with "call ref" => k_dflt (refine' ConS.use (read_good _ _ _ _ ?kwhg) ?kwcB ?kwcF ?kwcX ?kwcN ?kwcT rfl ?kwcd ?kwcu ?kwcXB ?kwcTB ?kwcD ?_; (case kwcN => k_asm); (case kwcF => k_asm); (case kwcB => k_asm); (case kwcX => k_asm); (case kwcT => k_asm); (case kwcXB => k_asm); (case kwcTB => k_asm); (case kwcD => k_asm); (case kwcd => (refine dp_ok (by with_reducible assumption) ?_; k_dflt (exact rfl))); (case kwcu => (refine un_ok (by with_reducible assumption) ?_; k_dflt (exact rfl))); (case kwhg => with_reducible assumption); k_whole; intro v9 g9 led9 h9 tk9 Tn9 B9 X9 T9 D9 F9 N9 R9; obtain ⟨a9, b9, u9, t91, t92, t93, t94, e9, z9⟩ := R9; rw [z9] at N9; clear z9 led9; subst e9))
  (k_with "call ref" => k_dflt (refine' ConS.use (read_bad _ _ _ _ _ ?kwhg) ?kwcB ?kwcF ?kwcX ?kwcN ?kwcT rfl ?kwcd ?kwcu ?kwcXB ?kwcTB ?kwcD ?_; (case kwcN => k_asm); (case kwcF => k_asm); (case kwcB => k_asm); (case kwcX => k_asm); (case kwcT => k_asm); (case kwcXB => k_asm); (case kwcTB => k_asm); (case kwcD => k_asm); (case kwcd => (refine dp_ok (by with_reducible assumption) ?_; k_dflt (exact rfl))); (case kwcu => (refine un_ok (by with_reducible assumption) ?_; k_dflt (exact rfl))); (case kwhg => with_reducible assumption); k_whole; intro v9 g9 led9 h9 tk9 Tn9 B9 X9 T9 D9 F9 N9 R9; obtain ⟨a9, b9, u9, vs9, e9, z9⟩ := R9; rw [z9] at N9; clear z9 led9; subst e9))
  revert hb
  revert w h dx l hs kt n nn vs rest x t k
  refine henk13 (by repeat' first | exact has_nat | exact has_world | exact has_list | exact has_str | exact has_int | exact has_val | exact has_bool | exact has_fun has_nat | exact ⟨⟨0, 0, Str.empty, Str.empty⟩⟩ | apply has_pair) ?_
  intro w h dx l hs kt n nn vs rest x t k
  clear_value w h dx l hs kt n nn vs rest x t k
  intro hb
  refine' conS_of_body (binds := [(Str.ofString "table", .ref h), (Str.ofString "text", .str x t)]) ?ho ?hcd ?hb ?hloc ?h ?h1 ?h2 ?h3 ?h4
  (case ho => k_is)
  (case hcd => k_is)
  (case hb => exact fun s => BindsTo.of_eq rfl)
  (case hloc => exact locs rfl)
  (case h1 => exact rfl)
  (case h2 => exact rfl)
  (case h3 => exact rfl)
  (case h4 => decide)
  refine henkC ?_
  intro mean mg mb dp un gd outer A₀ base g L' s
  clear_value mean mg mb dp un gd outer A₀ base g L' s
  intro B F X N T hdp hun XB TB D hA
  have hk2 := hb.ne
  ktn_open
  dsimp only
  rename Fr _ _ _ _ => lF
  rename News _ _ _ _ => lN
  rename KtsTurn _ _ _ => lT
  refine BodyRetS.mk _ lT lF lN (fun p hp => .tail _ (.tail _ hp)) ⟨rfl, _, rfl⟩

theorem rot2 {h₀ h : Heap} {L : Addr} {x y a b c : Addr × Obj} {r : List (Addr × Obj)} (N : News h₀ L h (x :: y :: a :: b :: c :: r)) : News h₀ L h (a :: b :: c :: x :: y :: r) := fun p hp => N p (by
  simp only [List.mem_cons] at hp ⊢
  rcases hp with h | h | h | h | h | h
  · exact .inr (.inr (.inl h))
  · exact .inr (.inr (.inr (.inl h)))
  · exact .inr (.inr (.inr (.inr (.inl h))))
  · exact .inl h
  · exact .inr (.inl h)
  · exact .inr (.inr (.inr (.inr (.inr h)))))
theorem drop2 {h₀ g : Heap} {L : Addr} {h dx l : Addr} {hs : Int} {kt : Tok} {n nn : Nat} {vs : List Value} {x y : Addr × Obj} {r : Led} (N : News h₀ L g (tabLed h dx l hs kt n nn vs (x :: y :: r))) : News h₀ L g (tabLed h dx l hs kt n nn vs r) := fun p hp => N p (by
  simp only [tabLed, List.mem_cons] at hp ⊢
  rcases hp with h | h | h | h
  · exact .inl h
  · exact .inr (.inl h)
  · exact .inr (.inr (.inl h))
  · exact .inr (.inr (.inr (.inr (.inr h)))))
theorem drop6 {h₀ g : Heap} {L : Addr} {h dx l : Addr} {hs : Int} {kt : Tok} {n nn : Nat} {vs : List Value} {a b c d x y : Addr × Obj} {r : Led} (N : News h₀ L g (a :: b :: tabLed h dx l hs kt n nn vs (c :: d :: x :: y :: r))) : News h₀ L g (tabLed h dx l hs kt n nn vs r) :=
  drop2 (drop2 (fun p hp => N p (.tail _ (.tail _ hp))))
theorem heard_put {h dx l : Addr} {hs : Int} {kt : Tok} {n nn' : Nat} {rest : Led} {qs : List Nw} {nw : Nw} {vs' : List Value} {T : Addr} {t1 t2 : Tok} (e : hearF qs nw = putF qs nw) {n0 : Nat} {vs0 : List Value} (o : ∀ p ∈ tabLed h dx l hs kt n n0 vs0 rest, p.1 ≠ T) (f : Fa2 (PairAt rest) vs' ((qs.map prOf).filter fun p => Txt.lower p.1 != Txt.lower nw.name)) :
    HeardR h dx l hs kt n rest (hearF qs nw) (tabLed h dx l hs kt n nn' (vs' ++ [.ref T]) ((T, tupV [.str nw.name t1, .str nw.text t2]) :: rest)) := by
  refine ⟨_, _, [(T, tupV [.str nw.name t1, .str nw.text t2])], rfl, fun p hp => ?_, ?_, fun p hp q hq => ?_⟩
  · rw [List.mem_singleton.mp hp]
  · rw [e, ← putF_pairs]
    exact (f.mono fun _ _ => PairAt.sub fun _ h => .tail _ h).snoc ⟨T, t1, t2, rfl, .head _⟩
  · rw [List.mem_singleton.mp hp]
    rcases List.mem_cons.mp hq with rfl | hq
    · exact o _ (.head _)
    rcases List.mem_cons.mp hq with rfl | hq
    · exact o _ (.tail _ (.head _))
    rcases List.mem_cons.mp hq with rfl | hq
    · exact (show l ≠ T from o _ (.tail _ (.tail _ (.head _))))
    · exact o q (.tail _ (.tail _ (.tail _ hq)))
theorem hear_none (w : World) (h dx l : Addr) (hs : Int) (kt : Tok) (n nn : Nat) (vs : List Value) (rest : Led) (qs : List Nw) (t : Tok) (nw : Nw) (hg : Good w.params nw) (hq : ∀ q ∈ qs, Good w.params q) (hv : Fa2 (PairAt rest) vs (qs.map prOf)) (hsz : vs.length + vs.length ≤ sizeLine) (hrl : ∀ p ∈ rest, p.1 ≠ l) (hf : heldF qs nw = none) : ConS w (8 + 1) 271 (tabLed h dx l hs kt n nn vs rest) [.ref h, .str nw.text t] (fun v led' => (∃ u, v = .int 2 u) ∧ HeardR h dx l hs kt n rest (hearF qs nw) led') := by
  k_with_none
  (k_with "WStep" => with_reducible first | refine WStep.brkI ?_ | refine WStep.retI ?_)
  (k_with "FStep" => with_reducible first | refine FStep.brkI ?_ | refine FStep.retI ?_)
  (k_with "GStep" => with_reducible first | refine GStep.brkI ?_ | refine GStep.retI ?_ | refine GStep.cont ?_)
  (k_with "compareOp Eq int int" => (refine eq_no (by with_reducible assumption) ?_))
  (k_with "call ref" => k_dflt (refine' ConS.use (read_good _ _ _ _ ?kwhg) ?kwcB ?kwcF ?kwcX ?kwcN ?kwcT rfl ?kwcd ?kwcu ?kwcXB ?kwcTB ?kwcD ?_; (case kwcN => k_asm); (case kwcF => k_asm); (case kwcB => k_asm); (case kwcX => k_asm); (case kwcT => k_asm); (case kwcXB => k_asm); (case kwcTB => k_asm); (case kwcD => k_asm); (case kwcd => (refine dp_ok (by with_reducible assumption) ?_; k_dflt (exact rfl))); (case kwcu => (refine un_ok (by with_reducible assumption) ?_; k_dflt (exact rfl))); (case kwhg => with_reducible assumption); k_whole; intro v9 g9 led9 h9 tk9 Tn9 B9 X9 T9 D9 F9 N9 R9; obtain ⟨a9, b9, u9, t91, t92, t93, t94, e9, z9⟩ := R9; rw [z9] at N9; clear z9 led9; subst e9))
  (k_with "call ref" => k_dflt (refine' ConS.use (read_bad _ _ _ _ _ ?kwhg) ?kwcB ?kwcF ?kwcX ?kwcN ?kwcT rfl ?kwcd ?kwcu ?kwcXB ?kwcTB ?kwcD ?_; (case kwcN => k_asm); (case kwcF => k_asm); (case kwcB => k_asm); (case kwcX => k_asm); (case kwcT => k_asm); (case kwcXB => k_asm); (case kwcTB => k_asm); (case kwcD => k_asm); (case kwcd => (refine dp_ok (by with_reducible assumption) ?_; k_dflt (exact rfl))); (case kwcu => (refine un_ok (by with_reducible assumption) ?_; k_dflt (exact rfl))); (case kwhg => with_reducible assumption); k_whole; intro v9 g9 led9 h9 tk9 Tn9 B9 X9 T9 D9 F9 N9 R9; obtain ⟨a9, b9, u9, vs9, e9, z9⟩ := R9; rw [z9] at N9; clear z9 led9; subst e9))
  (k_with "compareOp Eq int int" => (with_reducible show wpAny _ _ (compareOp _ (Value.int 2 _) (Value.int 2 _)) _ _ _; k_dflt (refine eq_int ?_); k_dflt (with_reducible_and_instances skip)))
  (k_with "call ref" => k_dflt (refine' ConS.use (read_good _ _ _ _ ?kwhg) ?kwcB ?kwcF ?kwcX ?kwcN ?kwcT rfl ?kwcd ?kwcu ?kwcXB ?kwcTB ?kwcD ?_; (case kwcN => k_asm); (case kwcF => k_asm); (case kwcB => k_asm); (case kwcX => k_asm); (case kwcT => k_asm); (case kwcXB => k_asm); (case kwcTB => k_asm); (case kwcD => k_asm); (case kwcd => (refine dp_ok (by with_reducible assumption) ?_; k_dflt (exact rfl))); (case kwcu => (refine un_ok (by with_reducible assumption) ?_; k_dflt (exact rfl))); (case kwhg => with_reducible assumption); k_whole; intro v9 g9 led9 h9 tk9 Tn9 B9 X9 T9 D9 F9 N9 R9; obtain ⟨a9, b9, u9, t91, t92, t93, t94, e9, z9⟩ := R9; rw [z9] at N9; clear z9 led9; subst e9; first | (replace N9 := rot2 N9) | skip))
  (k_with "call ref" => k_dflt (refine' ConK.use (get_con _ _ _ _ _ _ _ _ _ _ _ _ _ ?kwhx ?kwhl ?kwhp ?kwhv) ?kwcB ?kwcF ?kwcX ?kwcN ?kwcT rfl ?kwcd ?kwcu ?_; (case kwcN => k_asm); (case kwcB => k_asm); (case kwcF => k_asm); (case kwcX => k_asm); (case kwcT => k_asm); (case kwcd => (refine dp_ok (by with_reducible assumption) ?_; k_dflt (exact rfl))); (case kwcu => (refine un_ok (by with_reducible assumption) ?_; k_dflt (exact rfl))); (case kwhx => with_reducible assumption); (case kwhl => with_reducible assumption); (case kwhp => with_reducible assumption); (case kwhv => (rename Fa2 _ _ _ => hv8; exact Fa2.mono (fun _ _ => PairAt.sub (fun _ h => .tail _ (.tail _ h))) hv8)); k_whole; intro v9 led9 h9 tk9 F9 N9 R9; obtain ⟨e9, h8⟩ := R9; rw [e9] at N9; clear e9 led9; (rename getF _ _ = _ => hgf); rw [hgf] at h8; dsimp only at h8; first | (subst h8) | (obtain ⟨t8, e8⟩ := h8; subst e8)))
  (k_with "call ref" => k_dflt ((rename News _ _ _ _ => N8); (first | (have N7 := drop6 N8) | (have N7 := drop2 N8)); clear N8; refine' ConK.use (setitem_con _ _ _ _ _ _ _ _ _ _ _ _ _ _ _ ?kwhx ?kwhy ?kwhl ?kwhp ?kwhv ?kwhz ?kwhr) ?kwcB ?kwcF ?kwcX ?kwcN ?kwcT rfl ?kwcd ?kwcu ?_; (case kwcN => exact N7); (case kwcB => k_asm); (case kwcF => k_asm); (case kwcX => k_asm); (case kwcT => k_asm); (case kwcd => (refine dp_ok (by with_reducible assumption) ?_; k_dflt (exact rfl))); (case kwcu => (refine un_ok (by with_reducible assumption) ?_; k_dflt (exact rfl))); (case kwhx => with_reducible assumption); (case kwhy => with_reducible assumption); (case kwhl => with_reducible assumption); (case kwhp => with_reducible assumption); (case kwhv => with_reducible assumption); (case kwhz => with_reducible assumption); (case kwhr => with_reducible assumption); k_whole; intro v9 led9 h9 tk9 F9 N9 R9; obtain ⟨vs8, nn8, T8, e9, o8, ⟨t81, t82, z9⟩, f8⟩ := R9; rw [z9] at N9; clear z9 led9; subst e9))
  revert hg hq hv hsz hrl hf
  revert w h dx l hs kt n nn vs rest qs t nw
  refine henk13 (by repeat' first | exact has_nat | exact has_world | exact has_list | exact has_str | exact has_int | exact has_val | exact has_bool | exact has_fun has_nat | exact ⟨⟨0, 0, Str.empty, Str.empty⟩⟩ | apply has_pair) ?_
  intro w h dx l hs kt n nn vs rest qs t nw
  clear_value w h dx l hs kt n nn vs rest qs t nw
  intro hg hq hv hsz hrl hf
  refine' conS_of_body (binds := [(Str.ofString "table", .ref h), (Str.ofString "text", .str nw.text t)]) ?ho ?hcd ?hb ?hloc ?h ?h1 ?h2 ?h3 ?h4
  (case ho => k_is)
  (case hcd => k_is)
  (case hb => exact fun s => BindsTo.of_eq rfl)
  (case hloc => exact locs rfl)
  (case h1 => exact rfl)
  (case h2 => exact rfl)
  (case h3 => exact rfl)
  (case h4 => decide)
  refine henkC ?_
  intro mean mg mb dp un gd outer A₀ base g L' s
  clear_value mean mg mb dp un gd outer A₀ base g L' s
  intro B F X N T hdp hun XB TB D hA
  have hpn := hg.pn
  have hpl := hg.pl
  have hpt := hg.pt
  have hps : ∀ p ∈ qs.map prOf, Plain p.1 := fun p hp => by
    obtain ⟨q, hq', rfl⟩ := List.mem_map.mp hp
    exact (hq q hq').pn
  have hgf : getF (qs.map prOf) (Txt.lower nw.name) = none := by rw [getF_of, hf]; rfl
  ktn_open
  dsimp only
  rename Fr _ _ _ _ => lF
  rename News _ _ _ _ => lN
  have he : hearF qs nw = putF qs nw := by unfold hearF; rw [hf]
  rename KtsTurn _ _ _ => lT
  rename Fa2 _ _ _ => lf
  (rename ∀ p ∈ tabLed _ _ _ _ _ _ _ _ _, Prod.fst p ≠ _ => lo)
  exact BodyRetS.mk _ lT lF lN (fun p hp => hp) ⟨⟨_, rfl⟩, heard_put he lo lf⟩

theorem lt_known {prog : Program} {w : World} {A : Around} {E : Value → Shared → Prop} {s : Shared} {h₀ : Heap} {L : Addr} {news : List (Addr × Obj)} {a b : Addr} {xs ys : List Value} {na nb : Nat} {Q : Value → Shared → Prop} {c : Bool} (N : News h₀ L s.heap news) (ha : (a, ({ cls := .type "tuple", data := .seq xs.toArray na } : Obj)) ∈ news)
    (hb : (b, ({ cls := .type "tuple", data := .seq ys.toArray nb } : Obj)) ∈ news) (hk : Fa2 ScK xs ys) (hu : A.units < cLine) (hc : lexB scLt xs ys = c) (h : Q (.bool c) s) : wpAny (model prog w) A (compareOp .Lt (.ref a) (.ref b)) Q E s :=
  tup_lt N ha hb hk hu (hc ▸ h)
local macro_rules | `(tactic| k_room) => `(tactic| ((try simp only [depth_under_make, depth_under_kw, depth_in1, depth_deeper, depth_caller]); (try dsimp only [ktrTop]); first | (refine lt_room (by with_reducible assumption) ?_; k_dflt (exact rfl)) | exact lt_room0 (by with_reducible assumption) | omega))
theorem hear_less (w : World) (h dx l : Addr) (hs : Int) (kt : Tok) (n nn : Nat) (vs : List Value) (rest : Led) (qs : List Nw) (t : Tok) (nw : Nw) (hg : Good w.params nw) (hq : ∀ q ∈ qs, Good w.params q) (hv : Fa2 (PairAt rest) vs (qs.map prOf)) (hsz : vs.length + vs.length ≤ sizeLine) (hrl : ∀ p ∈ rest, p.1 ≠ l) (q : Nw) (hf : heldF qs nw = some q) (hlt : lt3 q nw = true) : ConS w (8 + 1) 271 (tabLed h dx l hs kt n nn vs rest) [.ref h, .str nw.text t] (fun v led' => (∃ u, v = .int 2 u) ∧ HeardR h dx l hs kt n rest (hearF qs nw) led') := by
  k_with_none
  (k_with "WStep" => with_reducible first | refine WStep.brkI ?_ | refine WStep.retI ?_)
  (k_with "FStep" => with_reducible first | refine FStep.brkI ?_ | refine FStep.retI ?_)
  (k_with "GStep" => with_reducible first | refine GStep.brkI ?_ | refine GStep.retI ?_ | refine GStep.cont ?_)
  (k_with "compareOp Eq int int" => (refine eq_no (by with_reducible assumption) ?_))
  (k_with "call ref" => k_dflt (refine' ConS.use (read_good _ _ _ _ ?kwhg) ?kwcB ?kwcF ?kwcX ?kwcN ?kwcT rfl ?kwcd ?kwcu ?kwcXB ?kwcTB ?kwcD ?_; (case kwcN => k_asm); (case kwcF => k_asm); (case kwcB => k_asm); (case kwcX => k_asm); (case kwcT => k_asm); (case kwcXB => k_asm); (case kwcTB => k_asm); (case kwcD => k_asm); (case kwcd => (refine dp_ok (by with_reducible assumption) ?_; k_dflt (exact rfl))); (case kwcu => (refine un_ok (by with_reducible assumption) ?_; k_dflt (exact rfl))); (case kwhg => with_reducible assumption); k_whole; intro v9 g9 led9 h9 tk9 Tn9 B9 X9 T9 D9 F9 N9 R9; obtain ⟨a9, b9, u9, t91, t92, t93, t94, e9, z9⟩ := R9; rw [z9] at N9; clear z9 led9; subst e9))
  (k_with "call ref" => k_dflt (refine' ConS.use (read_bad _ _ _ _ _ ?kwhg) ?kwcB ?kwcF ?kwcX ?kwcN ?kwcT rfl ?kwcd ?kwcu ?kwcXB ?kwcTB ?kwcD ?_; (case kwcN => k_asm); (case kwcF => k_asm); (case kwcB => k_asm); (case kwcX => k_asm); (case kwcT => k_asm); (case kwcXB => k_asm); (case kwcTB => k_asm); (case kwcD => k_asm); (case kwcd => (refine dp_ok (by with_reducible assumption) ?_; k_dflt (exact rfl))); (case kwcu => (refine un_ok (by with_reducible assumption) ?_; k_dflt (exact rfl))); (case kwhg => with_reducible assumption); k_whole; intro v9 g9 led9 h9 tk9 Tn9 B9 X9 T9 D9 F9 N9 R9; obtain ⟨a9, b9, u9, vs9, e9, z9⟩ := R9; rw [z9] at N9; clear z9 led9; subst e9))
  (k_with "compareOp Eq int int" => (with_reducible show wpAny _ _ (compareOp _ (Value.int 2 _) (Value.int 2 _)) _ _ _; k_dflt (refine eq_int ?_); k_dflt (with_reducible_and_instances skip)))
  (k_with "call ref" => k_dflt (refine' ConS.use (read_good _ _ _ _ ?kwhg) ?kwcB ?kwcF ?kwcX ?kwcN ?kwcT rfl ?kwcd ?kwcu ?kwcXB ?kwcTB ?kwcD ?_; (case kwcN => k_asm); (case kwcF => k_asm); (case kwcB => k_asm); (case kwcX => k_asm); (case kwcT => k_asm); (case kwcXB => k_asm); (case kwcTB => k_asm); (case kwcD => k_asm); (case kwcd => (refine dp_ok (by with_reducible assumption) ?_; k_dflt (exact rfl))); (case kwcu => (refine un_ok (by with_reducible assumption) ?_; k_dflt (exact rfl))); (case kwhg => with_reducible assumption); k_whole; intro v9 g9 led9 h9 tk9 Tn9 B9 X9 T9 D9 F9 N9 R9; obtain ⟨a9, b9, u9, t91, t92, t93, t94, e9, z9⟩ := R9; rw [z9] at N9; clear z9 led9; subst e9; first | (replace N9 := rot2 N9) | skip))
  (k_with "call ref" => k_dflt (refine' ConK.use (get_con _ _ _ _ _ _ _ _ _ _ _ _ _ ?kwhx ?kwhl ?kwhp ?kwhv) ?kwcB ?kwcF ?kwcX ?kwcN ?kwcT rfl ?kwcd ?kwcu ?_; (case kwcN => k_asm); (case kwcB => k_asm); (case kwcF => k_asm); (case kwcX => k_asm); (case kwcT => k_asm); (case kwcd => (refine dp_ok (by with_reducible assumption) ?_; k_dflt (exact rfl))); (case kwcu => (refine un_ok (by with_reducible assumption) ?_; k_dflt (exact rfl))); (case kwhx => with_reducible assumption); (case kwhl => with_reducible assumption); (case kwhp => with_reducible assumption); (case kwhv => (rename Fa2 _ _ _ => hv8; exact Fa2.mono (fun _ _ => PairAt.sub (fun _ h => .tail _ (.tail _ h))) hv8)); k_whole; intro v9 led9 h9 tk9 F9 N9 R9; obtain ⟨e9, h8⟩ := R9; rw [e9] at N9; clear e9 led9; (rename getF _ _ = _ => hgf); rw [hgf] at h8; dsimp only at h8; first | (subst h8) | (obtain ⟨t8, e8⟩ := h8; subst e8)))
  (k_with "call ref" => k_dflt ((rename News _ _ _ _ => N8); (first | (have N7 := drop6 N8) | (have N7 := drop2 N8)); clear N8; refine' ConK.use (setitem_con _ _ _ _ _ _ _ _ _ _ _ _ _ _ _ ?kwhx ?kwhy ?kwhl ?kwhp ?kwhv ?kwhz ?kwhr) ?kwcB ?kwcF ?kwcX ?kwcN ?kwcT rfl ?kwcd ?kwcu ?_; (case kwcN => exact N7); (case kwcB => k_asm); (case kwcF => k_asm); (case kwcX => k_asm); (case kwcT => k_asm); (case kwcd => (refine dp_ok (by with_reducible assumption) ?_; k_dflt (exact rfl))); (case kwcu => (refine un_ok (by with_reducible assumption) ?_; k_dflt (exact rfl))); (case kwhx => with_reducible assumption); (case kwhy => with_reducible assumption); (case kwhl => with_reducible assumption); (case kwhp => with_reducible assumption); (case kwhv => with_reducible assumption); (case kwhz => with_reducible assumption); (case kwhr => with_reducible assumption); k_whole; intro v9 led9 h9 tk9 F9 N9 R9; obtain ⟨vs8, nn8, T8, e9, o8, ⟨t81, t82, z9⟩, f8⟩ := R9; rw [z9] at N9; clear z9 led9; subst e9))
  (k_with "subscriptTail Name Slice ref ref" => (k_dflt (refine' tup_to3 ?kwF ?kwN ?kwhm ?_; (case kwF => k_asm); (case kwN => k_asm); (case kwhm => first | exact .head _ | exact .tail _ (.head _) | exact .tail _ (.tail _ (.tail _ (.tail _ (.head _)))) | exact .tail _ (.tail _ (.tail _ (.tail _ (.tail _ (.head _))))) | exact .tail _ (.tail _ (.tail _ (.tail _ (.tail _ (.tail _ (.head _)))))) | exact .tail _ (.tail _ (.tail _ (.tail _ (.tail _ (.tail _ (.tail _ (.head _)))))))));  intro D9 h9 F9 N9))
  (k_with "compareOp Lt ref ref" => (k_dflt (refine' lt_known ?kwN ?kwa ?kwb ?kwk ?kwu ?kwc ?_; (case kwN => k_asm); (case kwa => exact .tail _ (.head _)); (case kwb => exact .head _); (case kwk => exact .cons (.int _ _ _ _) (.cons (.int _ _ _ _) (.cons (.str _ _ _ _) .nil))); (case kwu => (show _ < _; dsimp only [ktrTop]; (first | (refine lt_room (by with_reducible assumption) ?_; k_dflt (exact rfl)) | exact lt_room0 (by with_reducible assumption) | omega))); (case kwc => (rename lt3 _ _ = _ => hl; exact hl)))))
  revert hg hq hv hsz hrl hf hlt
  revert w h dx l hs kt n nn vs rest qs t nw q
  refine henk14 (by repeat' first | exact has_nat | exact has_world | exact has_list | exact has_str | exact has_int | exact has_val | exact has_bool | exact has_fun has_nat | exact ⟨⟨0, 0, Str.empty, Str.empty⟩⟩ | apply has_pair) ?_
  intro w h dx l hs kt n nn vs rest qs t nw q
  clear_value w h dx l hs kt n nn vs rest qs t nw q
  intro hg hq hv hsz hrl hf hlt
  refine' conS_of_body (binds := [(Str.ofString "table", .ref h), (Str.ofString "text", .str nw.text t)]) ?ho ?hcd ?hb ?hloc ?h ?h1 ?h2 ?h3 ?h4
  (case ho => k_is)
  (case hcd => k_is)
  (case hb => exact fun s => BindsTo.of_eq rfl)
  (case hloc => exact locs rfl)
  (case h1 => exact rfl)
  (case h2 => exact rfl)
  (case h3 => exact rfl)
  (case h4 => decide)
  refine henkC ?_
  intro mean mg mb dp un gd outer A₀ base g L' s
  clear_value mean mg mb dp un gd outer A₀ base g L' s
  intro B F X N T hdp hun XB TB D hA
  have hgq := hq q (held_mem hf)
  have hpn := hg.pn
  have hpl := hg.pl
  have hpt := hg.pt
  have hps : ∀ p ∈ qs.map prOf, Plain p.1 := fun p hp => by
    obtain ⟨q, hq', rfl⟩ := List.mem_map.mp hp
    exact (hq q hq').pn
  have hgf : getF (qs.map prOf) (Txt.lower nw.name) = some q.text := by rw [getF_of, hf]; rfl
  ktn_open
  dsimp only
  rename Fr _ _ _ _ => lF
  rename News _ _ _ _ => lN
  have he : hearF qs nw = putF qs nw := by unfold hearF; rw [hf]; exact if_pos hlt
  rename KtsTurn _ _ _ => lT
  rename KtsTurn _ g _ => lT0
  rename Fa2 _ _ _ => lf
  (rename ∀ p ∈ tabLed _ _ _ _ _ _ _ _ _, Prod.fst p ≠ _ => lo)
  exact BodyRetS.mk _ (KtsTurn.trans lT0 lT) lF lN (fun p hp => hp) ⟨⟨_, rfl⟩, heard_put he lo lf⟩

theorem hear_keep (w : World) (h dx l : Addr) (hs : Int) (kt : Tok) (n nn : Nat) (vs : List Value) (rest : Led) (qs : List Nw) (t : Tok) (nw : Nw) (hg : Good w.params nw) (hq : ∀ q ∈ qs, Good w.params q) (hv : Fa2 (PairAt rest) vs (qs.map prOf)) (hsz : vs.length + vs.length ≤ sizeLine) (hrl : ∀ p ∈ rest, p.1 ≠ l) (q : Nw) (hf : heldF qs nw = some q) (hlt : lt3 q nw = false) : ConS w (8 + 1) 271 (tabLed h dx l hs kt n nn vs rest) [.ref h, .str nw.text t] (fun v led' => (∃ u, v = .int 2 u) ∧ HeardR h dx l hs kt n rest (hearF qs nw) led') := by
  k_with_none
  (k_with "WStep" => with_reducible first | refine WStep.brkI ?_ | refine WStep.retI ?_)
  (k_with "FStep" => with_reducible first | refine FStep.brkI ?_ | refine FStep.retI ?_)
  (k_with "GStep" => with_reducible first | refine GStep.brkI ?_ | refine GStep.retI ?_ | refine GStep.cont ?_)
  (k_with "compareOp Eq int int" => (refine eq_no (by with_reducible assumption) ?_))
  (k_with "call ref" => k_dflt (refine' ConS.use (read_good _ _ _ _ ?kwhg) ?kwcB ?kwcF ?kwcX ?kwcN ?kwcT rfl ?kwcd ?kwcu ?kwcXB ?kwcTB ?kwcD ?_; (case kwcN => k_asm); (case kwcF => k_asm); (case kwcB => k_asm); (case kwcX => k_asm); (case kwcT => k_asm); (case kwcXB => k_asm); (case kwcTB => k_asm); (case kwcD => k_asm); (case kwcd => (refine dp_ok (by with_reducible assumption) ?_; k_dflt (exact rfl))); (case kwcu => (refine un_ok (by with_reducible assumption) ?_; k_dflt (exact rfl))); (case kwhg => with_reducible assumption); k_whole; intro v9 g9 led9 h9 tk9 Tn9 B9 X9 T9 D9 F9 N9 R9; obtain ⟨a9, b9, u9, t91, t92, t93, t94, e9, z9⟩ := R9; rw [z9] at N9; clear z9 led9; subst e9))
  (k_with "call ref" => k_dflt (refine' ConS.use (read_bad _ _ _ _ _ ?kwhg) ?kwcB ?kwcF ?kwcX ?kwcN ?kwcT rfl ?kwcd ?kwcu ?kwcXB ?kwcTB ?kwcD ?_; (case kwcN => k_asm); (case kwcF => k_asm); (case kwcB => k_asm); (case kwcX => k_asm); (case kwcT => k_asm); (case kwcXB => k_asm); (case kwcTB => k_asm); (case kwcD => k_asm); (case kwcd => (refine dp_ok (by with_reducible assumption) ?_; k_dflt (exact rfl))); (case kwcu => (refine un_ok (by with_reducible assumption) ?_; k_dflt (exact rfl))); (case kwhg => with_reducible assumption); k_whole; intro v9 g9 led9 h9 tk9 Tn9 B9 X9 T9 D9 F9 N9 R9; obtain ⟨a9, b9, u9, vs9, e9, z9⟩ := R9; rw [z9] at N9; clear z9 led9; subst e9))
  (k_with "compareOp Eq int int" => (with_reducible show wpAny _ _ (compareOp _ (Value.int 2 _) (Value.int 2 _)) _ _ _; k_dflt (refine eq_int ?_); k_dflt (with_reducible_and_instances skip)))
  (k_with "call ref" => k_dflt (refine' ConS.use (read_good _ _ _ _ ?kwhg) ?kwcB ?kwcF ?kwcX ?kwcN ?kwcT rfl ?kwcd ?kwcu ?kwcXB ?kwcTB ?kwcD ?_; (case kwcN => k_asm); (case kwcF => k_asm); (case kwcB => k_asm); (case kwcX => k_asm); (case kwcT => k_asm); (case kwcXB => k_asm); (case kwcTB => k_asm); (case kwcD => k_asm); (case kwcd => (refine dp_ok (by with_reducible assumption) ?_; k_dflt (exact rfl))); (case kwcu => (refine un_ok (by with_reducible assumption) ?_; k_dflt (exact rfl))); (case kwhg => with_reducible assumption); k_whole; intro v9 g9 led9 h9 tk9 Tn9 B9 X9 T9 D9 F9 N9 R9; obtain ⟨a9, b9, u9, t91, t92, t93, t94, e9, z9⟩ := R9; rw [z9] at N9; clear z9 led9; subst e9; first | (replace N9 := rot2 N9) | skip))
  (k_with "call ref" => k_dflt (refine' ConK.use (get_con _ _ _ _ _ _ _ _ _ _ _ _ _ ?kwhx ?kwhl ?kwhp ?kwhv) ?kwcB ?kwcF ?kwcX ?kwcN ?kwcT rfl ?kwcd ?kwcu ?_; (case kwcN => k_asm); (case kwcB => k_asm); (case kwcF => k_asm); (case kwcX => k_asm); (case kwcT => k_asm); (case kwcd => (refine dp_ok (by with_reducible assumption) ?_; k_dflt (exact rfl))); (case kwcu => (refine un_ok (by with_reducible assumption) ?_; k_dflt (exact rfl))); (case kwhx => with_reducible assumption); (case kwhl => with_reducible assumption); (case kwhp => with_reducible assumption); (case kwhv => (rename Fa2 _ _ _ => hv8; exact Fa2.mono (fun _ _ => PairAt.sub (fun _ h => .tail _ (.tail _ h))) hv8)); k_whole; intro v9 led9 h9 tk9 F9 N9 R9; obtain ⟨e9, h8⟩ := R9; rw [e9] at N9; clear e9 led9; (rename getF _ _ = _ => hgf); rw [hgf] at h8; dsimp only at h8; first | (subst h8) | (obtain ⟨t8, e8⟩ := h8; subst e8)))
  (k_with "call ref" => k_dflt ((rename News _ _ _ _ => N8); (first | (have N7 := drop6 N8) | (have N7 := drop2 N8)); clear N8; refine' ConK.use (setitem_con _ _ _ _ _ _ _ _ _ _ _ _ _ _ _ ?kwhx ?kwhy ?kwhl ?kwhp ?kwhv ?kwhz ?kwhr) ?kwcB ?kwcF ?kwcX ?kwcN ?kwcT rfl ?kwcd ?kwcu ?_; (case kwcN => exact N7); (case kwcB => k_asm); (case kwcF => k_asm); (case kwcX => k_asm); (case kwcT => k_asm); (case kwcd => (refine dp_ok (by with_reducible assumption) ?_; k_dflt (exact rfl))); (case kwcu => (refine un_ok (by with_reducible assumption) ?_; k_dflt (exact rfl))); (case kwhx => with_reducible assumption); (case kwhy => with_reducible assumption); (case kwhl => with_reducible assumption); (case kwhp => with_reducible assumption); (case kwhv => with_reducible assumption); (case kwhz => with_reducible assumption); (case kwhr => with_reducible assumption); k_whole; intro v9 led9 h9 tk9 F9 N9 R9; obtain ⟨vs8, nn8, T8, e9, o8, ⟨t81, t82, z9⟩, f8⟩ := R9; rw [z9] at N9; clear z9 led9; subst e9))
  (k_with "subscriptTail Name Slice ref ref" => (k_dflt (refine' tup_to3 ?kwF ?kwN ?kwhm ?_; (case kwF => k_asm); (case kwN => k_asm); (case kwhm => first | exact .head _ | exact .tail _ (.head _) | exact .tail _ (.tail _ (.tail _ (.tail _ (.head _)))) | exact .tail _ (.tail _ (.tail _ (.tail _ (.tail _ (.head _))))) | exact .tail _ (.tail _ (.tail _ (.tail _ (.tail _ (.tail _ (.head _)))))) | exact .tail _ (.tail _ (.tail _ (.tail _ (.tail _ (.tail _ (.tail _ (.head _)))))))));  intro D9 h9 F9 N9))
  (k_with "compareOp Lt ref ref" => (k_dflt (refine' lt_known ?kwN ?kwa ?kwb ?kwk ?kwu ?kwc ?_; (case kwN => k_asm); (case kwa => exact .tail _ (.head _)); (case kwb => exact .head _); (case kwk => exact .cons (.int _ _ _ _) (.cons (.int _ _ _ _) (.cons (.str _ _ _ _) .nil))); (case kwu => (show _ < _; dsimp only [ktrTop]; (first | (refine lt_room (by with_reducible assumption) ?_; k_dflt (exact rfl)) | exact lt_room0 (by with_reducible assumption) | omega))); (case kwc => (rename lt3 _ _ = _ => hl; exact hl)))))
  revert hg hq hv hsz hrl hf hlt
  revert w h dx l hs kt n nn vs rest qs t nw q
  refine henk14 (by repeat' first | exact has_nat | exact has_world | exact has_list | exact has_str | exact has_int | exact has_val | exact has_bool | exact has_fun has_nat | exact ⟨⟨0, 0, Str.empty, Str.empty⟩⟩ | apply has_pair) ?_
  intro w h dx l hs kt n nn vs rest qs t nw q
  clear_value w h dx l hs kt n nn vs rest qs t nw q
  intro hg hq hv hsz hrl hf hlt
  refine' conS_of_body (binds := [(Str.ofString "table", .ref h), (Str.ofString "text", .str nw.text t)]) ?ho ?hcd ?hb ?hloc ?h ?h1 ?h2 ?h3 ?h4
  (case ho => k_is)
  (case hcd => k_is)
  (case hb => exact fun s => BindsTo.of_eq rfl)
  (case hloc => exact locs rfl)
  (case h1 => exact rfl)
  (case h2 => exact rfl)
  (case h3 => exact rfl)
  (case h4 => decide)
  refine henkC ?_
  intro mean mg mb dp un gd outer A₀ base g L' s
  clear_value mean mg mb dp un gd outer A₀ base g L' s
  intro B F X N T hdp hun XB TB D hA
  have hgq := hq q (held_mem hf)
  have hpn := hg.pn
  have hpl := hg.pl
  have hpt := hg.pt
  have hps : ∀ p ∈ qs.map prOf, Plain p.1 := fun p hp => by
    obtain ⟨q, hq', rfl⟩ := List.mem_map.mp hp
    exact (hq q hq').pn
  have hgf : getF (qs.map prOf) (Txt.lower nw.name) = some q.text := by rw [getF_of, hf]; rfl
  ktn_open
  dsimp only
  rename Fr _ _ _ _ => lF
  rename News _ _ _ _ => lN
  have he : hearF qs nw = qs := by unfold hearF; rw [hf]; exact if_neg (by rw [hlt]; decide)
  rename KtsTurn _ _ _ => lT
  rename KtsTurn _ g _ => lT0
  refine BodyRetS.mk _ (KtsTurn.trans lT0 lT) lF (drop6 lN) (fun p hp => hp) ⟨⟨_, rfl⟩, ?_⟩
  exact ⟨vs, nn, [], rfl, (fun _ h => nomatch h), by rw [he]; exact hv, (fun _ h => nomatch h)⟩

theorem hear_con (w : World) (h dx l : Addr) (hs : Int) (kt : Tok) (n nn : Nat) (vs : List Value) (rest : Led) (qs : List Nw) (t : Tok) (nw : Nw) (hg : Good w.params nw) (hq : ∀ q ∈ qs, Good w.params q) (hv : Fa2 (PairAt rest) vs (qs.map prOf)) (hsz : vs.length + vs.length ≤ sizeLine) (hrl : ∀ p ∈ rest, p.1 ≠ l) : ConS w (8 + 1) 271 (tabLed h dx l hs kt n nn vs rest) [.ref h, .str nw.text t] (fun v led' => (∃ u, v = .int 2 u) ∧ HeardR h dx l hs kt n rest (hearF qs nw) led') := by
  cases hf : heldF qs nw with
  | none => exact hear_none w h dx l hs kt n nn vs rest qs t nw hg hq hv hsz hrl hf
  | some q =>
    cases hlt : lt3 q nw with
    | true => exact hear_less w h dx l hs kt n nn vs rest qs t nw hg hq hv hsz hrl q hf hlt
    | false => exact hear_keep w h dx l hs kt n nn vs rest qs t nw hg hq hv hsz hrl q hf hlt
end
end Mine
end
section
open PySem PySem.W PyProof.Rows PySem.Spec PySem.Calls
set_option maxRecDepth 100000
set_option maxHeartbeats 8000000
namespace Mine
theorem offD15 : True := by
  w_top off
  trivial
theorem fillD15 : (PySem.Challenge.rw_wf0088_01, hd.heap_1) = (PySem.Challenge.rw_wf0088_01, hd.heap_1) := by
  k_fill
  rfl
section
local macro_rules | `(tactic| k_ne) => `(tactic| first | assumption | (apply Ne.symm; assumption))
theorem three_item {a b c : Tok} {i : Nat} {v : Value} (h : [Value.str (Str.ofString "q\"") a, Value.str (Str.ofString "\"\"") b, Value.str (Str.ofString "r") c][i]? = some v) : ∃ f t, v = .str f t ∧ three[i]? = some f ∧ f.length ≤ 3 ∧ Plain f := by
  have hp : ∀ f ∈ three, f.length ≤ 3 ∧ Plain f := by
    intro f hf
    have e : (three.all fun f => decide (f.length ≤ 3) && f.cps.toList.all (fun c => decide (32 ≤ c) && decide (c ≤ 126))) = true := by decide +kernel
    have := List.all_eq_true.mp e f hf
    simp only [Bool.and_eq_true, decide_eq_true_eq, List.all_eq_true] at this
    exact ⟨this.1, this.2, by omega⟩
  match i with
  | 0 => cases h; exact ⟨_, _, rfl, rfl, hp _ (.head _)⟩
  | 1 => cases h; exact ⟨_, _, rfl, rfl, hp _ (.tail _ (.head _))⟩
  | 2 => cases h; exact ⟨_, _, rfl, rfl, hp _ (.tail _ (.tail _ (.head _)))⟩
  | n + 3 => simp at h
theorem cell_ne {h₀ h : Heap} {L : Addr} {led : Led} {p c : Addr} {cls : Value} {vs : Array Value} {n : Nat} {oc : Obj} {x : Option Value} (N : News h₀ L h led) (hp : (p, ({ cls := cls, data := .seq vs n } : Obj)) ∈ led) (hc : (c, oc) ∈ led) (hd : oc.data = .cell x) : p ≠ c := fun e => by
  have z1 := (N _ hp).1
  have z2 := (N _ hc).1
  dsimp only at z1 z2
  rw [e, z2] at z1
  cases Option.some.inj z1
  cases hd
theorem tup_ne {h₀ h : Heap} {L : Addr} {led : Led} {p : Addr × Obj} {l : Addr} {vs : Array Value} {n : Nat} (N : News h₀ L h led) (hp : p ∈ led) (hc : p.2.cls = .type "tuple") (hl : (l, listOf vs n) ∈ led) : p.1 ≠ l := fun e => by
  have z1 := (N _ hp).1
  have z2 := (N _ hl).1
  dsimp only at z2
  rw [e, z2] at z1
  rw [← Option.some.inj z1] at hc
  exact absurd (Value.type.inj hc) (by decide)
theorem take_more {α : Type} {l : List α} {i : Nat} {a : α} (h : l[i]? = some a) : l.take (i + 1) = l.take i ++ [a] := by
  rw [List.take_add_one, h]; rfl
theorem bestL_more {nws : List Nw} {i : Nat} {f : Str} (h : three[i]? = some f) : bestL nws (three.take (i + 1)) = bestL nws (three.take i) ++ bestOne nws f := by
  rw [take_more h]
  unfold bestL
  rw [List.flatMap_append]
  simp
theorem bestOne_none {nws : List Nw} {f : Str} (h : (nws.filter fun x => Txt.lower x.name == f) = []) : bestOne nws f = [] := by
  unfold bestOne
  rw [h]; rfl
theorem bestOne_some {nws : List Nw} {f : Str} {x : Nw} (h : maxAt (nws.filter fun x => Txt.lower x.name == f) = some x) : bestOne nws f = [(x.name, x.text)] := by
  unfold bestOne
  rw [h]; rfl
theorem bestOne_mem {nws : List Nw} {f : Str} {p : Str × Str} (h : p ∈ bestOne nws f) : ∃ x ∈ nws, Txt.lower x.name = f ∧ p = (x.name, x.text) := by
  unfold bestOne at h
  cases hm : maxAt (nws.filter fun x => Txt.lower x.name == f) with
  | none => rw [hm] at h; cases h
  | some x =>
    rw [hm] at h
    have hx := List.mem_filter.mp (List.mem_of_getElem? hm)
    refine ⟨x, hx.1, by simpa using hx.2, ?_⟩
    simpa using h
theorem bestOne_len (nws : List Nw) (f : Str) : (bestOne nws f).length ≤ 1 := by
  unfold bestOne
  cases maxAt (nws.filter fun x => Txt.lower x.name == f) <;> simp
theorem bestL_le (nws : List Nw) : ∀ fs : List Str, (bestL nws fs).length ≤ fs.length
  | [] => Nat.le_refl _
  | f :: fs => by
    have h1 := bestOne_len nws f
    have h2 := bestL_le nws fs
    show (bestOne nws f ++ bestL nws fs).length ≤ fs.length + 1
    rw [List.length_append]
    omega
theorem bestL_three (nws : List Nw) : bestL nws three = bestOne nws (Str.ofString "q\"") ++ (bestOne nws (Str.ofString "\"\"") ++ bestOne nws (Str.ofString "r")) := by
  unfold bestL three
  simp
theorem bestL_len (nws : List Nw) : (bestL nws three).length ≤ 3 := by
  rw [bestL_three]
  have h1 := bestOne_len nws (Str.ofString "q\"")
  have h2 := bestOne_len nws (Str.ofString "\"\"")
  have h3 := bestOne_len nws (Str.ofString "r")
  simp only [List.length_append]
  omega
theorem one_apart (nws : List Nw) (f : Str) : (bestOne nws f).Pairwise fun p q => p.1 ≠ q.1 := by
  have h := bestOne_len nws f
  match bestOne nws f, h with
  | [], _ => exact .nil
  | [a], _ => exact List.pairwise_singleton _ _
theorem two_apart {nws : List Nw} {f g : Str} (h : f ≠ g) : ∀ p ∈ bestOne nws f, ∀ q ∈ bestOne nws g, p.1 ≠ q.1 := fun p hp q hq e => by
  obtain ⟨x, _, hx, rfl⟩ := bestOne_mem hp
  obtain ⟨y, _, hy, rfl⟩ := bestOne_mem hq
  dsimp only at e
  rw [e, hy] at hx
  exact h hx.symm
theorem bestL_apart (nws : List Nw) : (bestL nws three).Pairwise fun p q => p.1 ≠ q.1 := by
  rw [bestL_three]
  refine List.pairwise_append.mpr ⟨one_apart _ _, List.pairwise_append.mpr ⟨one_apart _ _, one_apart _ _, two_apart (by decide)⟩, fun p hp q hq => ?_⟩
  rcases List.mem_append.mp hq with hq | hq
  · exact two_apart (by decide) p hp q hq
  · exact two_apart (by decide) p hp q hq
def BJ (k : Addr) (nn : Nat) (vs : List Value) (rest : Led) (nws : List Nw) (L' lb T : Addr) (oT : Obj) (i : Nat) (m : Str → Option Value) (nx : Led) : Prop :=
  ∃ ys c oc fresh x, nx = (T, oT) :: (lb, listOf (List.toArray ys) c) :: (L' + 1, oc) :: (k, listOf vs.toArray nn) :: (fresh ++ rest) ∧ Fa2 (PairAt fresh) ys (bestL nws (three.take i)) ∧ ys.length ≤ 3 ∧ (∀ p ∈ fresh, p.2.cls = .type "tuple") ∧ (∀ p ∈ fresh, p.1 ≠ L' + 1) ∧ oc.data = .cell x ∧ m (Str.ofString "best") = some (.ref lb) ∧ m (Str.ofString "known") = some (.ref k)
theorem best_con (w : World) (k : Addr) (nn : Nat) (vs : List Value) (rest : Led) (nws : List Nw) (hv : Fa2 (NwAt rest) vs nws) (hp : ∀ x ∈ nws, Plain x.text ∧ Plain x.name ∧ Plain (Txt.lower x.name)) (hsz : vs.length + vs.length ≤ sizeLine) : ConK w (8 + 1) 276 ((k, listOf vs.toArray nn) :: rest) [.ref k] [] (fun v led' => ∃ D c vs' ps' fresh, v = .ref D ∧ led' = (D, listOf (List.toArray vs') c) :: (k, listOf vs.toArray nn) :: (fresh ++ rest) ∧ Fa2 (PairAt fresh) vs' ps' ∧ (∀ p ∈ fresh, p.2.cls = .type "tuple") ∧ (∀ p ∈ (k, listOf vs.toArray nn) :: rest, p.1 ≠ D) ∧ ps'.Perm (bestL nws three) ∧ ps'.Pairwise (fun a b => ltP a b = true)) := by
  k_with_none
  (k_with "WStep" => with_reducible first | refine WStep.brkI ?_ | refine WStep.retI ?_)
  (k_with "FStep" => with_reducible first | refine FStep.brkI ?_ | refine FStep.retI ?_)
  (k_with "GStep" => with_reducible first | refine GStep.brkI ?_ | refine GStep.retI ?_ | refine GStep.cont ?_)
  (k_with "exec Assign cons ListComp" => (k_here; k_dflt (refine comp_startA (by with_unfolding_all rfl) (by with_unfolding_all rfl) (by rfl) (by decide) ?_)))
  (k_with "exec For Name Tuple cons nil" => k_dflt (refine for_start ?_))
  (k_with "eval Name" => ((with_reducible show wpAny _ _ (eval (Expr.Name _ _) (compEnvC _ _ _ _)) _ _ _); k_here; k_dflt (refine LCgL.ld_own ?kwN ?kwm ?kwc ?kwx ?_; (case kwN => k_asm); (case kwm => k_mem); (case kwc => k_asm); (case kwx => k_asm))))
  (k_with "call builtin:str.lower" => k_dflt (refine' SCL.lower ?kwk1 ?_; (case kwk1 => exact Plain.le5 (by with_reducible assumption)); intro _))
  (k_with "getMethod str" => ((with_reducible show wpAny _ _ (getMethod (Value.str _ _) (PySem.Str.ofString "lower") _) _ _ _); k_dflt (refine' GM.lower ?_)))
  (k_with "call builtin:sorted" => refine Hold.of ?_)
  (k_with "compareOp NotEq ref ref" => (k_dflt (refine' ne_empty9 ?kwN ?kwa ?kwb ?kwu ?kwp ?kwA ?kwc ?_; (case kwc => with_reducible assumption); (case kwN => k_asm); (case kwa => exact .tail _ (.head _)); (case kwb => exact .head _); (case kwu => (rename Fa2 (NwAt _) _ _ => hz9; exact hz9.mono (fun _ _ => NwAt.sub (fun _ h => .tail _ (.tail _ (.tail _ (.tail _ h))))))); (case kwp => with_reducible assumption); (case kwA => (show _ + 64 < _; dsimp only [ktrTop]; (first | (refine lt_room (by with_reducible assumption) ?_; k_dflt (exact rfl)) | exact lt_room0 (by with_reducible assumption) | omega)))); skip))
  (k_with "call builtin:max" => (k_dflt (refine' max_nws ?kwhh ?kwF ?kwN ?kwm ?kwu ?kwne ?kwA ?_; (case kwhh => exact rfl); (case kwF => k_asm); (case kwN => k_asm); (case kwm => exact .tail _ (.head _)); (case kwu => (rename Fa2 (NwAt _) _ _ => hz9; exact hz9.mono (fun _ _ => NwAt.sub (fun _ h => .tail _ (.tail _ (.tail _ (.tail _ h))))))); (case kwne => with_reducible assumption); (case kwA => (show _ + 64 < _; dsimp only [ktrTop]; (first | (refine lt_room (by with_reducible assumption) ?_; k_dflt (exact rfl)) | exact lt_room0 (by with_reducible assumption) | omega)))); intro a9 x9 t91 t92 t93 t94 h9 tk9 hx9 hm9 F9 N9; replace N9 := news_front N9 hm9))
  revert hv hp hsz
  revert w k nn vs rest nws
  refine henk6 (by repeat' first | exact has_nat | exact has_world | exact has_list | exact has_str | exact has_int | exact has_val | exact has_bool | exact has_fun has_nat | exact ⟨⟨0, 0, Str.empty, Str.empty⟩⟩ | apply has_pair) ?_
  intro w k nn vs rest nws
  clear_value w k nn vs rest nws
  intro hv hp hsz
  refine' conK_of_bodyC (binds := [(Str.ofString "known", .ref k)]) ?ho ?hcd ?hb ?hkind ?hnd ?h ?h1 ?h2 ?h3
  (case ho => k_is)
  (case hcd => k_is)
  (case hb => intro s Xs; first | exact BindsTo.of_eq rfl | exact binds_K Xs rfl (by k_is) rfl rfl rfl)
  (case hkind => exact rfl)
  (case hnd => decide +kernel)
  (case h1 => exact rfl)
  (case h2 => exact rfl)
  (case h3 => exact rfl)
  refine henkC ?_
  intro mean mg mb dp un gd outer A₀ base g L' s
  clear_value mean mg mb dp un gd outer A₀ base g L' s
  intro cells B F X N T hdp hun Y hlt
  k_cells Y
  (try simp only [List.cons_append, List.nil_append] at N)
  (try dsimp only)
  have hoffL : ∀ p ∈ (k, listOf vs.toArray nn) :: rest, p.1 ≠ L' + 1 := fun p hp => Nat.ne_of_lt (Nat.lt_succ_of_lt (hlt p hp))
  ktn_open
  (rename Fr _ _ _ _ => lF)
  (rename News _ _ _ _ => lN)
  refine Hold.out ?_
  rename Obj => oc
  (rename Obj.data _ = _ => hoc)
  rename_i la ha1 lq1 ha2 Tt ha3 lq2
  generalize hoT : tupV [.str (Str.ofString "q\"") tk, .str (Str.ofString "\"\"") (tk + 1), .str (Str.ofString "r") (tk + 1 + 1)] = oT
  have hTd : ∃ us, oT = { cls := .type "tuple", data := .seq us } := ⟨_, hoT.symm⟩
  refine for_tuple (vs := [.str (Str.ofString "q\"") tk, .str (Str.ofString "\"\"") (tk + 1), .str (Str.ofString "r") (tk + 1 + 1)]) (nn := 0) (fun g' => g' = g) (BJ k nn vs rest nws L' la Tt oT) rfl (.head _) (fun _ _ => rfl) (fun g' e => by rw [e]; exact Nat.le_of_lt (Nat.lt_of_le_of_lt lF.above lF.ns.lt)) rfl lF lN ?h0 ?hJl ?turn ?done
  case h0 => exact ⟨[], 0, oc, [], _, by rw [← hoT]; rfl, .nil, Nat.zero_le _, (fun _ h => nomatch h), (fun _ h => nomatch h), hoc, rfl, rfl⟩
  case hJl => rintro i m nx ⟨ys, c, oc, fresh, x, rfl, _⟩; rw [← hoT]; exact .head _
  case turn =>
    rintro i v g' m₁ news₁ h' tk I it hvi ⟨ys, c, oc, fresh, x, rfl, hys, hyl, hfr, hfo, hoc, e1, e2⟩ rfl hoff hlt' F' N'
    rw [map2 e1 e2] at F'
    clear lF lN
    obtain ⟨f, tf, rfl, hfi, hfl, hfp⟩ := three_item hvi
    obtain ⟨us, rfl⟩ := hTd
    have hnI : I ≠ L' + 1 := fun e => hoff _ (.tail _ (.tail _ (.head _))) e.symm
    have hnT : Tt ≠ L' + 1 := fun e => cell_ne N' (.tail _ (.head _)) (.tail _ (.tail _ (.tail _ (.head _)))) hoc e
    have hnb : la ≠ L' + 1 := fun e => cell_ne N' (.tail _ (.tail _ (.head _))) (.tail _ (.tail _ (.tail _ (.head _)))) hoc e
    have hnk : k ≠ L' + 1 := hoffL _ (.head _)
    have hnr : ∀ p ∈ fresh ++ rest, p.1 ≠ L' + 1 := fun p hp => by
      rcases List.mem_append.mp hp with hp | hp
      · exact hfo p hp
      · exact hoffL p (.tail _ hp)
    have hoffI : ∀ o, ∀ p ∈ (Tt, ({ cls := .type "tuple", data := .seq us } : Obj)) :: (la, listOf (List.toArray ys) c) :: (L' + 1, o) :: (k, listOf vs.toArray nn) :: (fresh ++ rest), p.1 ≠ I := fun o p hp => by
      rcases List.mem_cons.mp hp with rfl | hp
      · exact hoff _ (.head _)
      rcases List.mem_cons.mp hp with rfl | hp
      · exact hoff _ (.tail _ (.head _))
      rcases List.mem_cons.mp hp with rfl | hp
      · exact Ne.symm hnI
      · exact hoff p (.tail _ (.tail _ (.tail _ hp)))
    ktn_open
    refine Hold.out ?_
    rename Obj => oc2
    (rename Obj.data _ = _ => hoc2)
    (rename Fr _ _ _ _ => lF)
    (rename News _ _ _ _ => lN)
    clear F' N'
    generalize hbase : (I, it) :: (Tt, _) :: (la, listOf (List.toArray ys) c) :: (L' + 1, oc2) :: (k, listOf vs.toArray nn) :: (fresh ++ rest) = BASE at lN
    have hIB : (I, it) ∈ BASE := by rw [← hbase]; exact .head _
    have hTB : (Tt, ({ cls := .type "tuple", data := .seq us } : Obj)) ∈ BASE := by rw [← hbase]; exact .tail _ (.head _)
    have hlB : (la, listOf (List.toArray ys) c) ∈ BASE := by rw [← hbase]; exact .tail _ (.tail _ (.head _))
    have hkB : (k, listOf vs.toArray nn) ∈ BASE := by rw [← hbase]; exact .tail _ (.tail _ (.tail _ (.tail _ (.head _))))
    have hcB : (L' + 1, oc2) ∈ BASE := by rw [← hbase]; exact .tail _ (.tail _ (.tail _ (.head _)))
    have hfB : ∀ p ∈ fresh ++ rest, p ∈ BASE := fun p hp => by rw [← hbase]; exact .tail _ (.tail _ (.tail _ (.tail _ (.tail _ hp))))
    have hrB : ∀ p ∈ rest, p ∈ BASE := fun p hp => hfB p (List.mem_append_right _ hp)
    refine' comp_listA (vs := vs) (nn := nn) (fun i ys nx => nx = BASE ∧ Fa2 (NwAt rest) ys ((nws.take i).filter fun x => Txt.lower x.name == f)) (fun i m => ∃ v, vs[i]? = some v ∧ m (Str.ofString "news") = some v)
      ?hh ?hl ?hsz ?htg ?hcell ?hkind ?F ?N ?h0 ?hJl ?hasg ?turn ?hy ?hp ?fin
    case hh => exact rfl
    case hl => exact hkB
    case hsz => omega
    case htg => exact .inl fun _ _ => rfl
    case hcell => decide
    case hkind => rfl
    case F => exact lF
    case N => exact lN
    case hy => rfl
    case hp => rfl
    case h0 => exact ⟨rfl, by rw [List.take_zero]; exact .nil⟩
    case hJl => rintro i ys nx ⟨rfl, _⟩; exact hkB
    case hasg =>
      rintro i v C m' news₁ ys s₂ E' Q' hvi _ hn hN hQ
      exact asg_name (by rfl) (by rfl) hn fun h' tk' m'' hn' hd' hs' => hQ h' tk' m'' hn' ⟨v, hvi, hd'⟩ hs'
    case turn =>
      rintro s₁ j v I2 oI C oC D m₂ h2 tk2 E' zs news₁ ⟨hp2, rfl⟩ hvj ⟨rfl, hF⟩ hC ⟨v', hvj', e3⟩ F2 N2 off ne
      rw [hvj] at hvj'
      cases hvj'
      obtain ⟨x, hxj, a, t1, t2, t3, t4, rfl, hm⟩ := hv.get hvj
      have hpx := hp _ (List.mem_of_getElem? hxj)
      have hpn := hpx.2.1
      have N3 := news_front (news_front N2 (.tail _ (.tail _ (.tail _ hcB)))) (.tail _ (.tail _ (.tail _ (.tail _ (hrB _ hm)))))
      show wpAny _ _ (isTrue _ _ _) _ _ _
      clear lF lN N2 hbase hIB hTB hlB
      ktn_open
      · refine CEnd.mk news₁ (by assumption) (by assumption) (.tail _ (.tail _ (.head _))) (.tail _ (.tail _ (.tail _ (.head _)))) (.tail _ (.tail _ (.tail _ (.tail _ (.head _))))) (fun _ q => .tail _ (.tail _ (.tail _ (.tail _ (.tail _ q))))) off ⟨rfl, ?_⟩
        rw [take_more hxj, List.filter_append]
        rw [show [x].filter (fun x => Txt.lower x.name == f) = [x] from List.filter_cons_of_pos (by with_reducible assumption)]
        exact hF.snoc ⟨a, t1, t2, t3, t4, rfl, hm⟩
      · refine CEnd.mk news₁ (by assumption) (by assumption) (.tail _ (.tail _ (.head _))) (.tail _ (.tail _ (.tail _ (.head _)))) (.tail _ (.tail _ (.tail _ (.tail _ (.head _))))) (fun _ q => .tail _ (.tail _ (.tail _ (.tail _ (.tail _ q))))) off ⟨rfl, ?_⟩
        rw [take_more hxj, List.filter_append]
        rw [show [x].filter (fun x => Txt.lower x.name == f) = [] from List.filter_cons_of_neg (by rw [Bool.not_eq_true]; with_reducible assumption), List.append_nil]
        exact hF
    case fin =>
      rintro D h2 tk2 zs news' ⟨rfl, hF⟩ F2 N2 off v
      rw [hv.length, List.take_length] at hF
      have hpz : ∀ x ∈ nws.filter (fun x => Txt.lower x.name == f), Plain x.text ∧ Plain x.name := fun x hx => ⟨(hp x (List.mem_filter.mp hx).1).1, (hp x (List.mem_filter.mp hx).1).2.1⟩
      have hzB : Fa2 (NwAt news') zs (nws.filter fun x => Txt.lower x.name == f) := hF.mono fun _ _ => NwAt.sub hrB
      have N3 := news_front (news_front N2 (.tail _ hlB)) (.tail _ (.head _))
      clear lF lN N2
      by_cases hxs : (nws.filter fun x => Txt.lower x.name == f) = []
      · have hd : (!decide ((nws.filter fun x => Txt.lower x.name == f) = [])) = false := by rw [decide_eq_true hxs]; rfl
        ktn_open
        refine GStep.mk ((Tt, ({ cls := .type "tuple", data := .seq us } : Obj)) :: (la, listOf (List.toArray ys) c) :: (L' + 1, oc2) :: (k, listOf vs.toArray nn) :: (fresh ++ rest)) rfl (by assumption) (by assumption) (.tail _ (.tail _ (.tail _ (.tail _ hIB)))) (fun p hp => .tail _ (.tail _ (.tail _ (.tail _ (by rw [← hbase]; exact .tail _ hp))))) (hoffI oc2) ⟨ys, c, oc2, fresh, _, rfl, ?_, hyl, hfr, hfo, hoc2, rfl, rfl⟩
        rw [bestL_more hfi, bestOne_none hxs, List.append_nil]
        exact hys
      · have hd : (!decide ((nws.filter fun x => Txt.lower x.name == f) = [])) = true := by rw [decide_eq_false hxs]; rfl
        ktn_open
        (rename Fr _ _ _ _ => lF)
        (rename News _ _ _ _ => lN)
        rename _ ∧ _ ∧ _ ∧ _ ∧ _ ∧ AllLt _ _ => lq
        (rename maxAt _ = some _ => hx9)
        rename Nw => x9
        rename Addr => T9
        have hTI : T9 ≠ I := Nat.ne_of_gt (ktn_ltOf lq.2.2.2.2.2 _ hIB)
        have hTl : T9 ≠ la := Nat.ne_of_gt lq.2.2.2.1
        have hTc : T9 ≠ L' + 1 := Nat.ne_of_gt (ktn_ltOf lq.2.2.2.2.2 _ hcB)
        have lN' : News g' L' _ ((T9, tupV [.str x9.name _, .str x9.text _]) :: (I, it) :: (Tt, ({ cls := .type "tuple", data := .seq us } : Obj)) :: (la, listOf (List.toArray ys) c) :: (L' + 1, oc2) :: (k, listOf vs.toArray nn) :: (fresh ++ rest)) := fun p hp => lN p (by
          rcases List.mem_cons.mp hp with rfl | hp
          · exact .head _
          · exact .tail _ (.tail _ (.tail _ (.tail _ (.tail _ (.tail _ (by rw [← hbase]; exact hp)))))))
        have hkl : k ≠ la := Nat.ne_of_lt lq1.2.1
        have hcl : L' + 1 ≠ la := Ne.symm hnb
        have hIl : I ≠ la := fun e => hoffI oc2 _ (.tail _ (.head _)) e.symm
        have hTtl : Tt ≠ la := tup_ne lN' (.tail _ (.tail _ (.head _))) rfl (.tail _ (.tail _ (.tail _ (.head _))))
        have hfrl : ∀ p ∈ fresh ++ rest, p.1 ≠ la := fun p hp => by
          rcases List.mem_append.mp hp with hp' | hp'
          · exact tup_ne lN' (.tail _ (.tail _ (.tail _ (.tail _ (.tail _ (.tail _ hp)))))) (hfr p hp') (.tail _ (.tail _ (.tail _ (.head _))))
          · exact Nat.ne_of_lt (ktn_ltOf lq1.2.2 p hp')
        refine append_K lF lN' (.tail hTl (.tail hIl (.tail hTtl (.head (List.forall_mem_cons.mpr ⟨hcl, List.forall_mem_cons.mpr ⟨hkl, hfrl⟩⟩))))) ?_ ?_
        · intro h₄ F₄ N₄
          clear lN lN' lF
          ktn_open
          rw [List.push_toArray] at N₄
          obtain ⟨u1, u2, N₅⟩ : ∃ u1 u2, News g' L' h₄ ((T9, tupV [.str x9.name u1, .str x9.text u2]) :: (I, it) :: (Tt, ({ cls := .type "tuple", data := .seq us } : Obj)) :: (la, listOf (List.toArray (ys ++ [.ref T9])) (c + 1)) :: (L' + 1, oc2) :: (k, listOf vs.toArray nn) :: (fresh ++ rest)) := ⟨_, _, N₄⟩
          have hys2 : Fa2 (PairAt ((T9, tupV [.str x9.name u1, .str x9.text u2]) :: fresh)) (ys ++ [.ref T9]) (bestL nws (three.take (i + 1))) := by
            rw [bestL_more hfi, bestOne_some hx9]
            exact (hys.mono fun _ _ => PairAt.sub fun _ h => .tail _ h).snoc ⟨T9, _, _, rfl, .head _⟩
          refine GStep.mk ((Tt, ({ cls := .type "tuple", data := .seq us } : Obj)) :: (la, listOf (List.toArray (ys ++ [.ref T9])) (c + 1)) :: (L' + 1, oc2) :: (k, listOf vs.toArray nn) :: (((T9, tupV [.str x9.name u1, .str x9.text u2]) :: fresh) ++ rest)) rfl F₄ N₅ (.tail _ (.head _)) (fun p hp => ?_) (fun p hp => ?_) ⟨ys ++ [.ref T9], c + 1, oc2, _, _, rfl, hys2, ?_, ?_, ?_, hoc2, rfl, rfl⟩
          · rcases List.mem_cons.mp hp with rfl | hp
            · exact .tail _ (.tail _ (.head _))
            rcases List.mem_cons.mp hp with rfl | hp
            · exact .tail _ (.tail _ (.tail _ (.head _)))
            rcases List.mem_cons.mp hp with rfl | hp
            · exact .tail _ (.tail _ (.tail _ (.tail _ (.head _))))
            rcases List.mem_cons.mp hp with rfl | hp
            · exact .tail _ (.tail _ (.tail _ (.tail _ (.tail _ (.head _)))))
            rcases List.mem_cons.mp hp with rfl | hp
            · exact .head _
            · exact .tail _ (.tail _ (.tail _ (.tail _ (.tail _ (.tail _ hp)))))
          · rcases List.mem_cons.mp hp with rfl | hp
            · exact hoffI oc2 _ (.head _)
            rcases List.mem_cons.mp hp with rfl | hp
            · exact Ne.symm hIl
            rcases List.mem_cons.mp hp with rfl | hp
            · exact hoffI oc2 _ (.tail _ (.tail _ (.head _)))
            rcases List.mem_cons.mp hp with rfl | hp
            · exact hoffI oc2 _ (.tail _ (.tail _ (.tail _ (.head _))))
            rcases List.mem_cons.mp hp with rfl | hp
            · exact hTI
            · exact hoffI oc2 _ (.tail _ (.tail _ (.tail _ (.tail _ hp))))
          · rw [hys2.length]
            exact Nat.le_trans (bestL_le _ _) (by rw [List.length_take]; exact Nat.min_le_right _ _)
          · intro p hp
            rcases List.mem_cons.mp hp with rfl | hp
            · rfl
            · exact hfr p hp
          · intro p hp
            rcases List.mem_cons.mp hp with rfl | hp
            · exact hTc
            · exact hfo p hp
        · rw [List.size_toArray, sizeLine_eq]; omega
  case done =>
    rintro g' m₁ news₁ h' tk2 ⟨ys, c, oc2, fresh, x, rfl, hys, hyl, hfr, hfo, hoc2, e1, e2⟩ rfl F' N'
    rw [map2 e1 e2] at F'
    clear lF lN
    ktn_open
    refine Hold.out ?_
    have hlen : ys.length ≤ 3 := hyl
    refine sorted_pairs (s := { s with heap := h', toks := _ }) (R := PairAt fresh) F' N' (.tail _ (.head _)) (fun _ _ => PairAt.sub fun _ h => .tail _ (.tail _ (.tail _ (.tail _ (List.mem_append_left _ h))))) hys hyl (bestL_apart nws) ?_
    intro D c' vs' ps' h2 F2 N2 l2 hf2 hperm hsort
    ktn_open
    dsimp only
    have hkn : ∀ p ∈ (k, listOf vs.toArray nn) :: rest, p.1 ≠ D := fun p hp => Nat.ne_of_lt (l2 p (by
      rcases List.mem_cons.mp hp with rfl | hp
      · exact .tail _ (.tail _ (.tail _ (.head _)))
      · exact .tail _ (.tail _ (.tail _ (.tail _ (List.mem_append_right _ hp))))))
    refine BodyRet.mk ((D, listOf vs'.toArray c') :: (k, listOf vs.toArray nn) :: (fresh ++ rest)) F2 N2 (fun p hp => ?_) ⟨D, c', vs', ps', fresh, rfl, rfl, hf2, hfr, hkn, hperm, hsort⟩
    rcases List.mem_cons.mp hp with rfl | hp
    · exact .head _
    · exact .tail _ (.tail _ (.tail _ (.tail _ hp)))

end
end Mine
end
section
open PySem PySem.W PyProof.Rows PySem.Spec PySem.Calls
set_option maxRecDepth 100000
set_option maxHeartbeats 8000000
namespace Mine
theorem offMF : True := by
  w_top off
  trivial
section
variable {prog : Program} {w : World} {A : Around} {E : Value → Shared → Prop} {s : Shared} {h₀ : Heap} {L : Addr} {m : Str → Option Value} {news : List (Addr × Obj)} {Q : Value → Shared → Prop}
/-- a list's item at a number that is not written -/
theorem lst_item_nat {value slice : Expr} {a : Addr} {vs : List Value} {nn : Nat} {i : Nat} {u : Tok} {v : Value} (N : News h₀ L s.heap news) (hm : (a, listOf vs.toArray nn) ∈ news) (hx : vs[i]? = some v) (hz : vs.length < 1000) (h : Q v s)
    (hs : subscripted slice false (.ref a) (.int i u) = operate [.ref a, .int i u] (getItem (.ref a) (.int i u)) := by with_unfolding_all rfl) :
    wpAny (model prog w) A (subscriptTail value slice (.ref a) (.int (i : Int) u)) Q E s := by
  have hl : s.heap.IsList a vs.toArray := ⟨_, (N _ hm).1, rfl, nn, rfl⟩
  have hlt : i < vs.length := (List.getElem?_eq_some_iff.mp hx).1
  exact tail_any hl.typeIs slot_list_getitem.lookup (wpAny_getItem_list hl (by omega) (by omega) (x := v) (by simpa using hx) h) hs
theorem lst_item_k {value slice : Expr} {a : Addr} {vs : List Value} {nn : Nat} {k : Int} {u : Tok} {v : Value} (N : News h₀ L s.heap news) (hm : (a, listOf vs.toArray nn) ∈ news) (h0 : 0 ≤ k) (hk : k < 2 ^ 62) (hx : vs[k.toNat]? = some v) (h : Q v s)
    (hs : subscripted slice false (.ref a) (.int k u) = operate [.ref a, .int k u] (getItem (.ref a) (.int k u)) := by with_unfolding_all rfl) :
    wpAny (model prog w) A (subscriptTail value slice (.ref a) (.int k u)) Q E s := by
  have hl : s.heap.IsList a vs.toArray := ⟨_, (N _ hm).1, rfl, nn, rfl⟩
  exact tail_any hl.typeIs slot_list_getitem.lookup (wpAny_getItem_list hl h0 (by omega) (x := v) (by simpa using hx) h) hs
theorem tup_item_k {value slice : Expr} {a : Addr} {vs : List Value} {nn : Nat} {k : Int} {u : Tok} {v : Value} (N : News h₀ L s.heap news) (hm : (a, ({ cls := .type "tuple", data := .seq vs.toArray nn } : Obj)) ∈ news) (h0 : 0 ≤ k) (hk : k < 2 ^ 62) (hx : vs[k.toNat]? = some v) (h : Q v s)
    (hs : subscripted slice false (.ref a) (.int k u) = operate [.ref a, .int k u] (getItem (.ref a) (.int k u)) := by with_unfolding_all rfl) :
    wpAny (model prog w) A (subscriptTail value slice (.ref a) (.int k u)) Q E s := by
  have ht : IsTup s.heap a vs.toArray := ⟨_, (N _ hm).1, rfl, nn, rfl⟩
  have hlt : k.toNat < vs.length := (List.getElem?_eq_some_iff.mp hx).1
  exact tail_any ht.typeIs PySem.F.slot_tuple_getitem.lookup (getItem_tuple ht (by omega) (by omega) (seqIndex_of h0 (by rw [List.size_toArray]; omega)) (x := v) (by simpa using hx) h) hs
theorem lt_int_yes {x y : Int} {t u : Tok} (hr : x < y) (h : Q (.bool true) s) : wpAny (model prog w) A (compareOp .Lt (.int x t) (.int y u)) Q E s := by
  refine PyProof.Rows.lt_int ?_
  rw [decide_eq_true hr]; exact h
theorem lt_int_no {x y : Int} {t u : Tok} (hr : ¬ x < y) (h : Q (.bool false) s) : wpAny (model prog w) A (compareOp .Lt (.int x t) (.int y u)) Q E s := by
  refine PyProof.Rows.lt_int ?_
  rw [decide_eq_false hr]; exact h
theorem ne_int_same {x : Int} {t u : Tok} (h : Q (.bool false) s) : wpAny (model prog w) A (compareOp .NotEq (.int x t) (.int x u)) Q E s := by
  refine ne_int ?_
  rw [show (x != x) = false by simp]
  exact h
end
theorem sub_cons {x : Addr × Obj} {r old : Led} (h : x ∈ old) (t : ∀ p ∈ r, p ∈ old) : ∀ p ∈ x :: r, p ∈ old := fun p hp => by
  rcases List.mem_cons.mp hp with rfl | hp
  · exact h
  · exact t p hp
theorem sub_app {x r old : Led} (h : ∀ p ∈ x, p ∈ old) (t : ∀ p ∈ r, p ∈ old) : ∀ p ∈ x ++ r, p ∈ old := fun p hp => by
  rcases List.mem_append.mp hp with hp | hp
  · exact h p hp
  · exact t p hp
theorem tupC_ne {h₀ h : Heap} {L : Addr} {led : Led} {p : Addr × Obj} {l : Addr} {vs : Array Value} {n : Nat} (N : News h₀ L h led) (hp : p ∈ led) (hc : p.2.cls = .type "tuple") (hl : (l, listOf vs n) ∈ led) : p.1 ≠ l := fun e => by
  have z1 := (N _ hp).1
  have z2 := (N _ hl).1
  dsimp only at z2
  rw [e, z2] at z1
  rw [← Option.some.inj z1] at hc
  exact absurd (Value.type.inj hc) (by decide)
theorem data_ne {h₀ h : Heap} {L : Addr} {led : Led} {a b : Addr} {o o' : Obj} (N : News h₀ L h led) (hp : (a, o) ∈ led) (hl : (b, o') ∈ led) (hd : o.data = o'.data → False) : a ≠ b := fun e => by
  have z1 := (N _ hp).1
  have z2 := (N _ hl).1
  dsimp only at z1 z2
  rw [e, z2] at z1
  exact hd (congrArg Obj.data (Option.some.inj z1)).symm
abbrev rowO (r : Nat → Nat) (t : Nat → Tok) (n : Nat) : Obj := listOf #[.int (r 0) (t 0), .int (r 1) (t 1), .int (r 2) (t 2), .int (r 3) (t 3), .int (r 4) (t 4), .int (r 5) (t 5), .int (r 6) (t 6), .int (r 7) (t 7), .int (r 8) (t 8), .int (r 9) (t 9)] n
structure RowOk (r : Nat → Nat) : Prop where
  h0 : r 0 < 4
  h1 : r 1 < 4
  h2 : r 2 < 4
  h3 : r 3 < 4
  h4 : r 4 < 2
  h5 : r 5 < 3
  h6 : r 6 < 16
  h7 : r 7 < 3
  h8 : r 8 < 2
  h9 : r 9 < 100000
abbrev madeR (r : Nat → Nat) : Nw := madeF (r 0) (r 1) (r 2) (r 3) (r 4) (r 9)
theorem perm_sorted_eq : ∀ {a b : Prs}, a.Perm b → a.Pairwise (fun p q => ltP p q = true) → b.Pairwise (fun p q => ltP p q = true) → a.Pairwise (fun p q => p.1 ≠ q.1) → a = b
  | [], b, p, _, _, _ => (List.Perm.nil_eq p)
  | x :: a, b, p, ha, hb, hn => by
    match b, p with
    | [], p => exact absurd p.length_eq (by simp)
    | y :: b, p =>
      have hxy : x = y := by
        by_cases e : x = y
        · exact e
        · have hx : x ∈ y :: b := p.mem_iff.mp (.head _)
          have hy : y ∈ x :: a := p.mem_iff.mpr (.head _)
          have hx' : x ∈ b := by
            rcases List.mem_cons.mp hx with q | q
            · exact absurd q e
            · exact q
          have hy' : y ∈ a := by
            rcases List.mem_cons.mp hy with q | q
            · exact absurd q.symm e
            · exact q
          have l1 := (List.pairwise_cons.mp ha).1 y hy'
          have l2 := (List.pairwise_cons.mp hb).1 x hx'
          have hne := (List.pairwise_cons.mp hn).1 y hy'
          rw [ltP_flip hne, l1] at l2
          cases l2
      subst hxy
      rw [perm_sorted_eq (List.Perm.cons_inv p) (List.pairwise_cons.mp ha).2 (List.pairwise_cons.mp hb).2 (List.pairwise_cons.mp hn).2]
theorem perm_apart {a b : Prs} (p : a.Perm b) (h : b.Pairwise fun p q => p.1 ≠ q.1) : a.Pairwise fun p q => p.1 ≠ q.1 :=
  (p.pairwise_iff fun {_ _} h => Ne.symm h).mpr h
end Mine
end
section
open PySem PySem.W PyProof.Rows PySem.Spec PySem.Calls
set_option maxRecDepth 100000
set_option maxHeartbeats 8000000
namespace Mine
theorem offD16 : True := by
  w_top off
  trivial
theorem fillD16 : (PySem.Challenge.rw_wf0088_01, hd.heap_1) = (PySem.Challenge.rw_wf0088_01, hd.heap_1) := by
  k_fill
  rfl
section
theorem PairAt.subC {A B : Led} (h : ∀ q ∈ A, q.2.cls = .type "tuple" → q ∈ B) {v : Value} {p : Str × Str} (x : PairAt A v p) : PairAt B v p := by
  obtain ⟨a, t1, t2, e, m⟩ := x
  exact ⟨a, t1, t2, e, h _ m rfl⟩
theorem putF_mem {qs : List Nw} {x q : Nw} (h : q ∈ putF qs x) : q ∈ qs ∨ q = x := by
  rcases List.mem_append.mp h with h | h
  · exact .inl (List.mem_filter.mp h).1
  · exact .inr (List.mem_singleton.mp h)
theorem hearF_mem {qs : List Nw} {x q : Nw} (h : q ∈ hearF qs x) : q ∈ qs ∨ q = x := by
  unfold hearF at h
  split at h
  · exact putF_mem h
  · split at h
    · exact putF_mem h
    · exact .inl h
theorem bestL_mem {nws : List Nw} {fs : List Str} {p : Str × Str} (h : p ∈ bestL nws fs) : ∃ x ∈ nws, p = (x.name, x.text) := by
  obtain ⟨f, _, h⟩ := List.mem_flatMap.mp h
  obtain ⟨x, hx, _, e⟩ := bestOne_mem h
  exact ⟨x, hx, e⟩
theorem heard_front {h₀ g : Heap} {L : Addr} {h dx l : Addr} {hs : Int} {kt : Tok} {n nn : Nat} {vs : List Value} {a b c d e : Addr × Obj} {f r : Led} (N : News h₀ L g (tabLed h dx l hs kt n nn vs (f ++ (a :: b :: c :: d :: e :: r)))) : News h₀ L g (tabLed h dx l hs kt n nn vs (a :: b :: c :: d :: e :: (f ++ r))) := fun p hp => N p (by
  simp only [tabLed, List.mem_cons, List.mem_append] at hp ⊢
  rcases hp with h | h | h | h | h | h | h | h | h | h <;> simp [h])
theorem first_good (w : World) (Ta Ka Da : Addr) (tvs kvs : List Value) (nT nK nD : Nat) (r : Nat → Nat) (t : Nat → Tok) (h dx l : Addr) (hs : Int) (kt : Tok) (n nn : Nat) (vs : List Value) (k : Addr) (kn : Nat) (us : List Value) (rest : Led) (qs nws : List Nw) (hTm : (Ta, listOf tvs.toArray nT) ∈ rest) (hKm : (Ka, listOf kvs.toArray nK) ∈ rest) (hDm : (Da, rowO r t nD) ∈ rest) (hti : tvs[r 5]? = some (.ref h)) (hki : kvs[r 5]? = some (.ref k)) (htl : tvs.length = 3) (hkl : kvs.length = 3) (hrl : ∀ p ∈ rest, p.1 ≠ l) (hrk : ∀ p ∈ rest, p.1 ≠ k) (hlk : l ≠ k) (ok : RowOk r) (hlen : 11 ≤ (madeR r).text.length ∧ (madeR r).text.length ≤ 200) (hq : ∀ q ∈ qs, Good w.params q) (hx : ∀ q ∈ nws, Good w.params q) (hv : Fa2 (PairAt rest) vs (qs.map prOf)) (hu : Fa2 (NwAt rest) us nws) (hsv : vs.length ≤ 3) (hsu : us.length + us.length + 8 ≤ 1000000) (h6 : r 6 < 8) (hg : Good w.params (madeR r)) (hper : ((hearF qs (madeR r)).map prOf).Perm (bestL (nws ++ [madeR r]) three)) : ConS w (14 + 1) 283 (tabLed h dx l hs kt n nn vs ((k, listOf us.toArray kn) :: rest)) [.ref Ta, .ref Ka, .ref Da] (fun v led' => v = .bool true ∧ ∃ nn' vs' un' us' fresh, led' = tabLed h dx l hs kt n nn' vs' ((k, listOf (List.toArray us') un') :: (fresh ++ rest)) ∧ (∀ p ∈ fresh, p.2.cls = .type "tuple") ∧ Fa2 (PairAt (fresh ++ rest)) vs' ((hearF qs (madeR r)).map prOf) ∧ Fa2 (NwAt (fresh ++ rest)) us' (nws ++ [madeR r])) := by
  k_with_none
  (k_with "WStep" => with_reducible first | refine WStep.brkI ?_ | refine WStep.retI ?_)
  (k_with "FStep" => with_reducible first | refine FStep.brkI ?_ | refine FStep.retI ?_)
  (k_with "GStep" => with_reducible first | refine GStep.brkI ?_ | refine GStep.retI ?_ | refine GStep.cont ?_)
  (k_with "subscriptTail Name Constant ref int" => ((with_reducible show wpAny _ _ (subscriptTail (Expr.Name _ _) (Expr.Constant _ _ _) (Value.ref _) (Value.int _ _)) _ _ _); (with_unfolding_all first | (refine' lst_item_k ?kwN ?kwk1 ?kwh0 ?kwhk ?kwhx ?_; (case kwN => with_reducible assumption); (case kwk1 => k_dflt (first | exact .head _ | exact .tail _ (.head _) | exact .tail _ (.tail _ (.head _)) | exact .tail _ (.tail _ (.tail _ (.head _))) | exact .tail _ (.tail _ (.tail _ (.tail _ (.head _)))) | exact .tail _ (.tail _ (.tail _ (.tail _ (.tail _ (.head _))))) | exact .tail _ (.tail _ (.tail _ (.tail _ (.tail _ (.tail _ (.head _)))))) | exact .tail _ (.tail _ (.tail _ (.tail _ (.tail _ (.tail _ (.tail _ (.head _))))))) | exact .tail _ (.tail _ (.tail _ (.tail _ (.tail _ (.tail _ (.tail _ (.tail _ (.head _)))))))) | exact .tail _ (.tail _ (.tail _ (.tail _ (.tail _ (.tail _ (.tail _ (.tail _ (.tail _ (.head _))))))))) | exact .tail _ (.tail _ (.tail _ (.tail _ (.tail _ (.tail _ (.tail _ (.tail _ (.tail _ (.tail _ (.head _)))))))))) | exact .tail _ (.tail _ (.tail _ (.tail _ (.tail _ (.tail _ (.tail _ (.tail _ (.tail _ (.tail _ (.tail _ (.head _))))))))))))); (case kwh0 => decide); (case kwhk => decide); (case kwhx => exact rfl)) | (refine' tup_item_k ?kwN ?kwk1 ?kwh0 ?kwhk ?kwhx ?_; (case kwN => with_reducible assumption); (case kwk1 => k_dflt (first | exact .head _ | exact .tail _ (.head _) | exact .tail _ (.tail _ (.head _)) | exact .tail _ (.tail _ (.tail _ (.head _))) | exact .tail _ (.tail _ (.tail _ (.tail _ (.head _)))) | exact .tail _ (.tail _ (.tail _ (.tail _ (.tail _ (.head _))))) | exact .tail _ (.tail _ (.tail _ (.tail _ (.tail _ (.tail _ (.head _)))))) | exact .tail _ (.tail _ (.tail _ (.tail _ (.tail _ (.tail _ (.tail _ (.head _))))))) | exact .tail _ (.tail _ (.tail _ (.tail _ (.tail _ (.tail _ (.tail _ (.tail _ (.head _)))))))) | exact .tail _ (.tail _ (.tail _ (.tail _ (.tail _ (.tail _ (.tail _ (.tail _ (.tail _ (.head _))))))))) | exact .tail _ (.tail _ (.tail _ (.tail _ (.tail _ (.tail _ (.tail _ (.tail _ (.tail _ (.tail _ (.head _)))))))))) | exact .tail _ (.tail _ (.tail _ (.tail _ (.tail _ (.tail _ (.tail _ (.tail _ (.tail _ (.tail _ (.tail _ (.head _))))))))))))); (case kwh0 => decide); (case kwhk => decide); (case kwhx => exact rfl)))))
  (k_with "subscriptTail Name Subscript ref int" => ((with_reducible show wpAny _ _ (subscriptTail (Expr.Name _ _) (Expr.Subscript _ _ _) (Value.ref _) (Value.int _ _)) _ _ _); (k_dflt (refine' lst_item_nat ?kwN ?kwk1 ?kwhx ?kwhz ?_; (case kwN => with_reducible assumption); (case kwk1 => first | exact .head _ | exact .tail _ (.head _) | exact .tail _ (.tail _ (.head _)) | exact .tail _ (.tail _ (.tail _ (.head _))) | exact .tail _ (.tail _ (.tail _ (.tail _ (.head _)))) | exact .tail _ (.tail _ (.tail _ (.tail _ (.tail _ (.head _))))) | exact .tail _ (.tail _ (.tail _ (.tail _ (.tail _ (.tail _ (.head _)))))) | exact .tail _ (.tail _ (.tail _ (.tail _ (.tail _ (.tail _ (.tail _ (.head _))))))) | exact .tail _ (.tail _ (.tail _ (.tail _ (.tail _ (.tail _ (.tail _ (.tail _ (.head _)))))))) | exact .tail _ (.tail _ (.tail _ (.tail _ (.tail _ (.tail _ (.tail _ (.tail _ (.tail _ (.head _))))))))) | exact .tail _ (.tail _ (.tail _ (.tail _ (.tail _ (.tail _ (.tail _ (.tail _ (.tail _ (.tail _ (.head _)))))))))) | exact .tail _ (.tail _ (.tail _ (.tail _ (.tail _ (.tail _ (.tail _ (.tail _ (.tail _ (.tail _ (.tail _ (.head _)))))))))))); (case kwhx => with_reducible assumption); (case kwhz => omega)))))
  (k_with "compareOp Lt int int" => (k_dflt (first | refine lt_int_yes (by assumption) ?_ | refine lt_int_no (by assumption) ?_)))
  (k_with "compareOp NotEq int int" => (with_reducible refine ne_int_same ?_))
  (k_with "call builtin:list.append" => refine Hold.of ?_)
  (k_with "call builtin:sorted" => refine Hold.of ?_)
  (k_with "compareOp Eq ref ref" => refine Hold.of ?_)
  (k_with "call ref" => k_dflt (refine' ConK.use (made_con _ _ _ _ _ _ _ _ _ _ _ _ _ _ _ _ _ _ _ _ _ _ _ _ ?kwm0 ?kwm1 ?kwm2 ?kwm3 ?kwm4 ?kwm9) ?kwcB ?kwcF ?kwcX ?kwcN ?kwcT rfl ?kwcd ?kwcu ?_; (case kwcN => k_asm); (case kwcB => k_asm); (case kwcF => k_asm); (case kwcX => k_asm); (case kwcT => k_asm); (case kwcd => (refine dp_ok (by with_reducible assumption) ?_; k_dflt (exact rfl))); (case kwcu => (refine un_ok (by with_reducible assumption) ?_; k_dflt (exact rfl))); (case kwm0 => with_reducible assumption); (case kwm1 => with_reducible assumption); (case kwm2 => with_reducible assumption); (case kwm3 => with_reducible assumption); (case kwm4 => with_reducible assumption); (case kwm9 => with_reducible assumption); k_whole; intro v9 led9 h9 tk9 F9 N9 R9; obtain ⟨T9, u1, u2, u3, u4, e9, z9⟩ := R9; rw [z9] at N9; clear z9 led9; subst e9))
  (k_with "call ref" => (refine' Con.use (spoiled_con _ _ _ _ _ _ ?kwhx) ?kwcB ?kwcF ?kwcX ?kwcN ?kwcT rfl ?kwcd ?kwcu ?_; (case kwcN => k_asm); (case kwcB => k_asm); (case kwcF => k_asm); (case kwcX => k_asm); (case kwcT => k_asm); (case kwcd => (refine dp_ok (by with_reducible assumption) ?_; k_dflt (exact rfl))); (case kwcu => (refine un_ok (by with_reducible assumption) ?_; k_dflt (exact rfl))); (case kwhx => with_reducible assumption); k_whole; intro v9 led9 h9 tk9 F9 N9 R9; obtain ⟨z9, t9, e9⟩ := R9; rw [z9] at N9; clear z9 led9; (rename spoiledF _ _ = _ => hsp9; rw [hsp9] at e9); subst e9))
  (k_with "call ref" => k_dflt (refine' ConS.use (hear_con _ _ _ _ _ _ _ _ _ _ _ _ _ ?kwhg ?kwhq ?kwhv ?kwhz ?kwhr) ?kwcB ?kwcF ?kwcX ?kwcN ?kwcT rfl ?kwcd ?kwcu ?kwcXB ?kwcTB ?kwcD ?_; (case kwcN => k_asm); (case kwcF => k_asm); (case kwcB => k_asm); (case kwcX => k_asm); (case kwcT => k_asm); (case kwcXB => k_asm); (case kwcTB => k_asm); (case kwcD => k_asm); (case kwcd => (refine dp_ok (by with_reducible assumption) ?_; k_dflt (exact rfl))); (case kwcu => (refine un_ok (by with_reducible assumption) ?_; k_dflt (exact rfl))); (case kwhg => with_reducible assumption); (case kwhv => with_reducible assumption); (case kwhq => with_reducible assumption); (case kwhz => with_reducible assumption); (case kwhr => with_reducible assumption); k_whole; intro v9 g9 led9 h9 tk9 Tn9 B9 X9 Tp9 D9 F9 N8 R9; obtain ⟨⟨u9, e9⟩, vs8, nn8, fr8, z9, c8, f8, -⟩ := R9; rw [z9] at N8; clear z9 led9; subst e9; replace N8 := heard_front N8; have q8 := f8.length))
  (k_with "call ref" => k_dflt (refine' ConK.use (items_con _ _ _ _ _ _ _ _ _ _ ?kwhz) ?kwcB ?kwcF ?kwcX ?kwcN ?kwcT rfl ?kwcd ?kwcu ?_; (case kwcN => k_asm); (case kwcB => k_asm); (case kwcF => k_asm); (case kwcX => k_asm); (case kwcT => k_asm); (case kwcd => (refine dp_ok (by with_reducible assumption) ?_; k_dflt (exact rfl))); (case kwcu => (refine un_ok (by with_reducible assumption) ?_; k_dflt (exact rfl))); (case kwhz => (rw [sizeLine_eq]; omega)); k_whole; intro v9 led9 h8 tk8 F8 N7 R9; obtain ⟨D8, n8, e9, o8, z9⟩ := R9; rw [z9] at N7; clear z9 led9; subst e9))
  (k_with "call ref" => k_dflt (refine' ConK.use (best_con _ _ _ _ _ _ ?kwhv ?kwhp ?kwhz) ?kwcB ?kwcF ?kwcX ?kwcN ?kwcT rfl ?kwcd ?kwcu ?_; (case kwcN => k_asm); (case kwcB => k_asm); (case kwcF => k_asm); (case kwcX => k_asm); (case kwcT => k_asm); (case kwcd => (refine dp_ok (by with_reducible assumption) ?_; k_dflt (exact rfl))); (case kwcu => (refine un_ok (by with_reducible assumption) ?_; k_dflt (exact rfl))); (case kwhv => with_reducible assumption); (case kwhp => with_reducible assumption); (case kwhz => with_reducible assumption); k_whole; intro v9 led9 h9 tk9 F9 N9 R9; obtain ⟨D9, c9, ws9, ps9, fr9, e9, z9, f9, t9, o9, p9, s9⟩ := R9; rw [z9] at N9; clear z9 led9; subst e9))
  revert hTm hKm hDm hti hki htl hkl hrl hrk hlk ok hlen hq hx hv hu hsv hsu h6 hg hper
  revert w Ta Ka Da tvs kvs nT nK nD r t h dx l hs kt n nn vs k kn us rest qs nws
  refine henk14 (by repeat' first | exact has_nat | exact has_world | exact has_list | exact has_str | exact has_int | exact has_val | exact has_bool | exact has_fun has_nat | exact ⟨⟨0, 0, Str.empty, Str.empty⟩⟩ | apply has_pair) ?_
  intro w Ta Ka Da tvs kvs nT nK nD r t h dx l
  clear_value w Ta Ka Da tvs kvs nT nK nD r t h dx l
  refine henk11 (by repeat' first | exact has_nat | exact has_world | exact has_list | exact has_str | exact has_int | exact has_val | exact has_bool | exact has_fun has_nat | exact ⟨⟨0, 0, Str.empty, Str.empty⟩⟩ | apply has_pair) ?_
  intro hs kt n nn vs k kn us rest qs nws
  clear_value hs kt n nn vs k kn us rest qs nws
  intro hTm hKm hDm hti hki htl hkl hrl hrk hlk ok hlen hq hx hv hu hsv hsu h6 hg hper
  refine' conS_of_body (binds := [(Str.ofString "tables", .ref Ta), (Str.ofString "known", .ref Ka), (Str.ofString "row", .ref Da)]) ?ho ?hcd ?hb ?hloc ?h ?h1 ?h2 ?h3 ?h4
  (case ho => k_is)
  (case hcd => k_is)
  (case hb => exact fun s => BindsTo.of_eq rfl)
  (case hloc => exact locs rfl)
  (case h1 => exact rfl)
  (case h2 => exact rfl)
  (case h3 => exact rfl)
  (case h4 => decide)
  refine henkC ?_
  intro mean mg mb dp un gd outer A₀ base g L' s
  clear_value mean mg mb dp un gd outer A₀ base g L' s
  intro B F X N T hdp hun XB TB D hA
  have N0 : News g L' s.heap ((Da, rowO r t nD) :: (Ta, listOf tvs.toArray nT) :: (Ka, listOf kvs.toArray nK) :: tabLed h dx l hs kt n nn vs ((k, listOf us.toArray kn) :: rest)) := by
    refine news_sub N ?_
    exact sub_cons (.tail _ (.tail _ (.tail _ (.tail _ hDm)))) (sub_cons (.tail _ (.tail _ (.tail _ (.tail _ hTm)))) (sub_cons (.tail _ (.tail _ (.tail _ (.tail _ hKm)))) (fun _ h => h)))
  clear N
  have ok0 := ok.h0
  have ok1 := ok.h1
  have ok2 := ok.h2
  have ok3 := ok.h3
  have ok4 := ok.h4
  have ok9 := ok.h9
  have h6' : ((r 6 : Nat) : Int) < 8 := by omega
  have hsp : spoiledF (madeR r).text (r 6 : Nat) = (madeR r).text := by unfold spoiledF; rw [if_pos h6']
  ktn_open
  refine Hold.out ?_
  (rename Fr _ _ _ _ => lF)
  (rename News _ _ _ _ => lN)
  have lN' : News g L' _ ((T9, tupN (madeR r) u1 u2 u3 u4) :: (Da, rowO r t nD) :: (Ta, listOf tvs.toArray nT) :: (Ka, listOf kvs.toArray nK) :: tabLed h dx l hs kt n nn vs ((k, listOf us.toArray kn) :: rest)) := lN
  have hkm : (k, listOf us.toArray kn) ∈ (T9, tupN (madeR r) u1 u2 u3 u4) :: (Da, rowO r t nD) :: (Ta, listOf tvs.toArray nT) :: (Ka, listOf kvs.toArray nK) :: tabLed h dx l hs kt n nn vs ((k, listOf us.toArray kn) :: rest) := .tail _ (.tail _ (.tail _ (.tail _ (.tail _ (.tail _ (.tail _ (.head _)))))))
  have hTk : T9 ≠ k := tupC_ne lN' (.head _) rfl hkm
  have hTl : T9 ≠ l := tupC_ne lN' (.head _) rfl (.tail _ (.tail _ (.tail _ (.tail _ (.tail _ (.tail _ (.head _)))))))
  have hhk : h ≠ k := data_ne lN' (.tail _ (.tail _ (.tail _ (.tail _ (.head _))))) hkm (fun e => by cases e)
  have hdk : dx ≠ k := data_ne lN' (.tail _ (.tail _ (.tail _ (.tail _ (.tail _ (.head _)))))) hkm (fun e => by cases e)
  refine append_K lF lN' (.tail hTk (.tail (hrk _ hDm) (.tail (hrk _ hTm) (.tail (hrk _ hKm) (.tail hhk (.tail hdk (.tail hlk (.head hrk)))))))) ?_ ?_
  rotate_left
  · rw [List.size_toArray, sizeLine_eq]; omega
  intro h₄ F₄ N₄
  rw [List.push_toArray] at N₄
  generalize hus : us ++ [.ref T9] = us5 at N₄
  have hu5 : Fa2 (NwAt ((T9, tupN (madeR r) u1 u2 u3 u4) :: rest)) us5 (nws ++ [madeR r]) := by
    rw [← hus]
    exact (hu.mono fun _ _ => NwAt.sub fun _ h => .tail _ h).snoc ⟨T9, u1, u2, u3, u4, rfl, .head _⟩
  have N₅ : News g L' h₄ (tabLed h dx l hs kt n nn vs ((T9, tupN (madeR r) u1 u2 u3 u4) :: (Da, rowO r t nD) :: (Ta, listOf tvs.toArray nT) :: (Ka, listOf kvs.toArray nK) :: (k, listOf us5.toArray (kn + 1)) :: rest)) := by
    refine news_sub N₄ ?_
    exact (sub_cons (.tail _ (.tail _ (.tail _ (.tail _ (.head _))))) (sub_cons (.tail _ (.tail _ (.tail _ (.tail _ (.tail _ (.head _)))))) (sub_cons (.tail _ (.tail _ (.tail _ (.tail _ (.tail _ (.tail _ (.head _))))))) (sub_cons (.head _) (sub_cons (.tail _ (.head _)) (sub_cons (.tail _ (.tail _ (.head _))) (sub_cons (.tail _ (.tail _ (.tail _ (.head _)))) (sub_cons (.tail _ (.tail _ (.tail _ (.tail _ (.tail _ (.tail _ (.tail _ (.head _)))))))) (fun _ h => .tail _ (.tail _ (.tail _ (.tail _ (.tail _ (.tail _ (.tail _ (.tail _ (h)))))))))))))))))
  have hrl5 : ∀ p ∈ (T9, tupN (madeR r) u1 u2 u3 u4) :: (Da, rowO r t nD) :: (Ta, listOf tvs.toArray nT) :: (Ka, listOf kvs.toArray nK) :: (k, listOf us5.toArray (kn + 1)) :: rest, p.1 ≠ l := List.forall_mem_cons.mpr ⟨hTl, List.forall_mem_cons.mpr ⟨hrl _ hDm, List.forall_mem_cons.mpr ⟨hrl _ hTm, List.forall_mem_cons.mpr ⟨hrl _ hKm, List.forall_mem_cons.mpr ⟨Ne.symm hlk, hrl⟩⟩⟩⟩⟩
  have hv5 : Fa2 (PairAt ((T9, tupN (madeR r) u1 u2 u3 u4) :: (Da, rowO r t nD) :: (Ta, listOf tvs.toArray nT) :: (Ka, listOf kvs.toArray nK) :: (k, listOf us5.toArray (kn + 1)) :: rest)) vs (qs.map prOf) := hv.mono fun _ _ => PairAt.sub fun _ h => .tail _ (.tail _ (.tail _ (.tail _ (.tail _ h))))
  have hsz5 : vs.length + vs.length ≤ sizeLine := by rw [sizeLine_eq]; omega
  have hperL : ((hearF qs (madeR r)).map prOf).length ≤ 3 := by rw [hper.length_eq]; exact bestL_len _
  clear lN lN' lF N₄
  ktn_open
  refine Hold.out ?_
  clear N8
  have sb8 : ∀ p ∈ fr8 ++ (T9, tupN (madeR r) u1 u2 u3 u4) :: (Da, rowO r t nD) :: (Ta, listOf tvs.toArray nT) :: (Ka, listOf kvs.toArray nK) :: (k, listOf us5.toArray (kn + 1)) :: rest, p ∈ (D8, listOf vs8.toArray n8) :: tabLed h dx l hs kt n nn8 vs8 ((T9, tupN (madeR r) u1 u2 u3 u4) :: (Da, rowO r t nD) :: (Ta, listOf tvs.toArray nT) :: (Ka, listOf kvs.toArray nK) :: (k, listOf us5.toArray (kn + 1)) :: (fr8 ++ rest)) :=
    sub_app (fun _ h => .tail _ (.tail _ (.tail _ (.tail _ (.tail _ (.tail _ (.tail _ (.tail _ (.tail _ (List.mem_append_left _ h)))))))))) (sub_cons (.tail _ (.tail _ (.tail _ (.tail _ (.head _))))) (sub_cons (.tail _ (.tail _ (.tail _ (.tail _ (.tail _ (.head _)))))) (sub_cons (.tail _ (.tail _ (.tail _ (.tail _ (.tail _ (.tail _ (.head _))))))) (sub_cons (.tail _ (.tail _ (.tail _ (.tail _ (.tail _ (.tail _ (.tail _ (.head _)))))))) (sub_cons (.tail _ (.tail _ (.tail _ (.tail _ (.tail _ (.tail _ (.tail _ (.tail _ (.head _))))))))) (fun _ h => .tail _ (.tail _ (.tail _ (.tail _ (.tail _ (.tail _ (.tail _ (.tail _ (.tail _ (List.mem_append_right _ h)))))))))))))))
  refine sorted_pairs F8 N7 (.head _) (fun _ _ => PairAt.sub sb8) f8 (by omega) (perm_apart hper (bestL_apart _)) ?_
  intro D6 c6 ws6 ps6 h6h F6 N6 l6 f6 p6 s6
  clear N7 F8
  have hub : Fa2 (NwAt ((D6, listOf ws6.toArray c6) :: (D8, listOf vs8.toArray n8) :: tabLed h dx l hs kt n nn8 vs8 ((T9, tupN (madeR r) u1 u2 u3 u4) :: (Da, rowO r t nD) :: (Ta, listOf tvs.toArray nT) :: (Ka, listOf kvs.toArray nK) :: (k, listOf us5.toArray (kn + 1)) :: (fr8 ++ rest)))) us5 (nws ++ [madeR r]) :=
    hu5.mono fun _ _ => NwAt.sub (sub_cons (.tail _ (.tail _ (.tail _ (.tail _ (.tail _ (.head _)))))) (fun _ h => .tail _ (.tail _ (.tail _ (.tail _ (.tail _ (.tail _ (.tail _ (.tail _ (.tail _ (.tail _ (List.mem_append_right _ h))))))))))))
  have Nb := news_front N6 (.tail _ (.tail _ (.tail _ (.tail _ (.tail _ (.tail _ (.tail _ (.tail _ (.tail _ (.head _))))))))))
  clear N6
  have hx5 : ∀ x ∈ nws ++ [madeR r], Plain x.text ∧ Plain x.name ∧ Plain (Txt.lower x.name) := fun x hx' => by
    rcases List.mem_append.mp hx' with hx' | hx'
    · exact ⟨(hx x hx').pt, (hx x hx').pn, (hx x hx').pl⟩
    · rw [List.mem_singleton.mp hx']
      exact ⟨hg.pt, hg.pn, hg.pl⟩
  have hszu : us5.length + us5.length ≤ sizeLine := by rw [← hus, List.length_append, sizeLine_eq, List.length_singleton]; omega
  ktn_open
  refine Hold.out ?_
  rename KtsTurn _ _ _ => lT
  have e : ps6 = ps9 := perm_sorted_eq (p6.trans (hper.trans p9.symm)) s6 s9 (perm_apart (p6.trans hper) (bestL_apart _))
  refine eq_prs N9 (.tail _ (.tail _ (List.mem_append_right _ (.head _)))) (.head _) (f6.mono fun _ _ => PairAt.sub fun p hp => .tail _ (.tail _ (List.mem_append_right _ (.tail _ (sb8 p hp))))) (f9.mono fun _ _ => PairAt.sub fun p hp => .tail _ (.tail _ (List.mem_append_left _ hp))) ?_ ?_ ?_ ?_
  · intro p hp
    obtain ⟨q, hq', rfl⟩ := List.mem_map.mp (p6.mem_iff.mp hp)
    rcases hearF_mem hq' with hq' | rfl
    · exact ⟨(hq q hq').pn, (hq q hq').pt⟩
    · exact ⟨hg.pn, hg.pt⟩
  · intro p hp
    obtain ⟨x, hx', rfl⟩ := bestL_mem (p9.mem_iff.mp hp)
    exact ⟨(hx5 x hx').2.1, (hx5 x hx').1⟩
  · show _ + 64 < _
    dsimp only [ktrTop]
    omega
  rw [decide_eq_true e]
  refine BodyRetS.mk (tabLed h dx l hs kt n nn8 vs8 ((k, listOf us5.toArray (kn + 1)) :: ((fr8 ++ [(T9, tupN (madeR r) u1 u2 u3 u4)]) ++ rest))) lT F9 N9 (fun p hp => .tail _ (.tail _ (List.mem_append_right _ ((sub_cons (.tail _ (.tail _ (.head _))) (sub_cons (.tail _ (.tail _ (.tail _ (.head _)))) (sub_cons (.tail _ (.tail _ (.tail _ (.tail _ (.head _))))) (sub_cons (.tail _ (.tail _ (.tail _ (.tail _ (.tail _ (.tail _ (.tail _ (.tail _ (.tail _ (.head _)))))))))) (sub_app (sub_app (fun _ h => .tail _ (.tail _ (.tail _ (.tail _ (.tail _ (.tail _ (.tail _ (.tail _ (.tail _ (.tail _ (List.mem_append_left _ h))))))))))) (sub_cons (.tail _ (.tail _ (.tail _ (.tail _ (.tail _ (.head _)))))) (fun _ h => (List.not_mem_nil h).elim))) (fun _ h => .tail _ (.tail _ (.tail _ (.tail _ (.tail _ (.tail _ (.tail _ (.tail _ (.tail _ (.tail _ (List.mem_append_right _ h)))))))))))))))) p hp)))) ⟨rfl, nn8, vs8, kn + 1, us5, fr8 ++ [(T9, tupN (madeR r) u1 u2 u3 u4)], rfl, ?_, ?_, ?_⟩
  · intro p hp
    rcases List.mem_append.mp hp with hp | hp
    · exact c8 p hp
    · rw [List.mem_singleton.mp hp]
  · refine f8.mono fun _ _ => PairAt.subC ?_
    intro q hq' hc
    rcases List.mem_append.mp hq' with hq' | hq'
    · exact List.mem_append_left _ (List.mem_append_left _ hq')
    rcases List.mem_cons.mp hq' with rfl | hq'
    · exact List.mem_append_left _ (List.mem_append_right _ (.head _))
    rcases List.mem_cons.mp hq' with rfl | hq'
    · exact List.mem_append_right _ hDm
    rcases List.mem_cons.mp hq' with rfl | hq'
    · exact List.mem_append_right _ hTm
    rcases List.mem_cons.mp hq' with rfl | hq'
    · exact List.mem_append_right _ hKm
    rcases List.mem_cons.mp hq' with rfl | hq'
    · exact absurd (Value.type.inj hc) (by decide)
    · exact List.mem_append_right _ hq'
  · exact hu5.mono fun _ _ => NwAt.sub (sub_cons (List.mem_append_left _ (List.mem_append_right _ (.head _))) fun _ h => List.mem_append_right _ h)

theorem rotF {h₀ g : Heap} {L : Addr} {h dx l : Addr} {hs : Int} {kt : Tok} {n nn : Nat} {vs : List Value} {a b c d : Addr × Obj} {r : Led} (N : News h₀ L g (a :: b :: c :: d :: tabLed h dx l hs kt n nn vs r)) : News h₀ L g (tabLed h dx l hs kt n nn vs (a :: b :: c :: d :: r)) := news_sub N ((sub_cons (.tail _ (.tail _ (.tail _ (.tail _ (.head _))))) (sub_cons (.tail _ (.tail _ (.tail _ (.tail _ (.tail _ (.head _)))))) (sub_cons (.tail _ (.tail _ (.tail _ (.tail _ (.tail _ (.tail _ (.head _))))))) (sub_cons (.head _) (sub_cons (.tail _ (.head _)) (sub_cons (.tail _ (.tail _ (.head _))) (sub_cons (.tail _ (.tail _ (.tail _ (.head _)))) (fun _ h => .tail _ (.tail _ (.tail _ (.tail _ (.tail _ (.tail _ (.tail _ (h))))))))))))))))
theorem first_bad (w : World) (Ta Ka Da : Addr) (tvs kvs : List Value) (nT nK nD : Nat) (r : Nat → Nat) (t : Nat → Tok) (h dx l : Addr) (hs : Int) (kt : Tok) (n nn : Nat) (vs : List Value) (k : Addr) (kn : Nat) (us : List Value) (rest : Led) (qs nws : List Nw) (hTm : (Ta, listOf tvs.toArray nT) ∈ rest) (hKm : (Ka, listOf kvs.toArray nK) ∈ rest) (hDm : (Da, rowO r t nD) ∈ rest) (hti : tvs[r 5]? = some (.ref h)) (hki : kvs[r 5]? = some (.ref k)) (htl : tvs.length = 3) (hkl : kvs.length = 3) (hrl : ∀ p ∈ rest, p.1 ≠ l) (hrk : ∀ p ∈ rest, p.1 ≠ k) (hlk : l ≠ k) (ok : RowOk r) (hlen : 11 ≤ (madeR r).text.length ∧ (madeR r).text.length ≤ 200) (hq : ∀ q ∈ qs, Good w.params q) (hx : ∀ q ∈ nws, Good w.params q) (hv : Fa2 (PairAt rest) vs (qs.map prOf)) (hu : Fa2 (NwAt rest) us nws) (hsv : vs.length ≤ 3) (hsu : us.length + us.length + 8 ≤ 1000000) (x : Str) (h6 : ¬ r 6 < 8) (hsp : spoiledF (madeR r).text (r 6 : Nat) = x) (hbad : Bad w.params x (if Txt.count x (Str.ofString "*") < 1 then Txt.count x (Str.ofString "*") else 1)) (hper : (qs.map prOf).Perm (bestL nws three)) : ConS w (14 + 1) 283 (tabLed h dx l hs kt n nn vs ((k, listOf us.toArray kn) :: rest)) [.ref Ta, .ref Ka, .ref Da] (fun v led' => v = .bool true ∧ led' = tabLed h dx l hs kt n nn vs ((k, listOf us.toArray kn) :: rest)) := by
  k_with_none
  (k_with "WStep" => with_reducible first | refine WStep.brkI ?_ | refine WStep.retI ?_)
  (k_with "FStep" => with_reducible first | refine FStep.brkI ?_ | refine FStep.retI ?_)
  (k_with "GStep" => with_reducible first | refine GStep.brkI ?_ | refine GStep.retI ?_ | refine GStep.cont ?_)
  (k_with "subscriptTail Name Constant ref int" => ((with_reducible show wpAny _ _ (subscriptTail (Expr.Name _ _) (Expr.Constant _ _ _) (Value.ref _) (Value.int _ _)) _ _ _); (with_unfolding_all first | (refine' lst_item_k ?kwN ?kwk1 ?kwh0 ?kwhk ?kwhx ?_; (case kwN => with_reducible assumption); (case kwk1 => k_dflt (first | exact .head _ | exact .tail _ (.head _) | exact .tail _ (.tail _ (.head _)) | exact .tail _ (.tail _ (.tail _ (.head _))) | exact .tail _ (.tail _ (.tail _ (.tail _ (.head _)))) | exact .tail _ (.tail _ (.tail _ (.tail _ (.tail _ (.head _))))) | exact .tail _ (.tail _ (.tail _ (.tail _ (.tail _ (.tail _ (.head _)))))) | exact .tail _ (.tail _ (.tail _ (.tail _ (.tail _ (.tail _ (.tail _ (.head _))))))) | exact .tail _ (.tail _ (.tail _ (.tail _ (.tail _ (.tail _ (.tail _ (.tail _ (.head _)))))))) | exact .tail _ (.tail _ (.tail _ (.tail _ (.tail _ (.tail _ (.tail _ (.tail _ (.tail _ (.head _))))))))) | exact .tail _ (.tail _ (.tail _ (.tail _ (.tail _ (.tail _ (.tail _ (.tail _ (.tail _ (.tail _ (.head _)))))))))) | exact .tail _ (.tail _ (.tail _ (.tail _ (.tail _ (.tail _ (.tail _ (.tail _ (.tail _ (.tail _ (.tail _ (.head _))))))))))))); (case kwh0 => decide); (case kwhk => decide); (case kwhx => exact rfl)) | (refine' tup_item_k ?kwN ?kwk1 ?kwh0 ?kwhk ?kwhx ?_; (case kwN => with_reducible assumption); (case kwk1 => k_dflt (first | exact .head _ | exact .tail _ (.head _) | exact .tail _ (.tail _ (.head _)) | exact .tail _ (.tail _ (.tail _ (.head _))) | exact .tail _ (.tail _ (.tail _ (.tail _ (.head _)))) | exact .tail _ (.tail _ (.tail _ (.tail _ (.tail _ (.head _))))) | exact .tail _ (.tail _ (.tail _ (.tail _ (.tail _ (.tail _ (.head _)))))) | exact .tail _ (.tail _ (.tail _ (.tail _ (.tail _ (.tail _ (.tail _ (.head _))))))) | exact .tail _ (.tail _ (.tail _ (.tail _ (.tail _ (.tail _ (.tail _ (.tail _ (.head _)))))))) | exact .tail _ (.tail _ (.tail _ (.tail _ (.tail _ (.tail _ (.tail _ (.tail _ (.tail _ (.head _))))))))) | exact .tail _ (.tail _ (.tail _ (.tail _ (.tail _ (.tail _ (.tail _ (.tail _ (.tail _ (.tail _ (.head _)))))))))) | exact .tail _ (.tail _ (.tail _ (.tail _ (.tail _ (.tail _ (.tail _ (.tail _ (.tail _ (.tail _ (.tail _ (.head _))))))))))))); (case kwh0 => decide); (case kwhk => decide); (case kwhx => exact rfl)))))
  (k_with "subscriptTail Name Subscript ref int" => ((with_reducible show wpAny _ _ (subscriptTail (Expr.Name _ _) (Expr.Subscript _ _ _) (Value.ref _) (Value.int _ _)) _ _ _); (k_dflt (refine' lst_item_nat ?kwN ?kwk1 ?kwhx ?kwhz ?_; (case kwN => with_reducible assumption); (case kwk1 => first | exact .head _ | exact .tail _ (.head _) | exact .tail _ (.tail _ (.head _)) | exact .tail _ (.tail _ (.tail _ (.head _))) | exact .tail _ (.tail _ (.tail _ (.tail _ (.head _)))) | exact .tail _ (.tail _ (.tail _ (.tail _ (.tail _ (.head _))))) | exact .tail _ (.tail _ (.tail _ (.tail _ (.tail _ (.tail _ (.head _)))))) | exact .tail _ (.tail _ (.tail _ (.tail _ (.tail _ (.tail _ (.tail _ (.head _))))))) | exact .tail _ (.tail _ (.tail _ (.tail _ (.tail _ (.tail _ (.tail _ (.tail _ (.head _)))))))) | exact .tail _ (.tail _ (.tail _ (.tail _ (.tail _ (.tail _ (.tail _ (.tail _ (.tail _ (.head _))))))))) | exact .tail _ (.tail _ (.tail _ (.tail _ (.tail _ (.tail _ (.tail _ (.tail _ (.tail _ (.tail _ (.head _)))))))))) | exact .tail _ (.tail _ (.tail _ (.tail _ (.tail _ (.tail _ (.tail _ (.tail _ (.tail _ (.tail _ (.tail _ (.head _)))))))))))); (case kwhx => with_reducible assumption); (case kwhz => omega)))))
  (k_with "compareOp Lt int int" => (k_dflt (first | refine lt_int_yes (by assumption) ?_ | refine lt_int_no (by assumption) ?_)))
  (k_with "compareOp NotEq int int" => (with_reducible refine ne_int_same ?_))
  (k_with "call builtin:list.append" => refine Hold.of ?_)
  (k_with "call builtin:sorted" => refine Hold.of ?_)
  (k_with "compareOp Eq ref ref" => refine Hold.of ?_)
  (k_with "call ref" => k_dflt (refine' ConK.use (made_con _ _ _ _ _ _ _ _ _ _ _ _ _ _ _ _ _ _ _ _ _ _ _ _ ?kwm0 ?kwm1 ?kwm2 ?kwm3 ?kwm4 ?kwm9) ?kwcB ?kwcF ?kwcX ?kwcN ?kwcT rfl ?kwcd ?kwcu ?_; (case kwcN => k_asm); (case kwcB => k_asm); (case kwcF => k_asm); (case kwcX => k_asm); (case kwcT => k_asm); (case kwcd => (refine dp_ok (by with_reducible assumption) ?_; k_dflt (exact rfl))); (case kwcu => (refine un_ok (by with_reducible assumption) ?_; k_dflt (exact rfl))); (case kwm0 => with_reducible assumption); (case kwm1 => with_reducible assumption); (case kwm2 => with_reducible assumption); (case kwm3 => with_reducible assumption); (case kwm4 => with_reducible assumption); (case kwm9 => with_reducible assumption); k_whole; intro v9 led9 h9 tk9 F9 N9 R9; obtain ⟨T9, u1, u2, u3, u4, e9, z9⟩ := R9; rw [z9] at N9; clear z9 led9; subst e9))
  (k_with "call ref" => (refine' Con.use (spoiled_con _ _ _ _ _ _ ?kwhx) ?kwcB ?kwcF ?kwcX ?kwcN ?kwcT rfl ?kwcd ?kwcu ?_; (case kwcN => k_asm); (case kwcB => k_asm); (case kwcF => k_asm); (case kwcX => k_asm); (case kwcT => k_asm); (case kwcd => (refine dp_ok (by with_reducible assumption) ?_; k_dflt (exact rfl))); (case kwcu => (refine un_ok (by with_reducible assumption) ?_; k_dflt (exact rfl))); (case kwhx => with_reducible assumption); k_whole; intro v9 led9 h9 tk9 F9 N9 R9; obtain ⟨z9, t9, e9⟩ := R9; rw [z9] at N9; clear z9 led9; (rename spoiledF _ _ = _ => hsp9; rw [hsp9] at e9); subst e9))
  (k_with "call ref" => k_dflt (refine' ConS.use (hear_con _ _ _ _ _ _ _ _ _ _ _ _ _ ?kwhg ?kwhq ?kwhv ?kwhz ?kwhr) ?kwcB ?kwcF ?kwcX ?kwcN ?kwcT rfl ?kwcd ?kwcu ?kwcXB ?kwcTB ?kwcD ?_; (case kwcN => k_asm); (case kwcF => k_asm); (case kwcB => k_asm); (case kwcX => k_asm); (case kwcT => k_asm); (case kwcXB => k_asm); (case kwcTB => k_asm); (case kwcD => k_asm); (case kwcd => (refine dp_ok (by with_reducible assumption) ?_; k_dflt (exact rfl))); (case kwcu => (refine un_ok (by with_reducible assumption) ?_; k_dflt (exact rfl))); (case kwhg => with_reducible assumption); (case kwhv => with_reducible assumption); (case kwhq => with_reducible assumption); (case kwhz => with_reducible assumption); (case kwhr => with_reducible assumption); k_whole; intro v9 g9 led9 h9 tk9 Tn9 B9 X9 Tp9 D9 F9 N8 R9; obtain ⟨⟨u9, e9⟩, vs8, nn8, fr8, z9, c8, f8, -⟩ := R9; rw [z9] at N8; clear z9 led9; subst e9; replace N8 := heard_front N8; have q8 := f8.length))
  (k_with "call ref" => k_dflt (refine' ConK.use (items_con _ _ _ _ _ _ _ _ _ _ ?kwhz) ?kwcB ?kwcF ?kwcX ?kwcN ?kwcT rfl ?kwcd ?kwcu ?_; (case kwcN => k_asm); (case kwcB => k_asm); (case kwcF => k_asm); (case kwcX => k_asm); (case kwcT => k_asm); (case kwcd => (refine dp_ok (by with_reducible assumption) ?_; k_dflt (exact rfl))); (case kwcu => (refine un_ok (by with_reducible assumption) ?_; k_dflt (exact rfl))); (case kwhz => (rw [sizeLine_eq]; omega)); k_whole; intro v9 led9 h8 tk8 F8 N7 R9; obtain ⟨D8, n8, e9, o8, z9⟩ := R9; rw [z9] at N7; clear z9 led9; subst e9))
  (k_with "call ref" => k_dflt (refine' ConK.use (best_con _ _ _ _ _ _ ?kwhv ?kwhp ?kwhz) ?kwcB ?kwcF ?kwcX ?kwcN ?kwcT rfl ?kwcd ?kwcu ?_; (case kwcN => k_asm); (case kwcB => k_asm); (case kwcF => k_asm); (case kwcX => k_asm); (case kwcT => k_asm); (case kwcd => (refine dp_ok (by with_reducible assumption) ?_; k_dflt (exact rfl))); (case kwcu => (refine un_ok (by with_reducible assumption) ?_; k_dflt (exact rfl))); (case kwhv => with_reducible assumption); (case kwhp => with_reducible assumption); (case kwhz => with_reducible assumption); k_whole; intro v9 led9 h9 tk9 F9 N9 R9; obtain ⟨D9, c9, ws9, ps9, fr9, e9, z9, f9, t9, o9, p9, s9⟩ := R9; rw [z9] at N9; clear z9 led9; subst e9))
  (k_with "call ref" => k_dflt (refine' ConS.use (hear_bad _ _ _ _ _ _ _ _ _ _ _ _ _ ?kwhb) ?kwcB ?kwcF ?kwcX ?kwcN ?kwcT rfl ?kwcd ?kwcu ?kwcXB ?kwcTB ?kwcD ?_; (case kwcN => (rename News _ _ _ _ => N8; exact rotF N8)); (case kwcF => k_asm); (case kwcB => k_asm); (case kwcX => k_asm); (case kwcT => k_asm); (case kwcXB => k_asm); (case kwcTB => k_asm); (case kwcD => k_asm); (case kwcd => (refine dp_ok (by with_reducible assumption) ?_; k_dflt (exact rfl))); (case kwcu => (refine un_ok (by with_reducible assumption) ?_; k_dflt (exact rfl))); (case kwhb => with_reducible assumption); k_whole; intro v9 g9 led9 h9 tk9 Tn9 B9 X9 T9 D9 F9 N9 R9; obtain ⟨z9, u9, e9⟩ := R9; rw [z9] at N9; clear z9 led9; subst e9))
  revert hTm hKm hDm hti hki htl hkl hrl hrk hlk ok hlen hq hx hv hu hsv hsu h6 hsp hbad hper
  revert w Ta Ka Da tvs kvs nT nK nD r t h dx l hs kt n nn vs k kn us rest qs nws x
  refine henk13 (by repeat' first | exact has_nat | exact has_world | exact has_list | exact has_str | exact has_int | exact has_val | exact has_bool | exact has_fun has_nat | exact ⟨⟨0, 0, Str.empty, Str.empty⟩⟩ | apply has_pair) ?_
  intro w Ta Ka Da tvs kvs nT nK nD r t h dx
  clear_value w Ta Ka Da tvs kvs nT nK nD r t h dx
  refine henk13 (by repeat' first | exact has_nat | exact has_world | exact has_list | exact has_str | exact has_int | exact has_val | exact has_bool | exact has_fun has_nat | exact ⟨⟨0, 0, Str.empty, Str.empty⟩⟩ | apply has_pair) ?_
  intro l hs kt n nn vs k kn us rest qs nws x
  clear_value l hs kt n nn vs k kn us rest qs nws x
  intro hTm hKm hDm hti hki htl hkl hrl hrk hlk ok hlen hq hx hv hu hsv hsu h6 hsp hbad hper
  refine' conS_of_body (binds := [(Str.ofString "tables", .ref Ta), (Str.ofString "known", .ref Ka), (Str.ofString "row", .ref Da)]) ?ho ?hcd ?hb ?hloc ?h ?h1 ?h2 ?h3 ?h4
  (case ho => k_is)
  (case hcd => k_is)
  (case hb => exact fun s => BindsTo.of_eq rfl)
  (case hloc => exact locs rfl)
  (case h1 => exact rfl)
  (case h2 => exact rfl)
  (case h3 => exact rfl)
  (case h4 => decide)
  refine henkC ?_
  intro mean mg mb dp un gd outer A₀ base g L' s
  clear_value mean mg mb dp un gd outer A₀ base g L' s
  intro B F X N T hdp hun XB TB D hA
  have N0 : News g L' s.heap ((Da, rowO r t nD) :: (Ta, listOf tvs.toArray nT) :: (Ka, listOf kvs.toArray nK) :: tabLed h dx l hs kt n nn vs ((k, listOf us.toArray kn) :: rest)) := by
    refine news_sub N ?_
    exact sub_cons (.tail _ (.tail _ (.tail _ (.tail _ hDm)))) (sub_cons (.tail _ (.tail _ (.tail _ (.tail _ hTm)))) (sub_cons (.tail _ (.tail _ (.tail _ (.tail _ hKm)))) (fun _ h => h)))
  clear N
  have ok0 := ok.h0
  have ok1 := ok.h1
  have ok2 := ok.h2
  have ok3 := ok.h3
  have ok4 := ok.h4
  have ok9 := ok.h9
  have h6' : ¬ ((r 6 : Nat) : Int) < 8 := by omega
  have hlv := hv.length
  have hperL : (qs.map prOf).length ≤ 3 := by rw [hper.length_eq]; exact bestL_len _
  ktn_open
  refine Hold.out ?_
  (rename Fr _ _ _ _ => F8)
  (rename News _ _ _ _ => N7)
  obtain ⟨e0, N7⟩ : ∃ e0, News _ L' _ ((D8, listOf vs.toArray n8) :: tabLed h dx l hs kt n nn vs (e0 :: (Da, rowO r t nD) :: (Ta, listOf tvs.toArray nT) :: (Ka, listOf kvs.toArray nK) :: (k, listOf us.toArray kn) :: rest)) := ⟨_, N7⟩
  have sb8 : ∀ p ∈ rest, p ∈ (D8, listOf vs.toArray n8) :: tabLed h dx l hs kt n nn vs (e0 :: (Da, rowO r t nD) :: (Ta, listOf tvs.toArray nT) :: (Ka, listOf kvs.toArray nK) :: (k, listOf us.toArray kn) :: rest) := fun _ h => .tail _ (.tail _ (.tail _ (.tail _ (.tail _ (.tail _ (.tail _ (.tail _ (.tail _ (h)))))))))
  refine sorted_pairs F8 N7 (.head _) (fun _ _ => PairAt.sub sb8) hv hsv (perm_apart hper (bestL_apart _)) ?_
  intro D6 c6 ws6 ps6 h6h F6 N6 l6 f6 p6 s6
  clear N7 F8
  have hub : Fa2 (NwAt ((D6, listOf ws6.toArray c6) :: (D8, listOf vs.toArray n8) :: tabLed h dx l hs kt n nn vs (e0 :: (Da, rowO r t nD) :: (Ta, listOf tvs.toArray nT) :: (Ka, listOf kvs.toArray nK) :: (k, listOf us.toArray kn) :: rest))) us nws := hu.mono fun _ _ => NwAt.sub fun p hp => .tail _ (sb8 p hp)
  have Nb := news_front N6 (.tail _ (.tail _ (.tail _ (.tail _ (.tail _ (.tail _ (.tail _ (.tail _ (.tail _ (.head _))))))))))
  clear N6
  have hx5 : ∀ x ∈ nws, Plain x.text ∧ Plain x.name ∧ Plain (Txt.lower x.name) := fun x hx' => ⟨(hx x hx').pt, (hx x hx').pn, (hx x hx').pl⟩
  have hszu : us.length + us.length ≤ sizeLine := by rw [sizeLine_eq]; omega
  ktn_open
  refine Hold.out ?_
  rename KtsTurn _ _ _ => lT
  have e : ps6 = ps9 := perm_sorted_eq (p6.trans (hper.trans p9.symm)) s6 s9 (perm_apart (p6.trans hper) (bestL_apart _))
  refine eq_prs N9 (.tail _ (.tail _ (List.mem_append_right _ (.head _)))) (.head _) (f6.mono fun _ _ => PairAt.sub fun p hp => .tail _ (.tail _ (List.mem_append_right _ (.tail _ (sb8 p hp))))) (f9.mono fun _ _ => PairAt.sub fun p hp => .tail _ (.tail _ (List.mem_append_left _ hp))) ?_ ?_ ?_ ?_
  · intro p hp
    obtain ⟨q, hq', rfl⟩ := List.mem_map.mp (p6.mem_iff.mp hp)
    exact ⟨(hq q hq').pn, (hq q hq').pt⟩
  · intro p hp
    obtain ⟨x, hx', rfl⟩ := bestL_mem (p9.mem_iff.mp hp)
    exact ⟨(hx5 x hx').2.1, (hx5 x hx').1⟩
  · show _ + 64 < _
    dsimp only [ktrTop]
    omega
  rw [decide_eq_true e]
  exact BodyRetS.mk (tabLed h dx l hs kt n nn vs ((k, listOf us.toArray kn) :: rest)) lT F9 N9 (fun p hp => .tail _ (.tail _ (List.mem_append_right _ ((sub_cons (.tail _ (.tail _ (.head _))) (sub_cons (.tail _ (.tail _ (.tail _ (.head _)))) (sub_cons (.tail _ (.tail _ (.tail _ (.tail _ (.head _))))) (sub_cons (.tail _ (.tail _ (.tail _ (.tail _ (.tail _ (.tail _ (.tail _ (.tail _ (.tail _ (.head _)))))))))) (fun _ h => .tail _ (.tail _ (.tail _ (.tail _ (.tail _ (.tail _ (.tail _ (.tail _ (.tail _ (.tail _ (h))))))))))))))) p hp)))) ⟨rfl, rfl⟩

end
end Mine
end
section
open PySem PySem.W PyProof.Rows PySem.Spec PySem.Calls
set_option maxRecDepth 100000
set_option maxHeartbeats 8000000
namespace Mine
theorem offD17 : True := by
  w_top off
  trivial
theorem fillD17 : (PySem.Challenge.rw_wf0088_01, hd.heap_1) = (PySem.Challenge.rw_wf0088_01, hd.heap_1) := by
  k_fill
  rfl
section
theorem tell_sub {h₀ g : Heap} {L : Addr} {h dx l : Addr} {hs : Int} {kt : Tok} {n nn : Nat} {vs : List Value} {a b c : Addr × Obj} {r : Led} (N : News h₀ L g (a :: b :: c :: tabLed h dx l hs kt n nn vs r)) : News h₀ L g (tabLed h dx l hs kt n nn vs (a :: b :: c :: r)) := news_sub N ((sub_cons (.tail _ (.tail _ (.tail _ (.head _)))) (sub_cons (.tail _ (.tail _ (.tail _ (.tail _ (.head _))))) (sub_cons (.tail _ (.tail _ (.tail _ (.tail _ (.tail _ (.head _)))))) (sub_cons (.head _) (sub_cons (.tail _ (.head _)) (sub_cons (.tail _ (.tail _ (.head _))) (fun _ h => .tail _ (.tail _ (.tail _ (.tail _ (.tail _ (.tail _ (h))))))))))))))
def tellF (qs : List Nw) (l : List Nw) : List Nw := l.foldl hearF qs
theorem tellF_more {qs l : List Nw} {i : Nat} {q : Nw} (h : l[i]? = some q) : tellF qs (l.take (i + 1)) = hearF (tellF qs (l.take i)) q := by
  unfold tellF
  rw [take_more h, List.foldl_append]
  rfl
theorem putF_len (qs : List Nw) (x : Nw) : (putF qs x).length ≤ qs.length + 1 := by
  unfold putF
  rw [List.length_append, List.length_singleton]
  exact Nat.succ_le_succ (List.length_filter_le _ _)
theorem hearF_len (qs : List Nw) (x : Nw) : (hearF qs x).length ≤ qs.length + 1 := by
  unfold hearF
  split
  · exact putF_len _ _
  · split
    · exact putF_len _ _
    · exact Nat.le_succ _
theorem tellF_len : ∀ (l qs : List Nw), (tellF qs l).length ≤ qs.length + l.length
  | [], qs => Nat.le_refl _
  | x :: l, qs => by
    have h := tellF_len l (hearF qs x)
    have h2 := hearF_len qs x
    show (tellF (hearF qs x) l).length ≤ _
    rw [List.length_cons]
    omega
theorem tellF_mem : ∀ (l qs : List Nw) {q : Nw}, q ∈ tellF qs l → q ∈ qs ∨ q ∈ l
  | [], qs, q, h => .inl h
  | x :: l, qs, q, h => by
    rcases tellF_mem l (hearF qs x) h with h | h
    · rcases hearF_mem h with h | rfl
      · exact .inl h
      · exact .inr (.head _)
    · exact .inr (.tail _ h)
def TJ (Da h dx l : Addr) (oD : Obj) (hs : Int) (kt : Tok) (n : Nat) (rest : Led) (qs qs1 : List Nw) (Ta : Addr) (j : Nat) (i : Nat) (m : Str → Option Value) (nx : Led) : Prop :=
  ∃ nn' vs' fresh tj, nx = (Da, oD) :: tabLed h dx l hs kt n nn' vs' (fresh ++ rest) ∧ (∀ p ∈ fresh, p.2.cls = .type "tuple") ∧ Fa2 (PairAt (fresh ++ rest)) vs' ((tellF qs (qs1.take i)).map prOf) ∧ (∀ p ∈ fresh, p.1 ≠ Da) ∧ m (Str.ofString "tables") = some (.ref Ta) ∧ m (Str.ofString "other") = some (.int (j : Int) tj)
theorem tell_con (w : World) (Ta : Addr) (tvs : List Value) (nT : Nat) (i1 j1 : Nat) (ti tj : Tok) (h dx l : Addr) (hs : Int) (kt : Tok) (n nn : Nat) (vs : List Value) (ha dxa la : Addr) (hsa : Int) (kta : Tok) (na nna : Nat) (vsa : List Value) (rest : Led) (qs qs1 : List Nw) (hTm : (Ta, listOf tvs.toArray nT) ∈ rest) (hm1 : (ha, instObj 232 dxa) ∈ rest) (hm2 : (dxa, hdD hsa kta la na) ∈ rest) (hm3 : (la, listOf vsa.toArray nna) ∈ rest) (hti : tvs[i1]? = some (.ref ha)) (htj : tvs[j1]? = some (.ref h)) (htl : tvs.length = 3) (hrl : ∀ p ∈ rest, p.1 ≠ l) (hq : ∀ q ∈ qs, Good w.params q) (hq1 : ∀ q ∈ qs1, Good w.params q) (hv : Fa2 (PairAt rest) vs (qs.map prOf)) (hva : Fa2 (PairAt rest) vsa (qs1.map prOf)) (hsv : qs.length ≤ 3) (hsa3 : qs1.length ≤ 3) : ConS w (14 + 1) 290 (tabLed h dx l hs kt n nn vs rest) [.ref Ta, .int (i1 : Int) ti, .int (j1 : Int) tj] (fun v led' => v = .none ∧ ∃ nn' vs' fresh, led' = tabLed h dx l hs kt n nn' vs' (fresh ++ rest) ∧ (∀ p ∈ fresh, p.2.cls = .type "tuple") ∧ Fa2 (PairAt (fresh ++ rest)) vs' ((tellF qs qs1).map prOf)) := by
  k_with_none
  (k_with "WStep" => with_reducible first | refine WStep.brkI ?_ | refine WStep.retI ?_)
  (k_with "FStep" => with_reducible first | refine FStep.brkI ?_ | refine FStep.retI ?_)
  (k_with "GStep" => with_reducible first | refine GStep.brkI ?_ | refine GStep.retI ?_ | refine GStep.cont ?_)
  (k_with "subscriptTail Name Name ref int" => ((with_reducible show wpAny _ _ (subscriptTail (Expr.Name _ _) (Expr.Name _ _) (Value.ref _) (Value.int _ _)) _ _ _); (k_dflt (refine' lst_item_nat ?kwN ?kwk1 ?kwhx ?kwhz ?_; (case kwN => with_reducible assumption); (case kwk1 => first | exact .head _ | exact .tail _ (.head _) | exact .tail _ (.tail _ (.head _)) | exact .tail _ (.tail _ (.tail _ (.head _))) | exact .tail _ (.tail _ (.tail _ (.tail _ (.head _)))) | exact .tail _ (.tail _ (.tail _ (.tail _ (.tail _ (.head _))))) | exact .tail _ (.tail _ (.tail _ (.tail _ (.tail _ (.tail _ (.head _)))))) | exact .tail _ (.tail _ (.tail _ (.tail _ (.tail _ (.tail _ (.tail _ (.head _))))))) | exact .tail _ (.tail _ (.tail _ (.tail _ (.tail _ (.tail _ (.tail _ (.tail _ (.head _)))))))) | exact .tail _ (.tail _ (.tail _ (.tail _ (.tail _ (.tail _ (.tail _ (.tail _ (.tail _ (.head _))))))))) | exact .tail _ (.tail _ (.tail _ (.tail _ (.tail _ (.tail _ (.tail _ (.tail _ (.tail _ (.tail _ (.head _)))))))))) | exact .tail _ (.tail _ (.tail _ (.tail _ (.tail _ (.tail _ (.tail _ (.tail _ (.tail _ (.tail _ (.tail _ (.head _)))))))))))); (case kwhx => with_reducible assumption); (case kwhz => omega)))))
  (k_with "exec For Name Call cons nil" => k_dflt (refine for_start ?_))
  (k_with "call ref" => k_dflt (refine' ConK.use (values_con _ _ _ _ _ _ _ _ _ _ _ ?kwhv ?kwhz) ?kwcB ?kwcF ?kwcX ?kwcN ?kwcT rfl ?kwcd ?kwcu ?_; (case kwcN => (rename News _ _ _ (_ :: _) => N8; exact N8)); (case kwcB => k_asm); (case kwcF => k_asm); (case kwcX => k_asm); (case kwcT => k_asm); (case kwcd => (refine dp_ok (by with_reducible assumption) ?_; k_dflt (exact rfl))); (case kwcu => (refine un_ok (by with_reducible assumption) ?_; k_dflt (exact rfl))); (case kwhv => with_reducible assumption); (case kwhz => (rw [sizeLine_eq]; omega)); k_whole; intro v9 led9 h9 tk9 F9 N9 R9; obtain ⟨D9, ws9, e9, o9, f9, z9⟩ := R9; rw [z9] at N9; clear z9 led9; subst e9))
  (k_with "call ref" => k_dflt (refine' ConS.use (hear_con _ _ _ _ _ _ _ _ _ _ _ _ _ ?kwhg ?kwhq ?kwhv ?kwhz ?kwhr) ?kwcB ?kwcF ?kwcX ?kwcN ?kwcT rfl ?kwcd ?kwcu ?kwcXB ?kwcTB ?kwcD ?_; (case kwcN => (rename News _ _ _ _ => N8; exact tell_sub N8)); (case kwcF => k_asm); (case kwcB => k_asm); (case kwcX => k_asm); (case kwcT => k_asm); (case kwcXB => k_asm); (case kwcTB => k_asm); (case kwcD => k_asm); (case kwcd => (refine dp_ok (by with_reducible assumption) ?_; k_dflt (exact rfl))); (case kwcu => (refine un_ok (by with_reducible assumption) ?_; k_dflt (exact rfl))); (case kwhg => with_reducible assumption); (case kwhv => with_reducible assumption); (case kwhq => with_reducible assumption); (case kwhz => with_reducible assumption); (case kwhr => with_reducible assumption); k_whole; intro v9 g8 led9 h8 tk8 Tn8 B8 X8 T8 D8 F8 N8 R9; obtain ⟨⟨u8, e9⟩, vs8, nn8, fr8, z9, c8, f8⟩ := R9; rw [z9] at N8; clear z9 led9; subst e9))
  revert hTm hm1 hm2 hm3 hti htj htl hrl hq hq1 hv hva hsv hsa3
  revert w Ta tvs nT i1 j1 ti tj h dx l hs kt n nn vs ha dxa la hsa kta na nna vsa rest qs qs1
  refine henk14 (by repeat' first | exact has_nat | exact has_world | exact has_list | exact has_str | exact has_int | exact has_val | exact has_bool | exact has_fun has_nat | exact ⟨⟨0, 0, Str.empty, Str.empty⟩⟩ | apply has_pair) ?_
  intro w Ta tvs nT i1 j1 ti tj h dx l hs kt n
  clear_value w Ta tvs nT i1 j1 ti tj h dx l hs kt n
  refine henk13 (by repeat' first | exact has_nat | exact has_world | exact has_list | exact has_str | exact has_int | exact has_val | exact has_bool | exact has_fun has_nat | exact ⟨⟨0, 0, Str.empty, Str.empty⟩⟩ | apply has_pair) ?_
  intro nn vs ha dxa la hsa kta na nna vsa rest qs qs1
  clear_value nn vs ha dxa la hsa kta na nna vsa rest qs qs1
  intro hTm hm1 hm2 hm3 hti htj htl hrl hq hq1 hv hva hsv hsa3
  refine' conS_of_body (binds := [(Str.ofString "tables", .ref Ta), (Str.ofString "one", .int (i1 : Int) ti), (Str.ofString "other", .int (j1 : Int) tj)]) ?ho ?hcd ?hb ?hloc ?h ?h1 ?h2 ?h3 ?h4
  (case ho => k_is)
  (case hcd => k_is)
  (case hb => exact fun s => BindsTo.of_eq rfl)
  (case hloc => exact locs rfl)
  (case h1 => exact rfl)
  (case h2 => exact rfl)
  (case h3 => exact rfl)
  (case h4 => decide)
  refine henkC ?_
  intro mean mg mb dp un gd outer A₀ base g L' s
  clear_value mean mg mb dp un gd outer A₀ base g L' s
  intro B F X N T hdp hun XB TB D hA
  have hlv := hv.length
  have hlva := hva.length
  have hla3 : (qs1.map prOf).length ≤ 3 := by rw [List.length_map]; exact hsa3
  have N0 : News g L' s.heap (tabLed ha dxa la hsa kta na nna vsa ((Ta, listOf tvs.toArray nT) :: tabLed h dx l hs kt n nn vs rest)) := by
    refine news_sub N ?_
    exact sub_cons ((.tail _ (.tail _ (.tail _ (hm1))))) (sub_cons ((.tail _ (.tail _ (.tail _ (hm2))))) (sub_cons ((.tail _ (.tail _ (.tail _ (hm3))))) (sub_cons ((.tail _ (.tail _ (.tail _ (hTm))))) (fun _ h => h))))
  have hva0 : Fa2 (PairAt ((Ta, listOf tvs.toArray nT) :: tabLed h dx l hs kt n nn vs rest)) vsa (qs1.map prOf) := hva.mono fun _ _ => PairAt.sub fun _ h => (.tail _ (.tail _ (.tail _ (.tail _ (h)))))
  clear N
  have X2 := X
  have T2 := T
  ktn_open
  refine Hold.out ?_
  (rename Fr _ _ _ _ => lF)
  (rename News _ _ _ _ => lN)
  clear X2 T2 N0
  have lN' := news_sub lN (news' := (D9, LCg.lst ws9) :: tabLed h dx l hs kt n nn vs ([] ++ rest)) (sub_cons (.head _) (fun _ h => (.tail _ (.tail _ (.tail _ (.tail _ (.tail _ (h))))))))
  have hlD : l ≠ D9 := o9 _ ((.tail _ (.tail _ (.tail _ (.tail _ (.tail _ (.tail _ (.head _))))))))
  refine for_listC (vs := ws9) (nn := _) (Gd w mean mg mb A₀ base outer g) (TJ D9 h dx l (LCg.lst ws9) hs kt n rest qs qs1 Ta j1) rfl (.head _) (.inl fun _ _ => rfl) (fun g' e => by rw [e.t.size]; exact Nat.le_of_lt (Nat.lt_of_le_of_lt lF.above lF.ns.lt)) ⟨KtsTurn.refl, B, X, T, D⟩ lF lN' ?h0 ?hJl ?turn ?done
  case h0 => exact ⟨nn, vs, [], _, rfl, (fun _ h => nomatch h), hv, (fun _ h => nomatch h), rfl, rfl⟩
  case hJl => rintro i m nx ⟨nn', vs', fresh, tj', rfl, _⟩; exact .head _
  case turn =>
    rintro i v g' m₁ news₁ h' tk I it hvi ⟨nn', vs', fresh, tj', rfl, hfr, hv', hfD, e1, e2⟩ hit ⟨Gt, B', X', T', D'⟩ hoff hlt' F' N'
    rw [map2 e1 e2] at F'
    obtain ⟨p, hpi, tx, rfl⟩ := f9.get hvi
    rw [List.getElem?_map] at hpi
    obtain ⟨q, hqi, rfl⟩ := Option.map_eq_some_iff.mp hpi
    have hgq : Good w.params q := hq1 q (List.mem_of_getElem? hqi)
    have hqt : ∀ x ∈ tellF qs (qs1.take i), Good w.params x := fun x hx => by
      rcases tellF_mem _ _ hx with h | h
      · exact hq x h
      · exact hq1 x (List.mem_of_mem_take h)
    have hIl : I ≠ l := fun e => hoff _ (.tail _ (.tail _ (.tail _ (.head _)))) e.symm
    have hrl5 : ∀ p ∈ (Ta, listOf tvs.toArray nT) :: (I, it) :: (D9, LCg.lst ws9) :: (fresh ++ rest), p.1 ≠ l := by
      refine List.forall_mem_cons.mpr ⟨hrl _ hTm, List.forall_mem_cons.mpr ⟨hIl, List.forall_mem_cons.mpr ⟨Ne.symm hlD, fun p hp => ?_⟩⟩⟩
      rcases List.mem_append.mp hp with hp' | hp'
      · exact tupC_ne N' ((.tail _ (.tail _ (.tail _ (.tail _ (.tail _ (hp))))))) (hfr p hp') ((.tail _ (.tail _ (.tail _ (.tail _ (.head _))))))
      · exact hrl p hp'
    have hv5 : Fa2 (PairAt ((Ta, listOf tvs.toArray nT) :: (I, it) :: (D9, LCg.lst ws9) :: (fresh ++ rest))) vs' ((tellF qs (qs1.take i)).map prOf) := hv'.mono fun _ _ => PairAt.sub fun _ h => (.tail _ (.tail _ (.tail _ (h))))
    have hsz5 : vs'.length + vs'.length ≤ sizeLine := by
      have a1 := hv'.length
      have a2 := tellF_len (qs1.take i) qs
      rw [List.length_map] at a1
      rw [List.length_take] at a2
      rw [sizeLine_eq]; omega
    have hTD : (Ta, listOf tvs.toArray nT) ∈ (I, it) :: (D9, LCg.lst ws9) :: tabLed h dx l hs kt n nn' vs' (fresh ++ rest) := (.tail _ (.tail _ (.tail _ (.tail _ (.tail _ (List.mem_append_right _ hTm))))))
    have N1 := news_front N' hTD
    clear lN lN' lF N'
    ktn_open
    obtain ⟨f8, o8⟩ := f8
    refine GStep.mk ((D9, LCg.lst ws9) :: tabLed h dx l hs kt n nn8 vs8 ((fr8 ++ fresh) ++ rest)) ⟨Gt.trans Tn8, B8, X8, T8, D8⟩ F8 N8 ((.tail _ (.tail _ (.tail _ (List.mem_append_right _ (.tail _ (.head _))))))) (fun p hp => ?_) (fun p hp => ?_) ⟨nn8, vs8, fr8 ++ fresh, _, rfl, ?_, ?_, ?_, rfl, rfl⟩
    · exact (sub_cons ((.tail _ (.tail _ (.tail _ (List.mem_append_right _ (.tail _ (.tail _ (.head _)))))))) (sub_cons (.head _) (sub_cons (.tail _ (.head _)) (sub_cons (.tail _ (.tail _ (.head _))) (sub_app (sub_app (fun _ h => (.tail _ (.tail _ (.tail _ (List.mem_append_left _ h))))) (fun _ h => (.tail _ (.tail _ (.tail _ (List.mem_append_right _ ((.tail _ (.tail _ (.tail _ (List.mem_append_left _ h))))))))))) (fun _ h => (.tail _ (.tail _ (.tail _ (List.mem_append_right _ ((.tail _ (.tail _ (.tail _ (List.mem_append_right _ h))))))))))))))) p hp
    · rcases List.mem_cons.mp hp with rfl | hp
      · exact hoff _ (.head _)
      rcases List.mem_cons.mp hp with rfl | hp
      · exact hoff _ (.tail _ (.head _))
      rcases List.mem_cons.mp hp with rfl | hp
      · exact hoff _ (.tail _ (.tail _ (.head _)))
      rcases List.mem_cons.mp hp with rfl | hp
      · exact Ne.symm hIl
      rcases List.mem_append.mp hp with hp | hp
      · rcases List.mem_append.mp hp with hp | hp
        · exact Ne.symm (o8 p hp _ ((.tail _ (.tail _ (.tail _ (.tail _ (.head _)))))))
        · exact hoff p ((.tail _ (.tail _ (.tail _ (.tail _ (List.mem_append_left _ hp))))))
      · exact hoff p ((.tail _ (.tail _ (.tail _ (.tail _ (List.mem_append_right _ hp))))))
    · intro p hp
      rcases List.mem_append.mp hp with hp | hp
      · exact c8 p hp
      · exact hfr p hp
    · rw [tellF_more hqi]
      refine f8.mono fun _ _ => PairAt.subC ?_
      intro q' hq' hc
      rcases List.mem_append.mp hq' with hq' | hq'
      · exact List.mem_append_left _ (List.mem_append_left _ hq')
      rcases List.mem_cons.mp hq' with rfl | hq'
      · exact List.mem_append_right _ hTm
      rcases List.mem_cons.mp hq' with rfl | hq'
      · exact absurd hc hit
      rcases List.mem_cons.mp hq' with rfl | hq'
      · exact absurd (Value.type.inj hc) (by decide)
      rcases List.mem_append.mp hq' with hq' | hq'
      · exact List.mem_append_left _ (List.mem_append_right _ hq')
      · exact List.mem_append_right _ hq'
    · intro p hp
      rcases List.mem_append.mp hp with hp | hp
      · exact Ne.symm (o8 p hp _ ((.tail _ (.tail _ (.tail _ (.tail _ (.tail _ (.head _))))))))
      · exact hfD p hp
  case done =>
    rintro g' m₁ news₁ h' tk ⟨nn', vs', fresh, tj', rfl, hfr, hv', hfD, e1, e2⟩ ⟨Gt, B', X', T', D'⟩ F' N'
    clear lN lN' lF
    ktn_open
    rw [List.take_of_length_le (Nat.le_of_eq (by rw [f9.length, List.length_map]))] at hv'
    exact BodyRetS.mkN (tabLed h dx l hs kt n nn' vs' (fresh ++ rest)) Gt F' N' (fun _ h => .tail _ h) ⟨rfl, nn', vs', fresh, rfl, hfr, hv'⟩

end
end Mine
end
section
open PySem PySem.W PyProof.Rows PySem.Spec PySem.Calls
set_option maxRecDepth 100000
set_option maxHeartbeats 8000000
namespace Mine
theorem offT1 : True := by
  w_top off
  trivial
/-- the text of these signs -/
abbrev S (l : List Nat) : Str := ⟨l.toArray⟩
theorem S_cps (l : List Nat) : (S l).cps.toList = l := rfl
theorem S_eta (x : Str) : x = S x.cps.toList := str_ext rfl
theorem S_app (a b : List Nat) : S a ++ S b = S (a ++ b) := str_ext (by rw [cps_app])
theorem S_len (l : List Nat) : (S l).length = l.length := by rw [← len_toList]
theorem S_getD (l : List Nat) (k : Nat) : (S l).cps.getD k 0 = l.getD k 0 := by
  simp only [Array.getD, List.getD, List.size_toArray]
  split
  · rename_i h; simp [List.getElem?_eq_getElem h]
  · rename_i h; rw [List.getElem?_eq_none (by omega)]; rfl
theorem getD_app_lt {A B : List Nat} {k : Nat} (h : k < A.length) : (A ++ B).getD k 0 ∈ A := by
  rw [List.getD_eq_getElem?_getD, List.getElem?_append_left h, List.getElem?_eq_getElem h]
  exact List.getElem_mem h
theorem getD_mid {A B : List Nat} {c : Nat} : (A ++ c :: B).getD A.length 0 = c := by
  rw [List.getD_eq_getElem?_getD, List.getElem?_append_right (Nat.le_refl _), Nat.sub_self]
  rfl
theorem find3_at {A B : List Nat} {c i : Nat} (hi : i ≤ A.length) (hA : ∀ k, i ≤ k → k < A.length → A.getD k 0 ≠ c) : Txt.find3 (S (A ++ c :: B)) ⟨#[c]⟩ (i : Int) = (A.length : Int) := by
  rcases find_cases (S (A ++ c :: B)) c (i : Int) (by omega) with ⟨_, h⟩ | ⟨k, e, h1, h2, h3, h4⟩
  · refine absurd ?_ (h A.length (by omega) ?_)
    · rw [S_getD]; exact getD_mid
    · rw [S_len, List.length_append, List.length_cons]; omega
  · rw [e]
    by_cases hlt : k < A.length
    · rw [S_getD, List.getD_eq_getElem?_getD, List.getElem?_append_left hlt, ← List.getD_eq_getElem?_getD] at h3
      exact absurd h3 (hA k (by omega) hlt)
    · by_cases hgt : A.length < k
      · refine absurd ?_ (h4 A.length (by omega) hgt)
        rw [S_getD]; exact getD_mid
      · have : k = A.length := by omega
        rw [this]
theorem find3_none {l : List Nat} {c i : Nat} (h : c ∉ l) : Txt.find3 (S l) ⟨#[c]⟩ (i : Int) = -1 := by
  rcases find_cases (S l) c (i : Int) (by omega) with ⟨e, _⟩ | ⟨k, e, h1, h2, h3, h4⟩
  · exact e
  · exfalso
    rw [S_getD] at h3
    rw [S_len] at h2
    rw [List.getD_eq_getElem?_getD, List.getElem?_eq_getElem h2] at h3
    exact h (h3 ▸ List.getElem_mem h2)
theorem find3_noneI {l : List Nat} {c : Nat} {i : Int} (hi : 0 ≤ i) (h : c ∉ l) : Txt.find3 (S l) ⟨#[c]⟩ i = -1 := by
  obtain ⟨n, rfl⟩ := Int.eq_ofNat_of_zero_le hi
  exact find3_none h
theorem slice_S (l : List Nat) (a : Nat) : Txt.slice (S l) (some (a : Int)) none = S (l.drop a) := str_ext (slice_sn _ _)
theorem slice_St (l : List Nat) (a : Nat) : Txt.slice (S l) none (some (a : Int)) = S (l.take a) := str_ext (slice_ns _ _)
theorem slice_Sn (l : List Nat) (a b : Nat) : Txt.slice (S l) (some (a : Int)) (some (b : Int)) = S ((l.drop a).take (b - a)) := str_ext (slice_nn _ _ _)
theorem item_S {A B : List Nat} {c : Nat} : Txt.item (S (A ++ c :: B)) (A.length : Int) = S [c] := by
  obtain ⟨d, e, h⟩ := item_is (x := S (A ++ c :: B)) (i := (A.length : Int)) (by omega) (by rw [S_len, List.length_append, List.length_cons]; omega)
  rw [e]
  rw [S_cps, Int.toNat_natCast, List.drop_left] at h
  rw [← (List.cons.inj h).1]
/-- pieces with the sign c between them -/
def joinL (c : Nat) : List (List Nat) → List Nat
  | [] => []
  | [a] => a
  | a :: b :: r => a ++ c :: joinL c (b :: r)
theorem cut_first {c : Nat} : ∀ {a a' X X' : List Nat}, c ∉ a → c ∉ a' → a ++ c :: X = a' ++ c :: X' → a = a' ∧ X = X'
  | [], [], X, X', _, _, h => ⟨rfl, (List.cons.inj h).2⟩
  | [], y :: a', X, X', _, h', h => absurd (List.cons.inj h).1 (fun e => h' (e ▸ .head _))
  | x :: a, [], X, X', h', _, h => absurd (List.cons.inj h).1 (fun e => h' (e ▸ .head _))
  | x :: a, y :: a', X, X', h1, h2, h => by
    obtain ⟨e1, e2⟩ := List.cons.inj h
    obtain ⟨e3, e4⟩ := cut_first (a := a) (a' := a') (fun q => h1 (.tail _ q)) (fun q => h2 (.tail _ q)) e2
    exact ⟨by rw [e1, e3], e4⟩
theorem joinL_inj {c : Nat} : ∀ {ps qs : List (List Nat)}, (∀ p ∈ ps, c ∉ p) → (∀ p ∈ qs, c ∉ p) → ps ≠ [] → qs ≠ [] → joinL c ps = joinL c qs → ps = qs
  | [], _, _, _, h, _, _ => absurd rfl h
  | _, [], _, _, _, h, _ => absurd rfl h
  | [a], [b], _, _, _, _, h => by rw [show a = b from h]
  | [a], b :: b' :: r, h1, _, _, _, h => by
    refine absurd ?_ (h1 a (.head _))
    rw [show a = b ++ c :: joinL c (b' :: r) from h]
    exact List.mem_append_right _ (.head _)
  | a :: a' :: r, [b], _, h1, _, _, h => by
    refine absurd ?_ (h1 b (.head _))
    rw [show b = a ++ c :: joinL c (a' :: r) from h.symm]
    exact List.mem_append_right _ (.head _)
  | a :: a' :: r, b :: b' :: r', h1, h2, _, _, h => by
    obtain ⟨e1, e2⟩ := cut_first (h1 a (.head _)) (h2 b (.head _)) h
    rw [e1, joinL_inj (ps := a' :: r) (qs := b' :: r') (fun p hp => h1 p (.tail _ hp)) (fun p hp => h2 p (.tail _ hp)) (by simp) (by simp) e2]
theorem join_S (c : Nat) : ∀ xs : List Str, (Str.join (S [c]) xs).cps.toList = joinL c (xs.map fun x => x.cps.toList)
  | [] => rfl
  | [x] => rfl
  | x :: y :: r => by
    rw [join_cons_cons, cps_app, cps_app, join_S c (y :: r)]
    show x.cps.toList ++ [c] ++ _ = _
    rw [List.append_assoc]
    rfl
theorem split_ne (x y : Str) : Txt.split x y ≠ [] := by
  unfold Txt.split
  split
  · simp
  · split
    · simp
    · rw [StrLaws.partsBetween_eq]
      obtain ⟨p, r, e⟩ := StrLaws.partsFrom_ne x y.length 0 (Builtin.Str.occurrences x y 0 x.length (x.length + 1))
      rw [e]
      simp
theorem split_S {c : Nat} {ps : List (List Nat)} (hn : ps ≠ []) (hf : ∀ p ∈ ps, c ∉ p) : Txt.split (S (joinL c ps)) (S [c]) = ps.map S := by
  have h1 := StrLaws.join_split (S (joinL c ps)) (S [c])
  have h2 := StrLaws.split_free (S (joinL c ps)) c
  generalize hg : Txt.split (S (joinL c ps)) (S [c]) = xs at h1 h2
  have h3 : xs ≠ [] := by rw [← hg]; exact split_ne _ _
  have h4 : joinL c (xs.map fun x => x.cps.toList) = joinL c ps := by rw [← join_S, h1]
  have h5 := joinL_inj (fun p hp => by
    obtain ⟨x, hx, rfl⟩ := List.mem_map.mp hp
    exact h2 x hx) hf (by simpa using h3) hn h4
  rw [← h5, List.map_map]
  conv => lhs; rw [← List.map_id xs]
  exact List.map_congr_left fun x _ => S_eta x
/-- the text of a number -/
theorem num_signs {n : Int} (h0 : 0 ≤ n) : NumText.AllDigits (Str.ofString (toString n)).cps.toList ∧ (Str.ofString (toString n)).cps.toList ≠ [] := by
  obtain ⟨m, rfl⟩ := Int.eq_ofNat_of_zero_le h0
  constructor
  · intro c hc
    rw [KIN.signs_num] at hc
    obtain ⟨ch, hch, e⟩ := List.mem_map.mp hc
    have r := digit_range (Nat.isDigit_of_mem_toDigits (by decide) (by decide) hch)
    rw [← e]
    exact r
  · rw [KIN.signs_num]
    intro e
    have h := toDigits_len_ge 10 m
    rw [List.map_eq_nil_iff.mp e] at h
    exact absurd h (by decide)
theorem num_reads0 {n : Int} (h0 : 0 ≤ n) (h1 : n < 10 ^ 10) : PySem.intText? (S (48 :: (Str.ofString (toString n)).cps.toList)) = some n := by
  have hl := KT.len_num h0 h1
  obtain ⟨hd, hne⟩ := num_signs h0
  have e := PySem.intText_digits (x := S (48 :: (Str.ofString (toString n)).cps.toList)) (by
    intro c hc
    rcases List.mem_cons.mp hc with rfl | hc
    · exact ⟨by decide, by decide⟩
    · exact hd c hc) (by simp) (by rw [S_len, List.length_cons, len_toList]; omega)
  rw [e]
  obtain ⟨m, rfl⟩ := Int.eq_ofNat_of_zero_le h0
  have e2 : NumText.digitsVal (48 :: (Str.ofString (toString (m : Int))).cps.toList) = NumText.digitsVal (Str.ofString (toString (m : Int))).cps.toList := rfl
  rw [S_cps, e2, KIN.signs_num, KIN.val_back]
end Mine
end
section
open PySem PySem.W PyProof.Rows PySem.Spec PySem.Calls
set_option maxRecDepth 100000
set_option maxHeartbeats 8000000
namespace Mine
theorem offT2 : True := by
  w_top off
  trivial
/-- the table of the exact tokens -/
def tokTab : List (Str × Int) := [(S [33], 54), (S [33, 61], 28), (S [37], 24), (S [37, 61], 40), (S [38], 19), (S [38, 61], 41), (S [40], 7), (S [41], 8), (S [42], 16), (S [42, 42], 35), (S [42, 42, 61], 46), (S [42, 61], 38), (S [43], 14), (S [43, 61], 36), (S [44], 12), (S [45], 15), (S [45, 61], 37), (S [45, 62], 51), (S [46], 23), (S [46, 46, 46], 52), (S [47], 17), (S [47, 47], 47), (S [47, 47, 61], 48), (S [47, 61], 39), (S [58], 11), (S [58, 61], 53), (S [59], 13), (S [60], 20), (S [60, 60], 33), (S [60, 60, 61], 44), (S [60, 61], 29), (S [61], 22), (S [61, 61], 27), (S [62], 21), (S [62, 61], 30), (S [62, 62], 34), (S [62, 62, 61], 45), (S [64], 49), (S [64, 61], 50), (S [91], 9), (S [93], 10), (S [94], 32), (S [94, 61], 43), (S [123], 25), (S [124], 18), (S [124, 61], 42), (S [125], 26), (S [126], 31)]
def keyS : Value → Option Str
  | .str y _ => some y
  | _ => none
def valI : Value → Option Int
  | .int c _ => some c
  | _ => none
theorem exKV (P : Params) : (exEs P).toList.map (fun e => (keyS e.key, valI e.val)) = tokTab.map (fun p => (some p.1, some p.2)) := by
  unfold exEs
  with_unfolding_all rfl
def tokF (k : Str) : Option Int := (tokTab.find? fun p => p.1 == k).map (·.2)
theorem find_kv : ∀ (es : List DictEntry) (tab : List (Str × Int)) (k : Str), es.map (fun e => (keyS e.key, valI e.val)) = tab.map (fun p => (some p.1, some p.2)) →
    ((es.find? fun e => Value.isStrOf k e.key).map (·.val)).bind valI = (tab.find? fun p => p.1 == k).map (·.2)
  | [], [], _, _ => rfl
  | [], _ :: _, _, h => by cases h
  | _ :: _, [], _, h => by cases h
  | e :: es, p :: tab, k, h => by
    rw [List.map_cons, List.map_cons] at h
    obtain ⟨h1, h2⟩ := List.cons.inj h
    obtain ⟨h3, h4⟩ := Prod.mk.inj h1
    have hk : Value.isStrOf k e.key = (p.1 == k) := by
      cases hek : e.key with
      | str y t =>
        rw [hek] at h3
        rw [show p.1 = y from (Option.some.inj h3).symm]
        rfl
      | _ => rw [hek] at h3; cases h3
    rw [List.find?_cons, List.find?_cons, hk]
    cases (p.1 == k) with
    | true => exact h4
    | false => exact find_kv es tab k h2
theorem exI_tok (P : Params) (k : Str) : exI P k = tokF k := by
  have h := find_kv (exEs P).toList tokTab k (exKV P)
  unfold exI exG findBy tokF
  rw [← h]
  congr 1
  simp
theorem tok_big {k : Str} {c : Int} (h : tokF k = some c) : 7 ≤ c := by
  unfold tokF at h
  obtain ⟨p, hp, rfl⟩ := Option.map_eq_some_iff.mp h
  have hm := List.mem_of_find?_eq_some hp
  have hall : (tokTab.all fun p => decide (7 ≤ p.2)) = true := by decide +kernel
  exact of_decide_eq_true (List.all_eq_true.mp hall p hm)
end Mine
end
section
open PySem PySem.W PyProof.Rows PySem.Spec PySem.Calls
set_option maxRecDepth 100000
set_option maxHeartbeats 8000000
namespace Mine
theorem offT3 : True := by
  w_top off
  trivial
def preL : Nat → List Nat
  | 0 => [34, 113, 34, 34, 34]
  | 1 => [34, 81, 34, 34, 34]
  | 2 => [34, 34, 34, 34, 34, 34]
  | _ => [34, 82, 34]
def deeL : Nat → List Nat
  | 0 => [42]
  | 1 => [42, 42]
  | 2 => [42, 61]
  | _ => [42, 42, 61]
def mkL : Nat → Nat
  | 0 => 124
  | 1 => 33
  | 2 => 120
  | _ => 34
def fa (r4 : Nat) : List Nat := if r4 = 0 then [] else [50]
def fb (r4 : Nat) : List Nat := if r4 = 0 then [] else [55, 46, 55]
def fc (r4 : Nat) (d : List Nat) : List Nat := if r4 = 0 then d else 48 :: d
def dgL (r2 r9 : Nat) : List Nat := (Str.ofString (toString (portF r2 r9))).cps.toList
def pcs (r4 : Nat) (d : List Nat) : List (List Nat) := [[], fa r4, fb r4, fc r4 d, []]
/-- what stands behind the deed -/
def bodL (r2 r3 r4 r9 : Nat) : List Nat := joinL (mkL r3) (pcs r4 (dgL r2 r9))
def tailL (r2 r3 r4 r9 : Nat) : List Nat := 40 :: (bodL r2 r3 r4 r9 ++ [41])
def lineL (r0 r1 r2 r3 r4 r9 : Nat) : List Nat := preL r0 ++ (deeL r1 ++ tailL r2 r3 r4 r9)
theorem name_in : ∀ r0, r0 < 4 → (Txt.replace (nameF r0) (Str.ofString "\"") (Str.ofString "\"\"")).cps.toList = ((preL r0).drop 1).dropLast := by decide +kernel
theorem pre_in : ∀ r0, r0 < 4 → [34] ++ ((preL r0).drop 1).dropLast ++ [34] = preL r0 := by decide +kernel
theorem deed_in : ∀ r1, r1 < 4 → (deedF r1).cps.toList = deeL r1 := by decide +kernel
theorem mark_in : ∀ r3, r3 < 4 → markF r3 = S [mkL r3] := by decide +kernel
theorem fa_in : ∀ r4 : Nat, r4 < 2 → (Txt.mul (Str.ofString "2") (r4 : Int)).cps.toList = fa r4 := by decide +kernel
theorem fb_in : ∀ r4 : Nat, r4 < 2 → (Txt.mul (Str.ofString "7.7") (r4 : Int)).cps.toList = fb r4 := by decide +kernel
theorem f0_in : ∀ r4 : Nat, r4 < 2 → (Txt.mul (Str.ofString "0") (r4 : Int)).cps.toList = (if r4 = 0 then [] else [48]) := by decide +kernel
theorem q_cps : (Str.ofString "\"").cps.toList = [34] := by decide +kernel
theorem lp_cps : (Str.ofString "(").cps.toList = [40] := by decide +kernel
theorem rp_cps : (Str.ofString ")").cps.toList = [41] := by decide +kernel
theorem e_cps : (Str.ofString "").cps.toList = [] := by decide +kernel
theorem line_is {r0 r1 r2 r3 r4 r9 : Nat} (h0 : r0 < 4) (h1 : r1 < 4) (h3 : r3 < 4) (h4 : r4 < 2) : textF r0 r1 r2 r3 r4 r9 = S (lineL r0 r1 r2 r3 r4 r9) := by
  refine str_ext ?_
  rw [S_cps]
  unfold textF
  rw [cps_app, cps_app, cps_app, cps_app, cps_app, cps_app, q_cps, lp_cps, rp_cps, name_in _ h0, pre_in _ h0, deed_in _ h1, mark_in _ h3]
  have hj : (Txt.join (S [mkL r3]) (fieldsF r2 r4 r9)).cps.toList = bodL r2 r3 r4 r9 := by
    unfold Txt.join
    rw [StrLaws.glued_eq_join, join_S]
    unfold bodL pcs fieldsF
    simp only [List.map_cons, List.map_nil]
    rw [e_cps, fa_in _ h4, fb_in _ h4, cps_app, f0_in _ h4]
    congr 5
    unfold fc dgL
    split <;> rfl
  rw [hj]
  unfold lineL tailL
  simp only [List.append_assoc, List.cons_append, List.nil_append]
theorem port_nn (r2 r9 : Nat) : 0 ≤ portF r2 r9 := by
  unfold portF
  match r2 with
  | 0 => show (0 : Int) ≤ 9; decide
  | 1 => show (0 : Int) ≤ 10; decide
  | 2 => show (0 : Int) ≤ 100; decide
  | 3 => show (0 : Int) ≤ (r9 : Int); omega
  | n + 4 => exact Int.le_refl 0
theorem port_lt {r2 r9 : Nat} (h : r9 < 100000) : portF r2 r9 < 100000 := by
  unfold portF
  match r2 with
  | 0 => show (9 : Int) < 100000; decide
  | 1 => show (10 : Int) < 100000; decide
  | 2 => show (100 : Int) < 100000; decide
  | 3 => show (r9 : Int) < 100000; omega
  | n + 4 => show (0 : Int) < 100000; decide
theorem dg_digits (r2 r9 : Nat) : ∀ c ∈ dgL r2 r9, 48 ≤ c ∧ c ≤ 57 := (num_signs (port_nn r2 r9)).1
theorem dg_ne (r2 r9 : Nat) : dgL r2 r9 ≠ [] := (num_signs (port_nn r2 r9)).2
theorem dg_len {r2 r9 : Nat} (h : r9 < 100000) : 1 ≤ (dgL r2 r9).length ∧ (dgL r2 r9).length ≤ 10 := by
  refine ⟨List.length_pos_iff.mpr (dg_ne _ _), ?_⟩
  unfold dgL
  rw [len_toList]
  exact KT.len_num (port_nn _ _) (Int.lt_trans (port_lt h) (by decide))
theorem fc_signs {r2 r4 r9 c : Nat} (h : c ∈ fc r4 (dgL r2 r9)) : 48 ≤ c ∧ c ≤ 57 := by
  unfold fc at h
  split at h
  · exact dg_digits _ _ _ h
  · rcases List.mem_cons.mp h with rfl | h
    · exact ⟨by decide, by decide⟩
    · exact dg_digits _ _ _ h
theorem fa_signs {r4 c : Nat} (h : c ∈ fa r4) : 46 ≤ c ∧ c ≤ 57 := by
  unfold fa at h
  split at h
  · cases h
  · rw [List.mem_singleton.mp h]; exact ⟨by decide, by decide⟩
theorem fb_signs {r4 c : Nat} (h : c ∈ fb r4) : 46 ≤ c ∧ c ≤ 57 := by
  unfold fb at h
  split at h
  · cases h
  · simp only [List.mem_cons, List.not_mem_nil, or_false] at h
    rcases h with rfl | rfl | rfl <;> exact ⟨by decide, by decide⟩
theorem pcs_signs {r2 r4 r9 : Nat} : ∀ p ∈ pcs r4 (dgL r2 r9), ∀ c ∈ p, 46 ≤ c ∧ c ≤ 57 := by
  intro p hp c hc
  unfold pcs at hp
  simp only [List.mem_cons, List.not_mem_nil, or_false] at hp
  rcases hp with rfl | rfl | rfl | rfl | rfl
  · cases hc
  · exact fa_signs hc
  · exact fb_signs hc
  · have := fc_signs hc; omega
  · cases hc
theorem joinL_mem {c x : Nat} : ∀ {ps : List (List Nat)}, x ∈ joinL c ps → x = c ∨ ∃ p ∈ ps, x ∈ p
  | [], h => by cases h
  | [a], h => .inr ⟨a, .head _, h⟩
  | a :: b :: r, h => by
    rcases List.mem_append.mp h with h | h
    · exact .inr ⟨a, .head _, h⟩
    · rcases List.mem_cons.mp h with rfl | h
      · exact .inl rfl
      · rcases joinL_mem h with h | ⟨p, hp, h⟩
        · exact .inl h
        · exact .inr ⟨p, .tail _ hp, h⟩
theorem mk_in : ∀ r3, r3 < 4 → (mkL r3 = 33 ∨ mkL r3 = 34 ∨ mkL r3 = 120 ∨ mkL r3 = 124) := by decide +kernel
theorem bod_signs {r2 r3 r4 r9 c : Nat} (h3 : r3 < 4) (h : c ∈ bodL r2 r3 r4 r9) : c = 33 ∨ c = 34 ∨ c = 120 ∨ c = 124 ∨ (46 ≤ c ∧ c ≤ 57) := by
  rcases joinL_mem h with rfl | ⟨p, hp, hc⟩
  · rcases mk_in r3 h3 with e | e | e | e <;> rw [e] <;> simp
  · exact .inr (.inr (.inr (.inr (pcs_signs p hp c hc))))
theorem mk_free {r2 r3 r4 r9 : Nat} (h3 : r3 < 4) : ∀ p ∈ pcs r4 (dgL r2 r9), mkL r3 ∉ p := fun p hp h => by
  have := pcs_signs p hp _ h
  rcases mk_in r3 h3 with e | e | e | e <;> omega
/-- the head of the body: the mark; its last sign: the mark -/
theorem bod_head (r2 r3 r4 r9 : Nat) : ∃ B, bodL r2 r3 r4 r9 = mkL r3 :: B := ⟨_, rfl⟩
theorem bod_last (r2 r3 r4 r9 : Nat) : bodL r2 r3 r4 r9 = mkL r3 :: (fa r4 ++ mkL r3 :: (fb r4 ++ mkL r3 :: fc r4 (dgL r2 r9))) ++ [mkL r3] := by
  unfold bodL pcs joinL
  simp [joinL]
theorem bod_len {r2 r3 r4 r9 : Nat} (h9 : r9 < 100000) : 5 ≤ (bodL r2 r3 r4 r9).length ∧ (bodL r2 r3 r4 r9).length ≤ 30 := by
  rw [bod_last]
  have hd := dg_len (r2 := r2) h9
  have hfa : (fa r4).length ≤ 1 := by unfold fa; split <;> simp
  have hfb : (fb r4).length ≤ 3 := by unfold fb; split <;> simp
  have hfc : (dgL r2 r9).length ≤ (fc r4 (dgL r2 r9)).length ∧ (fc r4 (dgL r2 r9)).length ≤ (dgL r2 r9).length + 1 := by unfold fc; split <;> simp
  simp only [List.length_append, List.length_cons, List.length_nil]
  omega
theorem pre_len : ∀ r0, r0 < 4 → 3 ≤ (preL r0).length ∧ (preL r0).length ≤ 6 := by decide +kernel
theorem dee_len : ∀ r1, r1 < 4 → 1 ≤ (deeL r1).length ∧ (deeL r1).length ≤ 3 := by decide +kernel
theorem line_len {r0 r1 r2 r3 r4 r9 : Nat} (h0 : r0 < 4) (h1 : r1 < 4) (h9 : r9 < 100000) : 11 ≤ (lineL r0 r1 r2 r3 r4 r9).length ∧ (lineL r0 r1 r2 r3 r4 r9).length ≤ 60 := by
  have a := pre_len r0 h0
  have b := dee_len r1 h1
  have c := bod_len (r2 := r2) (r3 := r3) (r4 := r4) h9
  unfold lineL tailL
  simp only [List.length_append, List.length_cons, List.length_nil]
  omega
theorem fc_reads {r2 r4 r9 : Nat} (h9 : r9 < 100000) : PySem.intText? (S (fc r4 (dgL r2 r9))) = some (portF r2 r9) := by
  have h0 := port_nn r2 r9
  have h1 : portF r2 r9 < 10 ^ 10 := Int.lt_trans (port_lt h9) (by decide)
  unfold fc
  split
  · exact KIN.num_reads h0 h1
  · exact num_reads0 h0 h1
/-- the name is read of the text's head -/
theorem p257_pre {r0 : Nat} (h0 : r0 < 4) {y : List Nat} (hy : y.head? ≠ some 34) : p257F (Str.ofString "257 " ++ S (preL r0 ++ y)) = nameF r0 := by
  have hs : (Str.ofString "257 " ++ S (preL r0 ++ y)).cps.toList = 50 :: 53 :: 55 :: 32 :: (preL r0 ++ y) := by rw [cps_app, s257]; rfl
  have hc : (Txt.slice (Str.ofString "257 " ++ S (preL r0 ++ y)) (some 3) (some 5) == Str.ofString " \"") = true := by
    rw [beq_list, slice_nn' _ (by decide) (by decide), hs]
    have : r0 = 0 ∨ r0 = 1 ∨ r0 = 2 ∨ r0 = 3 := by omega
    rcases this with rfl | rfl | rfl | rfl <;> rfl
  rw [p257F, if_pos hc, hs]
  have hsc : scanF ((50 :: 53 :: 55 :: 32 :: (preL r0 ++ y)).drop 5) = (nameF r0).cps.toList := by
    have : r0 = 0 ∨ r0 = 1 ∨ r0 = 2 ∨ r0 = 3 := by omega
    match y, hy with
    | [], _ => rcases this with rfl | rfl | rfl | rfl <;> decide +kernel
    | c :: y, hy =>
      have hc34 : c ≠ 34 := fun e => hy (by rw [e]; rfl)
      rcases this with rfl | rfl | rfl | rfl <;> simp only [preL, List.cons_append, List.nil_append, List.drop_succ_cons, List.drop_zero] <;> simp [scanF] <;> rw [if_neg hc34] <;> decide +kernel
  rw [hsc]
theorem rest_pre {r0 : Nat} (h0 : r0 < 4) {y : List Nat} (hy : y.head? ≠ some 34) : restF (S (preL r0 ++ y)) = S y := by
  have hn : (2 + (nameF r0).length + Txt.count (nameF r0) (Str.ofString "\"") : Int) = ((preL r0).length : Nat) := by
    have : ∀ r0, r0 < 4 → (2 + (nameF r0).length + Txt.count (nameF r0) (Str.ofString "\"") : Int) = ((preL r0).length : Nat) := by decide +kernel
    exact this r0 h0
  unfold restF
  rw [p257_pre h0 hy, hn, slice_S, List.drop_left]
theorem rest_cut : ∀ r0, r0 < 4 → ∀ k, k < 7 → (restF (S ((preL r0).take k))) = S [] := by decide +kernel
end Mine
end
section
open PySem PySem.W PyProof.Rows PySem.Spec PySem.Calls
set_option maxRecDepth 100000
set_option maxHeartbeats 8000000
namespace Mine
theorem offT4 : True := by
  w_top off
  trivial
abbrev h229 : List Nat := [50, 50, 57, 32]
theorem r229_S {x : Str} {y : List Nat} (h : restF x = S y) (k : Nat) : r229 x (k : Int) = S (h229 ++ y.drop k) := by
  unfold r229
  rw [h, slice_S]
  refine str_ext ?_
  rw [cps_app, s229]
theorem tokAt_S {P : Params} {x : Str} {y : List Nat} (h : restF x = S y) (k : Nat) : tokAt P x (k : Int) = tokF (S (y.take k)) := by
  unfold tokAt
  rw [h, slice_St, exI_tok]
theorem tok_tab : ∀ r1, r1 < 4 → ∀ r3, r3 < 4 → ∀ j, j < 4 → ((deeL r1).length < j → tokF (S ((deeL r1 ++ [40, mkL r3]).take j)) = none) ∧ (j = (deeL r1).length → tokF (S ((deeL r1 ++ [40, mkL r3]).take j)) = some (codeF r1)) := by decide +kernel
theorem take_few (r1 r3 : Nat) (Z : List Nat) {j : Nat} (h1 : r1 < 4) (h : j < 4) : (deeL r1 ++ 40 :: mkL r3 :: Z).take j = (deeL r1 ++ [40, mkL r3]).take j := by
  have e : deeL r1 ++ 40 :: mkL r3 :: Z = (deeL r1 ++ [40, mkL r3]) ++ Z := by rw [List.append_assoc]; rfl
  rw [e, List.take_append_of_le_length]
  have := (dee_len r1 h1).1
  rw [List.length_append, List.length_cons, List.length_cons, List.length_nil]
  omega
section
variable {P : Params} {x : Str} {r1 r3 : Nat} {Z : List Nat}
theorem scan_yes (h1 : r1 < 4) (h3 : r3 < 4) (h : restF x = S (deeL r1 ++ 40 :: mkL r3 :: Z)) : Scan P x ((deeL r1).length : Nat) (codeF r1) := by
  have hl := dee_len r1 h1
  refine ⟨by omega, by omega, fun j a b => ?_, ?_⟩
  · obtain ⟨n, rfl⟩ := Int.eq_ofNat_of_zero_le (show 0 ≤ j by omega)
    rw [tokAt_S h, take_few _ _ _ h1 (by omega)]
    exact (tok_tab r1 h1 r3 h3 n (by omega)).1 (by omega)
  · rw [tokAt_S h, take_few _ _ _ h1 (by omega)]
    exact (tok_tab r1 h1 r3 h3 _ (by omega)).2 rfl
theorem scan_one_way {size size' c c' : Int} (a : Scan P x size c) (b : Scan P x size' c') : size = size' ∧ c = c' := by
  obtain ⟨a1, a2, a3, a4⟩ := a
  obtain ⟨b1, b2, b3, b4⟩ := b
  by_cases e : size = size'
  · subst e
    rw [a4] at b4
    exact ⟨rfl, Option.some.inj b4⟩
  · exfalso
    by_cases l : size < size'
    · rw [a3 _ l b2] at b4; cases b4
    · rw [b3 _ (by omega) a2] at a4; cases a4
theorem scan_big {size c : Int} (h : Scan P x size c) : c ≠ 0 := by
  have e := h.2.2.2
  unfold tokAt at e
  rw [exI_tok] at e
  have := tok_big e
  omega
end
/-- a reply with a body in brackets -/
theorem rep_l (B : List Nat) : lpar (S (h229 ++ 40 :: (B ++ [41]))) = 4 := by
  unfold lpar
  rw [lpar_cps, find_is_find3]
  exact find3_at (A := h229) (B := B ++ [41]) (c := 40) (i := 0) (by decide) (fun k _ hk => (by decide +kernel : ∀ k, k < 4 → h229.getD k 0 ≠ 40) k hk)
theorem rep_r {B : List Nat} (hB : 41 ∉ B) : rpar (S (h229 ++ 40 :: (B ++ [41]))) = ((5 + B.length : Nat) : Int) := by
  have hl := rep_l B
  unfold lpar at hl
  unfold rpar
  rw [hl, rpar_cps]
  have e : h229 ++ 40 :: (B ++ [41]) = (h229 ++ 40 :: B) ++ 41 :: [] := by simp
  rw [e]
  have := find3_at (A := h229 ++ 40 :: B) (B := []) (c := 41) (i := 5) (by simp) (fun k h5 hk he => by
    rw [List.getD_eq_getElem?_getD, List.getElem?_eq_getElem hk] at he
    have he : (h229 ++ 40 :: B)[k] = 41 := he
    have e2 : (h229 ++ 40 :: B) = [50, 50, 57, 32, 40] ++ B := rfl
    simp only [e2] at he hk
    rw [List.getElem_append_right (show ([50, 50, 57, 32, 40] : List Nat).length ≤ k from h5)] at he
    exact hB (he ▸ List.getElem_mem _))
  rw [show ((4 : Int) + 1) = ((5 : Nat) : Int) by rfl, this]
  simp
  omega
theorem rep_first (B Z : List Nat) (b : Nat) (e : B ++ [41] = b :: Z) : Txt.item (S (h229 ++ 40 :: (B ++ [41]))) (lpar (S (h229 ++ 40 :: (B ++ [41]))) + 1) = S [b] := by
  rw [rep_l, e]
  have := item_S (A := [50, 50, 57, 32, 40]) (B := Z) (c := b)
  exact this
theorem rep_last {B' : List Nat} {b : Nat} (hB : 41 ∉ B' ++ [b]) : Txt.item (S (h229 ++ 40 :: ((B' ++ [b]) ++ [41]))) (rpar (S (h229 ++ 40 :: ((B' ++ [b]) ++ [41]))) - 1) = S [b] := by
  rw [rep_r hB]
  have := item_S (A := h229 ++ 40 :: B') (B := [41]) (c := b)
  have e : h229 ++ 40 :: ((B' ++ [b]) ++ [41]) = (h229 ++ 40 :: B') ++ b :: [41] := by simp
  rw [e]
  have e2 : (((5 + (B' ++ [b]).length : Nat) : Int) - 1) = ((h229 ++ 40 :: B').length : Nat) := by
    simp only [List.length_append, List.length_cons, List.length_nil]
    omega
  rw [e2]
  exact this
theorem rep_slice {B : List Nat} (hB : 41 ∉ B) : Txt.slice (S (h229 ++ 40 :: (B ++ [41]))) (some (lpar (S (h229 ++ 40 :: (B ++ [41]))) + 1)) (some (rpar (S (h229 ++ 40 :: (B ++ [41]))))) = S B := by
  rw [rep_l, rep_r hB]
  have := slice_Sn (h229 ++ 40 :: (B ++ [41])) 5 (5 + B.length)
  refine Eq.trans this ?_
  have e : (h229 ++ 40 :: (B ++ [41])).drop 5 = B ++ [41] := rfl
  rw [e, show 5 + B.length - 5 = B.length by omega, List.take_left]
theorem tell_one {r : Str} {p q : Int} (a : Tell r p) (b : Tell r q) : p = q := by
  obtain ⟨_, _, _, a1, a2, a3, a4, a5, ea, ia⟩ := a
  obtain ⟨_, _, _, b1, b2, b3, b4, b5, eb, ib⟩ := b
  rw [ea] at eb
  simp only [List.cons.injEq] at eb
  obtain ⟨_, _, _, rfl, _⟩ := eb
  rw [ia] at ib
  exact Option.some.inj ib
theorem tell_refuse {r : Str} {p : Int} (a : Tell r p) (b : Refuse r) : False := by
  obtain ⟨h1, h2, h3, a1, a2, a3, a4, a5, ea, ia⟩ := a
  rcases b with b | b | b | b
  · omega
  · omega
  · rw [h3] at b; cases b
  · rw [ea] at b; exact b rfl
theorem refuse_open {l : List Nat} (h : 41 ∉ l) : Refuse (S l) := by
  refine .inr (.inl ?_)
  unfold rpar
  have := find_ge (S l)
  rw [rpar_cps, find3_noneI (by omega) h]
  decide
section
variable {r0 r1 r2 r3 r4 r9 : Nat}
theorem bod_free (h3 : r3 < 4) : 41 ∉ bodL r2 r3 r4 r9 := fun h => by
  have := bod_signs h3 h
  omega
theorem dee_head : ∀ r1, r1 < 4 → (deeL r1).head? = some 42 := by decide +kernel
theorem dee_app {y : List Nat} (h1 : r1 < 4) : (deeL r1 ++ y).head? ≠ some 34 := by
  have := dee_head r1 h1
  match e : deeL r1, this with
  | a :: r, h =>
    rw [List.cons_append, List.head?_cons]
    rw [List.head?_cons] at h
    rw [Option.some.inj h]
    decide
theorem line_rest (h0 : r0 < 4) (h1 : r1 < 4) : restF (S (lineL r0 r1 r2 r3 r4 r9)) = S (deeL r1 ++ tailL r2 r3 r4 r9) := rest_pre h0 (dee_app h1)
theorem bod_tell (h3 : r3 < 4) (h9 : r9 < 100000) : Tell (S (h229 ++ tailL r2 r3 r4 r9)) (portF r2 r9) := by
  have hf := bod_free (r2 := r2) (r4 := r4) (r9 := r9) h3
  unfold tailL
  have ef : Txt.item (S (h229 ++ 40 :: (bodL r2 r3 r4 r9 ++ [41]))) (lpar (S (h229 ++ 40 :: (bodL r2 r3 r4 r9 ++ [41]))) + 1) = S [mkL r3] := by
    obtain ⟨B, e⟩ := bod_head r2 r3 r4 r9
    exact rep_first _ (B ++ [41]) _ (by rw [e]; rfl)
  refine ⟨by rw [rep_l]; decide, by rw [rep_r hf]; omega, ?_, ?_⟩
  · rw [ef]
    have el : Txt.item (S (h229 ++ 40 :: (bodL r2 r3 r4 r9 ++ [41]))) (rpar (S (h229 ++ 40 :: (bodL r2 r3 r4 r9 ++ [41]))) - 1) = S [mkL r3] := by
      have hf' := hf
      rw [bod_last] at hf' ⊢
      exact rep_last hf'
    rw [el]
    simp
  · refine ⟨S [], S (fa r4), S (fb r4), S (fc r4 (dgL r2 r9)), S [], ?_, fc_reads h9⟩
    unfold parts
    rw [ef, rep_slice hf]
    exact split_S (by unfold pcs; simp) (mk_free h3)
theorem code_pos : ∀ r1, r1 < 4 → codeF r1 ≠ 0 := by decide +kernel
theorem plain_name : ∀ r0, r0 < 4 → ((nameF r0).cps.toList.all fun c => decide (32 ≤ c ∧ c ≤ 126)) = true ∧ (nameF r0).length < 1000000 ∧ ((Txt.lower (nameF r0)).cps.toList.all fun c => decide (32 ≤ c ∧ c ≤ 126)) = true ∧ (Txt.lower (nameF r0)).length < 1000000 := by decide +kernel
theorem plain_of {x : Str} (h : (x.cps.toList.all fun c => decide (32 ≤ c ∧ c ≤ 126)) = true) (hl : x.length < 1000000) : Plain x :=
  ⟨fun c hc => of_decide_eq_true (List.all_eq_true.mp h c hc), hl⟩
theorem pre_signs : ∀ r0, r0 < 4 → ∀ c ∈ preL r0, 32 ≤ c ∧ c ≤ 126 := by decide +kernel
theorem dee_signs : ∀ r1, r1 < 4 → ∀ c ∈ deeL r1, 42 ≤ c ∧ c ≤ 61 := by decide +kernel
theorem line_signs (h0 : r0 < 4) (h1 : r1 < 4) (h3 : r3 < 4) {c : Nat} (h : c ∈ lineL r0 r1 r2 r3 r4 r9) : 32 ≤ c ∧ c ≤ 126 := by
  unfold lineL tailL at h
  rcases List.mem_append.mp h with h | h
  · exact pre_signs r0 h0 c h
  · rcases List.mem_append.mp h with h | h
    · have := dee_signs r1 h1 c h; omega
    · rcases List.mem_cons.mp h with rfl | h
      · omega
      · rcases List.mem_append.mp h with h | h
        · have := bod_signs h3 h; omega
        · rw [List.mem_singleton.mp h]; omega
theorem made_name (h0 : r0 < 4) (h1 : r1 < 4) (h3 : r3 < 4) (h4 : r4 < 2) : p257F (Str.ofString "257 " ++ (madeF r0 r1 r2 r3 r4 r9).text) = (madeF r0 r1 r2 r3 r4 r9).name := by
  show p257F (Str.ofString "257 " ++ textF r0 r1 r2 r3 r4 r9) = nameF r0
  rw [line_is h0 h1 h3 h4]
  exact p257_pre h0 (dee_app h1)
/-- every made text is read as its news -/
theorem made_good (P : Params) (h0 : r0 < 4) (h1 : r1 < 4) (h3 : r3 < 4) (h4 : r4 < 2) (h9 : r9 < 100000) : Good P (madeF r0 r1 r2 r3 r4 r9) := by
  have et : (madeF r0 r1 r2 r3 r4 r9).text = S (lineL r0 r1 r2 r3 r4 r9) := line_is h0 h1 h3 h4
  have hr : restF (madeF r0 r1 r2 r3 r4 r9).text = S (deeL r1 ++ tailL r2 r3 r4 r9) := by rw [et]; exact line_rest h0 h1
  have hl := line_len (r2 := r2) (r3 := r3) (r4 := r4) h0 h1 h9
  have htl : (madeF r0 r1 r2 r3 r4 r9).text.length = (lineL r0 r1 r2 r3 r4 r9).length := by rw [et, S_len]
  have hsc : Scan P (madeF r0 r1 r2 r3 r4 r9).text ((deeL r1).length : Nat) (codeF r1) := scan_yes (Z := _) h1 h3 hr
  have htell : Tell (r229 (madeF r0 r1 r2 r3 r4 r9).text ((deeL r1).length : Nat)) (portF r2 r9) := by
    rw [r229_S hr, List.drop_left]
    exact bod_tell h3 h9
  obtain ⟨n1, n2, n3, n4⟩ := plain_name r0 h0
  refine ⟨by omega, fun size c hs hc => ?_, fun k vs hr => ?_, ⟨?_, by omega⟩, plain_of n1 n2, plain_of n3 n4⟩
  · obtain ⟨e1, e2⟩ := scan_one_way hs hsc
    rw [e1]
    exact .inl ⟨_, htell⟩
  · cases hr with
    | nothing h =>
      have := h ((deeL r1).length : Nat) hsc.1 hsc.2.1
      rw [hsc.2.2.2] at this
      cases this
    | zero h => exact absurd rfl (scan_big h)
    | refused h hc hr =>
      obtain ⟨e1, e2⟩ := scan_one_way h hsc
      rw [e1] at hr
      exact (tell_refuse htell hr).elim
    | told h hc hr =>
      obtain ⟨e1, e2⟩ := scan_one_way h hsc
      rw [e1] at hr
      have e3 := tell_one hr htell
      subst e2 e3
      rw [made_name h0 h1 h3 h4]
      exact ⟨rfl, _, _, _, _, rfl⟩
  · rw [et]
    exact fun c hc => line_signs h0 h1 h3 hc
end
end Mine
end
section
open PySem PySem.W PyProof.Rows PySem.Spec PySem.Calls
set_option maxRecDepth 100000
set_option maxHeartbeats 8000000
namespace Mine
theorem offT5 : True := by
  w_top off
  trivial
theorem cnt_nn (c : Nat) : ∀ l : List Nat, 0 ≤ cnt c l
  | [] => by rw [cnt_nil]; decide
  | n :: r => by
    have := cnt_nn c r
    rw [cnt_cons]
    split <;> omega
theorem cnt_pos {c : Nat} {l : List Nat} (h : c ∈ l) : 1 ≤ cnt c l := by
  induction l with
  | nil => cases h
  | cons n r ih =>
    have := cnt_nn c r
    rw [cnt_cons]
    rcases List.mem_cons.mp h with rfl | h
    · rw [if_pos rfl]; omega
    · have := ih h
      split <;> omega
theorem due_one {l : List Nat} (h : 42 ∈ l) : (if Txt.count (S l) (Str.ofString "*") < 1 then Txt.count (S l) (Str.ofString "*") else 1) = 1 := by
  rw [star_cps, count_cnt, if_neg]
  have := cnt_pos h
  exact Int.not_lt.mpr this
theorem due_zero {l : List Nat} (h : 42 ∉ l) : (if Txt.count (S l) (Str.ofString "*") < 1 then Txt.count (S l) (Str.ofString "*") else 1) = 0 := by
  rw [star_cps, count_cnt, cnt_none 42 l h]
  rfl
theorem tok_star : tokF (S [42]) = some 16 := by decide +kernel
theorem tok_nil : tokF (S []) = none := by decide +kernel
section
variable {P : Params} {x : Str} {y : List Nat}
/-- a text of which nothing is left behind the name -/
theorem bad_none (hl : x.length ≤ 300) (h : restF x = S []) : Bad P x 0 := by
  have hn : ∀ j : Int, 0 < j → j ≤ 3 → tokAt P x j = none := fun j a b => by
    obtain ⟨n, rfl⟩ := Int.eq_ofNat_of_zero_le (show 0 ≤ j by omega)
    rw [tokAt_S h, List.take_nil]
    exact tok_nil
  have hs : ∀ size c, ¬ Scan P x size c := fun size c s => by
    have := hn size s.1 s.2.1
    rw [s.2.2.2] at this
    cases this
  refine ⟨hl, fun size c s => absurd s (hs _ _), fun k vs r => ?_, by decide⟩
  cases r with
  | nothing h => rfl
  | zero h => rfl
  | refused h _ _ => exact absurd h (hs _ _)
  | told h _ _ => exact absurd h (hs _ _)
/-- a text with a star whose reply is refused -/
theorem bad_star (hl : x.length ≤ 300) (h : restF x = S (42 :: y)) (hr : ∀ size c, Scan P x size c → Refuse (r229 x size)) : Bad P x 1 := by
  refine ⟨hl, fun size c s _ => .inr (hr _ _ s), fun k vs r => ?_, by decide⟩
  cases r with
  | nothing hn =>
    have := hn ((1 : Nat) : Int) (by decide) (by decide)
    rw [tokAt_S h] at this
    rw [show (42 :: y).take 1 = [42] from rfl, tok_star] at this
    cases this
  | zero hs => exact absurd rfl (scan_big hs)
  | refused _ _ _ => rfl
  | told hs _ ht => exact (tell_refuse ht (hr _ _ hs)).elim
end
theorem neg_nat (a b : Nat) (h : b ≤ a) : ((a : Int) - (b : Int)) = ((a - b : Nat) : Int) := by omega
section
variable {P : Params} {r0 r1 r2 r3 r4 r9 : Nat}
theorem pre_star : ∀ r0, r0 < 4 → 42 ∉ preL r0 := by decide +kernel
theorem dee_cons : ∀ r1, r1 < 4 → deeL r1 = 42 :: (deeL r1).tail := by decide +kernel
theorem dee_free : ∀ r1, r1 < 4 → 41 ∉ deeL r1 := by decide +kernel
theorem line_len' : (lineL r0 r1 r2 r3 r4 r9).length = (preL r0).length + ((deeL r1 ++ 40 :: bodL r2 r3 r4 r9).length + 1) := by
  unfold lineL tailL
  simp only [List.length_append, List.length_cons, List.length_nil]
  omega
theorem take_cut (l : List Nat) (x : Nat) {k : Nat} (h : k ≤ l.length) : (l ++ [x]).take k = l.take k := List.take_append_of_le_length h
/-- a text cut short -/
theorem bad_cut (h0 : r0 < 4) (h1 : r1 < 4) (h3 : r3 < 4) (h9 : r9 < 100000) {K : Nat} (hK : K < (lineL r0 r1 r2 r3 r4 r9).length) :
    Bad P (S ((lineL r0 r1 r2 r3 r4 r9).take K)) (if Txt.count (S ((lineL r0 r1 r2 r3 r4 r9).take K)) (Str.ofString "*") < 1 then Txt.count (S ((lineL r0 r1 r2 r3 r4 r9).take K)) (Str.ofString "*") else 1) := by
  have hl := line_len (r2 := r2) (r3 := r3) (r4 := r4) h0 h1 h9
  have hxl : (S ((lineL r0 r1 r2 r3 r4 r9).take K)).length ≤ 300 := by
    rw [S_len, List.length_take]
    omega
  have hp := pre_len r0 h0
  by_cases hc : K ≤ (preL r0).length
  · have e : (lineL r0 r1 r2 r3 r4 r9).take K = (preL r0).take K := by
      unfold lineL
      exact List.take_append_of_le_length hc
    rw [e] at hxl ⊢
    rw [due_zero (fun h => pre_star r0 h0 (List.mem_of_mem_take h))]
    exact bad_none hxl (rest_cut r0 h0 K (by omega))
  · obtain ⟨k, rfl⟩ : ∃ k, K = (preL r0).length + (k + 1) := ⟨K - (preL r0).length - 1, by omega⟩
    rw [line_len'] at hK
    have e : (lineL r0 r1 r2 r3 r4 r9).take ((preL r0).length + (k + 1)) = preL r0 ++ 42 :: ((deeL r1).tail ++ 40 :: bodL r2 r3 r4 r9).take k := by
      have e1 : deeL r1 ++ tailL r2 r3 r4 r9 = (deeL r1 ++ 40 :: bodL r2 r3 r4 r9) ++ [41] := by unfold tailL; simp
      unfold lineL
      rw [List.take_length_add_append, e1, take_cut _ _ (by omega)]
      conv => lhs; rw [dee_cons r1 h1]
      rfl
    rw [e] at hxl ⊢
    rw [due_one (List.mem_append_right _ (.head _))]
    have hr : restF (S (preL r0 ++ 42 :: ((deeL r1).tail ++ 40 :: bodL r2 r3 r4 r9).take k)) = S (42 :: ((deeL r1).tail ++ 40 :: bodL r2 r3 r4 r9).take k) := rest_pre h0 (by rw [List.head?_cons]; decide)
    refine bad_star hxl hr fun size c hs => ?_
    obtain ⟨n, rfl⟩ := Int.eq_ofNat_of_zero_le (show 0 ≤ size by have := hs.1; omega)
    rw [r229_S hr]
    refine refuse_open fun hm => ?_
    rcases List.mem_append.mp hm with hm | hm
    · exact absurd hm (by decide)
    · have hm := List.mem_of_mem_drop hm
      rcases List.mem_cons.mp hm with hm | hm
      · exact absurd hm (by decide)
      · have hm := List.mem_of_mem_take hm
        rcases List.mem_append.mp hm with hm | hm
        · exact dee_free r1 h1 (List.mem_of_mem_tail hm)
        · rcases List.mem_cons.mp hm with hm | hm
          · exact absurd hm (by decide)
          · exact bod_free h3 hm
/-- a text with another body in the brackets that is refused -/
theorem bad_body (h0 : r0 < 4) (h1 : r1 < 4) (h3 : r3 < 4) {B Z : List Nat} (hB : B = mkL r3 :: Z) (hl : B.length ≤ 40) (hr : Refuse (S (h229 ++ 40 :: (B ++ [41])))) :
    Bad P (S (preL r0 ++ (deeL r1 ++ 40 :: (B ++ [41])))) (if Txt.count (S (preL r0 ++ (deeL r1 ++ 40 :: (B ++ [41])))) (Str.ofString "*") < 1 then Txt.count (S (preL r0 ++ (deeL r1 ++ 40 :: (B ++ [41])))) (Str.ofString "*") else 1) := by
  have hp := pre_len r0 h0
  have hd := dee_len r1 h1
  have hm : 42 ∈ preL r0 ++ (deeL r1 ++ 40 :: (B ++ [41])) := by
    rw [dee_cons r1 h1]
    exact List.mem_append_right _ (.head _)
  rw [due_one hm]
  have hx : restF (S (preL r0 ++ (deeL r1 ++ 40 :: (B ++ [41])))) = S (deeL r1 ++ 40 :: (B ++ [41])) := rest_pre h0 (dee_app h1)
  have hx2 : restF (S (preL r0 ++ (deeL r1 ++ 40 :: (B ++ [41])))) = S (42 :: ((deeL r1).tail ++ 40 :: (B ++ [41]))) := by
    rw [hx]
    conv => lhs; rw [dee_cons r1 h1]
    rfl
  have hx3 : restF (S (preL r0 ++ (deeL r1 ++ 40 :: (B ++ [41])))) = S (deeL r1 ++ 40 :: mkL r3 :: (Z ++ [41])) := by
    rw [hx, hB]
    rfl
  refine bad_star (by rw [S_len]; simp only [List.length_append, List.length_cons, List.length_nil]; omega) hx2 fun size c hs => ?_
  obtain ⟨e1, _⟩ := scan_one_way hs (scan_yes h1 h3 hx3)
  rw [e1, r229_S hx, List.drop_left]
  exact hr
theorem ref14 (h3 : r3 < 4) : Refuse (S (h229 ++ 40 :: ((bodL r2 r3 r4 r9 ++ [55]) ++ [41]))) := by
  obtain ⟨B, e⟩ := bod_head r2 r3 r4 r9
  have hf : 41 ∉ bodL r2 r3 r4 r9 ++ [55] := fun h => by
    rcases List.mem_append.mp h with h | h
    · exact bod_free h3 h
    · exact absurd h (by decide)
  refine .inr (.inr (.inl ?_))
  rw [rep_last hf, rep_first _ (B ++ [55] ++ [41]) (mkL r3) (by rw [e]; rfl)]
  exact (by decide +kernel : ∀ r3, r3 < 4 → (S [mkL r3] != S [55]) = true) r3 h3
theorem joinL_snoc (c : Nat) : ∀ ps : List (List Nat), ps ≠ [] → joinL c (ps ++ [[]]) = joinL c ps ++ [c]
  | [], h => absurd rfl h
  | [a], _ => rfl
  | a :: b :: r, _ => by
    show a ++ c :: joinL c ((b :: r) ++ [[]]) = (a ++ c :: joinL c (b :: r)) ++ [c]
    rw [joinL_snoc c (b :: r) (by simp), List.append_assoc]
    rfl
theorem ref15 (h3 : r3 < 4) : Refuse (S (h229 ++ 40 :: ((bodL r2 r3 r4 r9 ++ [mkL r3]) ++ [41]))) := by
  obtain ⟨B, e⟩ := bod_head r2 r3 r4 r9
  have hf : 41 ∉ bodL r2 r3 r4 r9 ++ [mkL r3] := fun h => by
    rcases List.mem_append.mp h with h | h
    · exact bod_free h3 h
    · exact absurd h ((by decide +kernel : ∀ r3, r3 < 4 → 41 ∉ [mkL r3]) r3 h3)
  refine .inr (.inr (.inr ?_))
  unfold parts
  rw [rep_slice hf, rep_first _ (B ++ [mkL r3] ++ [41]) (mkL r3) (by rw [e]; rfl)]
  have hj : bodL r2 r3 r4 r9 ++ [mkL r3] = joinL (mkL r3) (pcs r4 (dgL r2 r9) ++ [[]]) := (joinL_snoc _ _ (by unfold pcs; simp)).symm
  rw [hj, split_S (by simp) (fun p hp => by
    rcases List.mem_append.mp hp with hp | hp
    · exact mk_free h3 p hp
    · rw [List.mem_singleton.mp hp]; exact fun h => nomatch h)]
  unfold pcs
  simp
theorem last_two (A : List Nat) (a b : Nat) : (A ++ [a, b]).drop ((A ++ [a, b]).length - 2) = [a, b] := by
  rw [show (A ++ [a, b]).length - 2 = A.length by simp, List.drop_left]
/-- every spoiled text is told by its due kind -/
theorem spoiled_bad (P : Params) (h0 : r0 < 4) (h1 : r1 < 4) (h3 : r3 < 4) (h4 : r4 < 2) (h9 : r9 < 100000) {r6 : Nat} (h6 : ¬ r6 < 8) (h6' : r6 < 16) :
    Bad P (spoiledF (madeF r0 r1 r2 r3 r4 r9).text (r6 : Nat)) (if Txt.count (spoiledF (madeF r0 r1 r2 r3 r4 r9).text (r6 : Nat)) (Str.ofString "*") < 1 then Txt.count (spoiledF (madeF r0 r1 r2 r3 r4 r9).text (r6 : Nat)) (Str.ofString "*") else 1) := by
  have et : (madeF r0 r1 r2 r3 r4 r9).text = S (lineL r0 r1 r2 r3 r4 r9) := line_is h0 h1 h3 h4
  have hl := line_len (r2 := r2) (r3 := r3) (r4 := r4) h0 h1 h9
  have hb := bod_len (r2 := r2) (r3 := r3) (r4 := r4) h9
  rw [et]
  have em : Txt.slice (S (lineL r0 r1 r2 r3 r4 r9)) none (some (-1)) = S (preL r0 ++ (deeL r1 ++ 40 :: bodL r2 r3 r4 r9)) := by
    refine str_ext ?_
    have := slice_neg_hi (S (lineL r0 r1 r2 r3 r4 r9)) 1 (by decide) (by rw [S_len]; omega)
    refine Eq.trans this ?_
    rw [S_cps, S_cps, S_len]
    have e1 : lineL r0 r1 r2 r3 r4 r9 = (preL r0 ++ (deeL r1 ++ 40 :: bodL r2 r3 r4 r9)) ++ [41] := by unfold lineL tailL; simp
    rw [e1, List.length_append, List.length_singleton, Nat.add_sub_cancel, List.take_left]
  by_cases hc : r6 < 14
  · have e : spoiledF (S (lineL r0 r1 r2 r3 r4 r9)) (r6 : Nat) = S ((lineL r0 r1 r2 r3 r4 r9).take ((lineL r0 r1 r2 r3 r4 r9).length - (2 * r6 - 15))) := by
      unfold spoiledF
      rw [if_neg (by omega), if_pos (by omega), S_len]
      rw [show (((lineL r0 r1 r2 r3 r4 r9).length : Int) - (2 * (r6 : Int) - 15)) = (((lineL r0 r1 r2 r3 r4 r9).length - (2 * r6 - 15) : Nat) : Int) by omega]
      exact slice_St _ _
    rw [e]
    exact bad_cut h0 h1 h3 h9 (by omega)
  · by_cases hd : r6 = 14
    · have e : spoiledF (S (lineL r0 r1 r2 r3 r4 r9)) (r6 : Nat) = S (preL r0 ++ (deeL r1 ++ 40 :: ((bodL r2 r3 r4 r9 ++ [55]) ++ [41]))) := by
        unfold spoiledF
        rw [if_neg (by omega), if_neg (by omega), if_pos (by omega), em, show Str.ofString "7)" = S [55, 41] by decide +kernel, S_app]
        exact congrArg S (by simp)
      rw [e]
      obtain ⟨B, eB⟩ := bod_head r2 r3 r4 r9
      exact bad_body h0 h1 h3 (B := bodL r2 r3 r4 r9 ++ [55]) (Z := B ++ [55]) (by rw [eB]; rfl) (by rw [List.length_append, List.length_singleton]; omega) (ref14 h3)
    · have e : spoiledF (S (lineL r0 r1 r2 r3 r4 r9)) (r6 : Nat) = S (preL r0 ++ (deeL r1 ++ 40 :: ((bodL r2 r3 r4 r9 ++ [mkL r3]) ++ [41]))) := by
        unfold spoiledF
        rw [if_neg (by omega), if_neg (by omega), if_neg (by omega), em]
        have e2 : Txt.slice (S (lineL r0 r1 r2 r3 r4 r9)) (some (-2)) none = S [mkL r3, 41] := by
          refine str_ext ?_
          have := slice_neg_lo (S (lineL r0 r1 r2 r3 r4 r9)) 2 (by decide) (by rw [S_len]; omega)
          refine Eq.trans this ?_
          rw [S_cps, S_cps, S_len]
          have e1 : ∃ A, lineL r0 r1 r2 r3 r4 r9 = A ++ [mkL r3, 41] := by
            unfold lineL tailL
            rw [bod_last]
            refine ⟨preL r0 ++ (deeL r1 ++ 40 :: (mkL r3 :: (fa r4 ++ mkL r3 :: (fb r4 ++ mkL r3 :: fc r4 (dgL r2 r9))))), ?_⟩
            simp
          obtain ⟨A, e1⟩ := e1
          rw [e1]
          exact last_two _ _ _
        rw [e2, S_app]
        exact congrArg S (by simp)
      rw [e]
      obtain ⟨B, eB⟩ := bod_head r2 r3 r4 r9
      exact bad_body h0 h1 h3 (B := bodL r2 r3 r4 r9 ++ [mkL r3]) (Z := B ++ [mkL r3]) (by rw [eB]; rfl) (by rw [List.length_append, List.length_singleton]; omega) (ref15 h3)
end
end Mine
end
section
open PySem PySem.W PyProof.Rows PySem.Spec PySem.Calls
set_option maxRecDepth 100000
set_option maxHeartbeats 8000000
namespace Mine
theorem offT6 : True := by
  w_top off
  trivial
/-- the order of news -/
def Gr (x y : Nw) : Prop := y.port < x.port ∨ (x.port = y.port ∧ (y.code < x.code ∨ (x.code = y.code ∧ (y.text.cps.toList < x.text.cps.toList ∨ (x.text = y.text ∧ y.name.cps.toList < x.name.cps.toList)))))
theorem gt4_iff (x y : Nw) : gt4 x y = true ↔ Gr x y := by
  unfold gt4 Gr
  simp only [lexB, scEq, scGt, scLt]
  by_cases h1 : x.port = y.port
  · by_cases h2 : x.code = y.code
    · by_cases h3 : x.text = y.text
      · by_cases h4 : x.name = y.name
        · simp [h1, h2, h3, h4, List.lt_irrefl]
        · simp [h1, h2, h3, h4, List.lt_irrefl]
      · simp [h1, h2, h3]
    · simp [h1, h2]
  · simp [h1]
theorem Gr.irrefl (x : Nw) : ¬ Gr x x := by
  rintro (h | ⟨_, h | ⟨_, h | ⟨_, h⟩⟩⟩)
  · omega
  · omega
  · exact List.lt_irrefl _ h
  · exact List.lt_irrefl _ h
theorem Gr.trans {x y z : Nw} : Gr x y → Gr y z → Gr x z := by
  rintro (h1 | ⟨e1, h2 | ⟨e2, h3 | ⟨e3, h4⟩⟩⟩) (k1 | ⟨f1, k2 | ⟨f2, k3 | ⟨f3, k4⟩⟩⟩)
  all_goals first
    | exact .inl (by omega)
    | exact .inr ⟨by omega, .inl (by omega)⟩
    | exact .inr ⟨by omega, .inr ⟨by omega, .inl (List.lt_trans k3 h3)⟩⟩
    | exact .inr ⟨by omega, .inr ⟨by omega, .inl (f3 ▸ h3)⟩⟩
    | exact .inr ⟨by omega, .inr ⟨by omega, .inl (e3 ▸ k3)⟩⟩
    | exact .inr ⟨by omega, .inr ⟨by omega, .inr ⟨e3.trans f3, List.lt_trans k4 h4⟩⟩⟩
theorem lists_total {a b : List Nat} (h : a ≠ b) : a < b ∨ b < a := by
  by_cases c : a < b
  · exact .inl c
  · rcases List.le_iff_lt_or_eq.mp (List.not_lt.mp c) with x | x
    · exact .inr x
    · exact absurd x.symm h
theorem Gr.total {x y : Nw} (h : x ≠ y) : Gr x y ∨ Gr y x := by
  by_cases h1 : x.port = y.port
  · by_cases h2 : x.code = y.code
    · by_cases h3 : x.text = y.text
      · by_cases h4 : x.name = y.name
        · exfalso
          apply h
          cases x; cases y
          simp only [Nw.mk.injEq]
          exact ⟨h1, h2, h3, h4⟩
        · rcases lists_total (fun e => h4 (str_of_cps e)) with q | q
          · exact .inr (.inr ⟨h1.symm, .inr ⟨h2.symm, .inr ⟨h3.symm, q⟩⟩⟩)
          · exact .inl (.inr ⟨h1, .inr ⟨h2, .inr ⟨h3, q⟩⟩⟩)
      · rcases lists_total (fun e => h3 (str_of_cps e)) with q | q
        · exact .inr (.inr ⟨h1.symm, .inr ⟨h2.symm, .inl q⟩⟩)
        · exact .inl (.inr ⟨h1, .inr ⟨h2, .inl q⟩⟩)
    · by_cases q : x.code < y.code
      · exact .inr (.inr ⟨h1.symm, .inl q⟩)
      · exact .inl (.inr ⟨h1, .inl (by omega)⟩)
  · by_cases q : x.port < y.port
    · exact .inr (.inl q)
    · exact .inl (.inl (by omega))
theorem not_gr_trans {x y z : Nw} (h1 : ¬ Gr x y) (h2 : ¬ Gr y z) : ¬ Gr x z := fun h => by
  by_cases e : y = z
  · exact h1 (e ▸ h)
  · rcases Gr.total e with q | q
    · exact h2 q
    · exact h1 (h.trans q)
theorem lt3_iff {q x : Nw} (h : q.text = x.text → q.name = x.name) : lt3 q x = true ↔ Gr x q := by
  unfold lt3 Gr
  simp only [lexB, scEq, scLt]
  by_cases h1 : q.port = x.port
  · by_cases h2 : q.code = x.code
    · by_cases h3 : q.text = x.text
      · simp [h1, h2, h3, h h3, List.lt_irrefl]
      · have h3' : ¬ x.text = q.text := fun e => h3 e.symm
        simp [h1, h2, h3, h3']
    · have h2' : ¬ x.code = q.code := fun e => h2 e.symm
      simp [h1, h2, h2']
  · have h1' : ¬ x.port = q.port := fun e => h1 e.symm
    simp [h1, h1']
/-- the best one's place -/
theorem bestAt_max (l : List Nw) : ∀ k, k < l.length → ∀ i, i ≤ k → ¬ Gr (l.getD i dN) (l.getD (bestAt (fun i j => gt4 (l.getD i dN) (l.getD j dN)) k) dN)
  | 0, _, i, hi => by
    rw [Nat.le_zero.mp hi]
    exact Gr.irrefl _
  | k + 1, hk, i, hi => by
    have ih := bestAt_max l k (by omega)
    rw [bestAt]
    split
    · rename_i hc
      rw [gt4_iff] at hc
      rcases Nat.lt_or_eq_of_le hi with h | h
      · exact fun g => ih i (by omega) (g.trans hc)
      · rw [h]; exact Gr.irrefl _
    · rename_i hc
      rw [gt4_iff] at hc
      rcases Nat.lt_or_eq_of_le hi with h | h
      · exact ih i (by omega)
      · rw [h]; exact hc
def IsMax (l : List Nw) (x : Nw) : Prop := x ∈ l ∧ ∀ y ∈ l, ¬ Gr y x
theorem maxAt_is {l : List Nw} {x : Nw} (h : maxAt l = some x) : IsMax l x := by
  unfold maxAt at h
  have hb := bestAt_le (fun i j => gt4 (l.getD i dN) (l.getD j dN)) (l.length - 1)
  obtain ⟨hlt, hx⟩ := List.getElem?_eq_some_iff.mp h
  refine ⟨List.mem_of_getElem? h, fun y hy => ?_⟩
  obtain ⟨i, hi, rfl⟩ := List.getElem_of_mem hy
  have := bestAt_max l (l.length - 1) (by omega) i (by omega)
  rw [List.getD_eq_getElem?_getD, List.getD_eq_getElem?_getD, h, List.getElem?_eq_getElem hi] at this
  exact this
theorem maxAt_some {l : List Nw} (h : l ≠ []) : ∃ x, maxAt l = some x := by
  have hp := List.length_pos_iff.mpr h
  have hb := bestAt_le (fun i j => gt4 (l.getD i dN) (l.getD j dN)) (l.length - 1)
  exact ⟨_, List.getElem?_eq_getElem (by omega)⟩
theorem IsMax.one {l : List Nw} {x y : Nw} (a : IsMax l x) (b : IsMax l y) : x = y := by
  by_cases e : x = y
  · exact e
  · rcases Gr.total e with q | q
    · exact absurd q (b.2 x a.1)
    · exact absurd q (a.2 y b.1)
abbrev fold (x : Nw) : Str := Txt.lower x.name
/-- the pairs of a table are the best of what it knows -/
structure Inv (qs nws : List Nw) : Prop where
  dom : ∀ y ∈ nws, fold y ∈ three
  mem : ∀ q ∈ qs, q ∈ nws
  max : ∀ q ∈ qs, ∀ y ∈ nws, fold y = fold q → ¬ Gr y q
  has : ∀ y ∈ nws, ∃ q ∈ qs, fold q = fold y
  one : qs.Pairwise fun p q => fold p ≠ fold q
theorem Inv.nil : Inv [] [] := ⟨fun _ h => (nomatch h), fun _ h => (nomatch h), fun _ h => (nomatch h), fun _ h => (nomatch h), .nil⟩
theorem pw_eq {qs : List Nw} (h : qs.Pairwise fun p q => fold p ≠ fold q) {p q : Nw} (hp : p ∈ qs) (hq : q ∈ qs) (e : fold p = fold q) : p = q := by
  induction qs with
  | nil => cases hp
  | cons a r ih =>
    obtain ⟨h1, h2⟩ := List.pairwise_cons.mp h
    rcases List.mem_cons.mp hp with e1 | hp'
    · rcases List.mem_cons.mp hq with e2 | hq'
      · rw [e1, e2]
      · exact absurd (e1 ▸ e) (h1 q hq')
    · rcases List.mem_cons.mp hq with e2 | hq'
      · exact absurd (e2 ▸ e).symm (h1 p hp')
      · exact ih h2 hp' hq'
theorem Inv.re {qs A B : List Nw} (I : Inv qs A) (h1 : ∀ a ∈ A, a ∈ B) (h2 : ∀ b ∈ B, ∃ a ∈ A, fold a = fold b ∧ ¬ Gr b a) : Inv qs B := by
  refine ⟨fun y hy => ?_, fun q hq => h1 q (I.mem q hq), fun q hq y hy e => ?_, fun y hy => ?_, I.one⟩
  · obtain ⟨a, ha, e, _⟩ := h2 y hy
    exact e ▸ I.dom a ha
  · obtain ⟨a, ha, e2, g⟩ := h2 y hy
    exact not_gr_trans g (I.max q hq a ha (e2.trans e))
  · obtain ⟨a, ha, e, _⟩ := h2 y hy
    obtain ⟨q, hq, e3⟩ := I.has a ha
    exact ⟨q, hq, e3.trans e⟩
theorem Inv.perm {qs nws : List Nw} (I : Inv qs nws) : (qs.map prOf).Perm (bestL nws three) := by
  have hn : (qs.map prOf).Nodup := by
    refine List.pairwise_map.mpr (I.one.imp fun {p q} h e => h ?_)
    exact congrArg (fun r : Str × Str => Txt.lower r.1) e
  have hb : (bestL nws three).Nodup := (bestL_apart nws).imp fun {p q} h e => h (congrArg Prod.fst e)
  refine (List.perm_ext_iff_of_nodup hn hb).mpr fun p => ⟨fun hp => ?_, fun hp => ?_⟩
  · obtain ⟨q, hq, rfl⟩ := List.mem_map.mp hp
    refine List.mem_flatMap.mpr ⟨fold q, I.dom q (I.mem q hq), ?_⟩
    have hne : (nws.filter fun x => Txt.lower x.name == fold q) ≠ [] := List.ne_nil_of_mem (List.mem_filter.mpr ⟨I.mem q hq, beq_self_eq_true _⟩)
    obtain ⟨x, hx⟩ := maxAt_some hne
    have hq' : IsMax (nws.filter fun x => Txt.lower x.name == fold q) q := ⟨List.mem_filter.mpr ⟨I.mem q hq, beq_self_eq_true _⟩, fun y hy => by
      obtain ⟨h1, h2⟩ := List.mem_filter.mp hy
      exact I.max q hq y h1 (beq_iff_eq.mp h2)⟩
    have e := (maxAt_is hx).one hq'
    rw [bestOne_some hx, e]
    exact .head _
  · obtain ⟨f, hf, hp⟩ := List.mem_flatMap.mp hp
    unfold bestOne at hp
    cases hm : maxAt (nws.filter fun x => Txt.lower x.name == f) with
    | none => rw [hm] at hp; cases hp
    | some x =>
      rw [hm] at hp
      have hp : p = (x.name, x.text) := by simpa using hp
      obtain ⟨hx1, hx2⟩ := maxAt_is hm
      obtain ⟨hx3, hx4⟩ := List.mem_filter.mp hx1
      have hx4 := beq_iff_eq.mp hx4
      obtain ⟨q, hq, e⟩ := I.has x hx3
      have : q = x := by
        refine IsMax.one (l := nws.filter fun x => Txt.lower x.name == f) ⟨List.mem_filter.mpr ⟨I.mem q hq, beq_iff_eq.mpr (e.trans hx4)⟩, fun y hy => ?_⟩ ⟨hx1, hx2⟩
        obtain ⟨h1, h2⟩ := List.mem_filter.mp hy
        exact I.max q hq y h1 ((beq_iff_eq.mp h2).trans (e.trans hx4).symm)
      rw [hp, ← this]
      exact List.mem_map_of_mem hq
theorem Inv.len {qs nws : List Nw} (I : Inv qs nws) : qs.length ≤ 3 := by
  have := I.perm.length_eq
  rw [List.length_map] at this
  have := bestL_len nws
  omega
theorem putF_inv {qs nws : List Nw} {x : Nw} (I : Inv qs nws) (h3 : fold x ∈ three) (hx : ∀ y ∈ nws, fold y = fold x → ¬ Gr y x) : Inv (putF qs x) (nws ++ [x]) := by
  unfold putF
  refine ⟨fun y hy => ?_, fun q hq => ?_, fun q hq y hy e => ?_, fun y hy => ?_, ?_⟩
  · rcases List.mem_append.mp hy with hy | hy
    · exact I.dom y hy
    · rw [List.mem_singleton.mp hy]; exact h3
  · rcases List.mem_append.mp hq with hq | hq
    · exact List.mem_append_left _ (I.mem q (List.mem_filter.mp hq).1)
    · exact List.mem_append_right _ hq
  · rcases List.mem_append.mp hq with hq | hq
    · obtain ⟨hq1, hq2⟩ := List.mem_filter.mp hq
      rcases List.mem_append.mp hy with hy | hy
      · exact I.max q hq1 y hy e
      · rw [List.mem_singleton.mp hy] at e
        exact absurd e.symm (bne_iff_ne.mp hq2)
    · rw [List.mem_singleton.mp hq] at e ⊢
      rcases List.mem_append.mp hy with hy | hy
      · exact hx y hy e
      · rw [List.mem_singleton.mp hy]; exact Gr.irrefl _
  · by_cases e : fold y = fold x
    · exact ⟨x, List.mem_append_right _ (.head _), e.symm⟩
    · rcases List.mem_append.mp hy with hy | hy
      · obtain ⟨q, hq, e2⟩ := I.has y hy
        exact ⟨q, List.mem_append_left _ (List.mem_filter.mpr ⟨hq, bne_iff_ne.mpr (fun z => e (e2.symm.trans z))⟩), e2⟩
      · exact absurd (by rw [List.mem_singleton.mp hy]) e
  · refine List.pairwise_append.mpr ⟨I.one.filter _, List.pairwise_singleton _ _, fun a ha b hb => ?_⟩
    rw [List.mem_singleton.mp hb]
    exact bne_iff_ne.mp (List.mem_filter.mp ha).2
theorem hearF_inv {qs nws : List Nw} {x : Nw} (I : Inv qs nws) (h3 : fold x ∈ three) (hn : ∀ q ∈ qs, q.text = x.text → q.name = x.name) : Inv (hearF qs x) (nws ++ [x]) := by
  unfold hearF
  cases hh : heldF qs x with
  | none =>
    refine putF_inv I h3 fun y hy e => ?_
    obtain ⟨q, hq, e2⟩ := I.has y hy
    exact absurd (beq_iff_eq.mpr (e2.trans e)) (List.find?_eq_none.mp hh q hq)
  | some q =>
    have hq := held_mem hh
    have hf : fold q = fold x := beq_iff_eq.mp (List.find?_some (p := fun q : Nw => Txt.lower q.name == Txt.lower x.name) hh)
    have hl := lt3_iff (hn q hq)
    dsimp only
    by_cases hc : lt3 q x = true
    · rw [if_pos hc]
      exact putF_inv I h3 fun y hy e g => I.max q hq y hy (e.trans hf.symm) (g.trans (hl.mp hc))
    · rw [if_neg hc]
      have hng : ¬ Gr x q := fun g => hc (hl.mpr g)
      refine ⟨fun y hy => ?_, fun p hp => List.mem_append_left _ (I.mem p hp), fun p hp y hy e => ?_, fun y hy => ?_, I.one⟩
      · rcases List.mem_append.mp hy with hy | hy
        · exact I.dom y hy
        · rw [List.mem_singleton.mp hy]; exact h3
      · rcases List.mem_append.mp hy with hy | hy
        · exact I.max p hp y hy e
        · rw [List.mem_singleton.mp hy] at e ⊢
          rw [pw_eq I.one hp hq (e.symm.trans hf.symm)]
          exact hng
      · rcases List.mem_append.mp hy with hy | hy
        · exact I.has y hy
        · rw [List.mem_singleton.mp hy]; exact ⟨q, hq, hf⟩
theorem tellF_inv : ∀ (l qs nws : List Nw), Inv qs nws → (∀ x ∈ l, fold x ∈ three) → (∀ p q, (p ∈ qs ∨ p ∈ l) → (q ∈ qs ∨ q ∈ l) → p.text = q.text → p.name = q.name) → Inv (tellF qs l) (nws ++ l)
  | [], qs, nws, I, _, _ => by
    rw [List.append_nil]
    exact I
  | x :: l, qs, nws, I, h3, hn => by
    have := tellF_inv l (hearF qs x) (nws ++ [x]) (hearF_inv I (h3 x (.head _)) (fun q hq => hn q x (.inl hq) (.inr (.head _)))) (fun y hy => h3 y (.tail _ hy)) (fun p q hp hq => by
      refine hn p q ?_ ?_
      · rcases hp with hp | hp
        · rcases hearF_mem hp with hp | rfl
          · exact .inl hp
          · exact .inr (.head _)
        · exact .inr (.tail _ hp)
      · rcases hq with hq | hq
        · rcases hearF_mem hq with hq | rfl
          · exact .inl hq
          · exact .inr (.head _)
        · exact .inr (.tail _ hq))
    rw [List.append_assoc] at this
    exact this
/-- one table tells another -/
theorem tell_inv {qs nws qs1 nws1 B : List Nw} (I : Inv qs nws) (I1 : Inv qs1 nws1) (hn : ∀ p q, (p ∈ qs ∨ p ∈ qs1) → (q ∈ qs ∨ q ∈ qs1) → p.text = q.text → p.name = q.name) (hB : ∀ x, x ∈ B ↔ x ∈ nws ∨ x ∈ nws1) : Inv (tellF qs qs1) B := by
  refine (tellF_inv qs1 qs nws I (fun x hx => I1.dom x (I1.mem x hx)) hn).re (fun a ha => ?_) (fun b hb => ?_)
  · rcases List.mem_append.mp ha with ha | ha
    · exact (hB a).mpr (.inl ha)
    · exact (hB a).mpr (.inr (I1.mem a ha))
  · rcases (hB b).mp hb with hb | hb
    · exact ⟨b, List.mem_append_left _ hb, rfl, Gr.irrefl _⟩
    · obtain ⟨q, hq, e⟩ := I1.has b hb
      exact ⟨q, List.mem_append_right _ hq, e, I1.max q hq b hb e.symm⟩
end Mine
end
section
open PySem PySem.W PyProof.Rows PySem.Spec PySem.Calls
set_option maxRecDepth 100000
set_option maxHeartbeats 8000000
namespace Mine
theorem offMW : True := by
  w_top off
  trivial
/-- a news that a row makes -/
def Made (x : Nw) : Prop := ∃ r, RowOk r ∧ x = madeR r
theorem Made.good {x : Nw} (h : Made x) (P : Params) : Good P x := by
  obtain ⟨r, ok, rfl⟩ := h
  exact made_good P ok.h0 ok.h1 ok.h3 ok.h4 ok.h9
theorem three_all : ∀ r0, r0 < 4 → Txt.lower (nameF r0) ∈ three := by decide +kernel
theorem Made.fold {x : Nw} (h : Made x) : fold x ∈ three := by
  obtain ⟨r, ok, rfl⟩ := h
  exact three_all _ ok.h0
theorem Made.name {x y : Nw} (hx : Made x) (hy : Made y) (e : x.text = y.text) : x.name = y.name := by
  obtain ⟨r, ok, rfl⟩ := hx
  obtain ⟨r', ok', rfl⟩ := hy
  rw [← made_name (r2 := r 2) (r9 := r 9) ok.h0 ok.h1 ok.h3 ok.h4, ← made_name (r2 := r' 2) (r9 := r' 9) ok'.h0 ok'.h1 ok'.h3 ok'.h4]
  exact congrArg (fun t => p257F (Str.ofString "257 " ++ t)) e
theorem made_len {r : Nat → Nat} (ok : RowOk r) : 11 ≤ (madeR r).text.length ∧ (madeR r).text.length ≤ 200 := by
  have e : (madeR r).text = S (lineL (r 0) (r 1) (r 2) (r 3) (r 4) (r 9)) := line_is ok.h0 ok.h1 ok.h3 ok.h4
  rw [e, S_len]
  have := line_len (r2 := r 2) (r3 := r 3) (r4 := r 4) ok.h0 ok.h1 ok.h9
  omega
abbrev upd {α : Type} (f : Nat → α) (i : Nat) (v : α) : Nat → α := fun j => if j = i then v else f j
theorem upd_self {α : Type} (f : Nat → α) (i : Nat) : upd f i (f i) = f := by
  funext j
  unfold upd
  split
  · rename_i e; rw [e]
  · rfl
def firstQ (qss : Nat → List Nw) (r : Nat → Nat) : Nat → List Nw := if r 6 < 8 then upd qss (r 5) (hearF (qss (r 5)) (madeR r)) else qss
def firstN (nwss : Nat → List Nw) (r : Nat → Nat) : Nat → List Nw := if r 6 < 8 then upd nwss (r 5) (nwss (r 5) ++ [madeR r]) else nwss
def moreN (a b : List Nw) : List Nw := a ++ b.filter fun x => decide (x ∉ a)
def wholes (rs : List (Nat → Nat)) : List Nw := (rs.filter fun r => decide (r 6 < 8)).map madeR
theorem wholes_app (rs : List (Nat → Nat)) (r : Nat → Nat) : wholes (rs ++ [r]) = wholes rs ++ (if r 6 < 8 then [madeR r] else []) := by
  unfold wholes
  rw [List.filter_append, List.map_append]
  congr 1
  by_cases h : r 6 < 8
  · rw [if_pos h, List.filter_cons_of_pos (by simpa using h)]; rfl
  · rw [if_neg h, List.filter_cons_of_neg (by simpa using h)]; rfl
/-- what the three tables and lists are between the rows -/
structure St (rs : List (Nat → Nat)) (qss nwss : Nat → List Nw) (B : Nat) : Prop where
  inv : ∀ j, j < 3 → Inv (qss j) (nwss j)
  made : ∀ j, j < 3 → ∀ x ∈ nwss j, Made x
  sub : ∀ j, j < 3 → ∀ x ∈ nwss j, x ∈ wholes rs
  all : ∀ x ∈ wholes rs, ∃ j, j < 3 ∧ x ∈ nwss j
  len : ∀ j, j < 3 → (nwss j).length ≤ B
theorem St.nil : St [] (fun _ => []) (fun _ => []) 0 := ⟨fun _ _ => Inv.nil, fun _ _ _ h => (nomatch h), fun _ _ _ h => (nomatch h), fun _ h => (nomatch h), fun _ _ => Nat.le_refl _⟩
theorem hear_made {qs nws : List Nw} {x : Nw} (I : Inv qs nws) (hm : ∀ y ∈ nws, Made y) (hx : Made x) : Inv (hearF qs x) (nws ++ [x]) :=
  hearF_inv I hx.fold fun q hq e => (hm q (I.mem q hq)).name hx e
theorem St.first {rs : List (Nat → Nat)} {qss nwss : Nat → List Nw} {B : Nat} (Z : St rs qss nwss B) {r : Nat → Nat} (ok : RowOk r) : St (rs ++ [r]) (firstQ qss r) (firstN nwss r) (B + 1) := by
  unfold firstQ firstN
  have hm : Made (madeR r) := ⟨r, ok, rfl⟩
  by_cases h : r 6 < 8
  · have ew : wholes (rs ++ [r]) = wholes rs ++ [madeR r] := by rw [wholes_app, if_pos h]
    rw [if_pos h, if_pos h]
    refine ⟨fun j hj => ?_, fun j hj x hx => ?_, fun j hj x hx => ?_, fun x hx => ?_, fun j hj => ?_⟩
    · dsimp only [upd]
      split
      · exact hear_made (Z.inv _ ok.h5) (Z.made _ ok.h5) hm
      · exact Z.inv j hj
    · dsimp only [upd] at hx
      split at hx
      · rcases List.mem_append.mp hx with hx | hx
        · exact Z.made _ ok.h5 x hx
        · rw [List.mem_singleton.mp hx]; exact hm
      · exact Z.made j hj x hx
    · rw [ew]
      dsimp only [upd] at hx
      split at hx
      · rcases List.mem_append.mp hx with hx | hx
        · exact List.mem_append_left _ (Z.sub _ ok.h5 x hx)
        · exact List.mem_append_right _ hx
      · exact List.mem_append_left _ (Z.sub j hj x hx)
    · rw [ew] at hx
      rcases List.mem_append.mp hx with hx | hx
      · obtain ⟨j, hj, hxj⟩ := Z.all x hx
        refine ⟨j, hj, ?_⟩
        dsimp only [upd]
        split
        · rename_i e
          exact List.mem_append_left _ (e ▸ hxj)
        · exact hxj
      · refine ⟨r 5, ok.h5, ?_⟩
        dsimp only [upd]
        rw [if_pos rfl]
        exact List.mem_append_right _ hx
    · dsimp only [upd]
      split
      · have := Z.len _ ok.h5
        rw [List.length_append, List.length_singleton]
        omega
      · have := Z.len j hj
        omega
  · have ew : wholes (rs ++ [r]) = wholes rs := by rw [wholes_app, if_neg h, List.append_nil]
    rw [if_neg h, if_neg h]
    refine ⟨Z.inv, Z.made, fun j hj x hx => ew ▸ Z.sub j hj x hx, fun x hx => Z.all x (ew ▸ hx), fun j hj => Nat.le_succ_of_le (Z.len j hj)⟩
theorem moreN_mem {a b : List Nw} {x : Nw} : x ∈ moreN a b ↔ x ∈ a ∨ x ∈ b := by
  unfold moreN
  rw [List.mem_append, List.mem_filter, decide_eq_true_eq]
  constructor
  · rintro (h | ⟨h, _⟩)
    · exact .inl h
    · exact .inr h
  · rintro (h | h)
    · exact .inl h
    · by_cases hx : x ∈ a
      · exact .inl hx
      · exact .inr ⟨h, hx⟩
theorem tell_made {qs nws qs1 nws1 B : List Nw} (I : Inv qs nws) (I1 : Inv qs1 nws1) (hm : ∀ y ∈ nws, Made y) (hm1 : ∀ y ∈ nws1, Made y) (hB : ∀ x, x ∈ B ↔ x ∈ nws ∨ x ∈ nws1) : Inv (tellF qs qs1) B :=
  tell_inv I I1 (fun p q hp hq e => by
    have a : ∀ p, (p ∈ qs ∨ p ∈ qs1) → Made p := fun p hp => hp.elim (fun h => hm p (I.mem p h)) (fun h => hm1 p (I1.mem p h))
    exact (a p hp).name (a q hq) e) hB
theorem St.tell {rs : List (Nat → Nat)} {qss nwss : Nat → List Nw} {B : Nat} (Z : St rs qss nwss B) {i o : Nat} (hi : i < 3) (ho : o < 3) : St rs (upd qss o (tellF (qss o) (qss i))) (upd nwss o (moreN (nwss o) (nwss i))) (B + B) := by
  refine ⟨fun j hj => ?_, fun j hj x hx => ?_, fun j hj x hx => ?_, fun x hx => ?_, fun j hj => ?_⟩
  · dsimp only [upd]
    split
    · exact tell_made (Z.inv o ho) (Z.inv i hi) (Z.made o ho) (Z.made i hi) fun x => moreN_mem
    · exact Z.inv j hj
  · dsimp only [upd] at hx
    split at hx
    · rcases moreN_mem.mp hx with hx | hx
      · exact Z.made o ho x hx
      · exact Z.made i hi x hx
    · exact Z.made j hj x hx
  · dsimp only [upd] at hx
    split at hx
    · rcases moreN_mem.mp hx with hx | hx
      · exact Z.sub o ho x hx
      · exact Z.sub i hi x hx
    · exact Z.sub j hj x hx
  · obtain ⟨j, hj, hxj⟩ := Z.all x hx
    refine ⟨j, hj, ?_⟩
    dsimp only [upd]
    split
    · rename_i e
      exact moreN_mem.mpr (.inl (e ▸ hxj))
    · exact hxj
  · dsimp only [upd]
    have h1 := Z.len o ho
    have h2 := Z.len i hi
    have h3 := Z.len j hj
    split
    · unfold moreN
      have h4 := List.length_filter_le (fun x => decide (x ∉ nwss o)) (nwss i)
      rw [List.length_append]
      omega
    · omega
def Bk : Nat → Nat
  | 0 => 0
  | k + 1 => (Bk k + 1) + (Bk k + 1)
theorem Bk_le : ∀ k, k ≤ 11 → Bk k ≤ 4094 := by decide +kernel
/-- the last tells -/
def pairs4 : List (Nat × Nat) := [(0, 1), (1, 2), (2, 0), (0, 1)]
def lastQ (qss : Nat → List Nw) (i : Nat) : Nat → List Nw := (pairs4.take i).foldl (fun q p => upd q p.2 (tellF (q p.2) (q p.1))) qss
theorem lastQ_more {qss : Nat → List Nw} {i : Nat} {p : Nat × Nat} (h : pairs4[i]? = some p) : lastQ qss (i + 1) = upd (lastQ qss i) p.2 (tellF (lastQ qss i p.2) (lastQ qss i p.1)) := by
  unfold lastQ
  rw [take_more h, List.foldl_append]
  rfl
/-- a table that knows only made news -/
def Sound (qs : List Nw) : Prop := ∃ nws, Inv qs nws ∧ ∀ x ∈ nws, Made x
theorem Sound.tell {qs qs1 : List Nw} (a : Sound qs) (b : Sound qs1) : Sound (tellF qs qs1) := by
  obtain ⟨n, I, hm⟩ := a
  obtain ⟨n1, I1, hm1⟩ := b
  refine ⟨n ++ n1, tell_made I I1 hm hm1 fun x => List.mem_append, fun x hx => ?_⟩
  rcases List.mem_append.mp hx with hx | hx
  · exact hm x hx
  · exact hm1 x hx
theorem Sound.good {qs : List Nw} (a : Sound qs) (P : Params) : ∀ q ∈ qs, Good P q := fun q hq => by
  obtain ⟨n, I, hm⟩ := a
  exact (hm q (I.mem q hq)).good P
theorem Sound.len {qs : List Nw} (a : Sound qs) : qs.length ≤ 3 := by
  obtain ⟨n, I, hm⟩ := a
  exact I.len
theorem last_sound {qss : Nat → List Nw} (h : ∀ j, j < 3 → Sound (qss j)) : ∀ i j, j < 3 → Sound (lastQ qss i j) := by
  have : ∀ (ps : List (Nat × Nat)) (q : Nat → List Nw), (∀ p ∈ ps, p.1 < 3 ∧ p.2 < 3) → (∀ j, j < 3 → Sound (q j)) → ∀ j, j < 3 → Sound (ps.foldl (fun q p => upd q p.2 (tellF (q p.2) (q p.1))) q j) := by
    intro ps
    induction ps with
    | nil => exact fun q _ hq => hq
    | cons p ps ih =>
      intro q hp hq
      refine ih _ (fun x hx => hp x (.tail _ hx)) fun j hj => ?_
      dsimp only [upd]
      split
      · exact (hq _ (hp p (.head _)).2).tell (hq _ (hp p (.head _)).1)
      · exact hq j hj
  intro i
  exact this _ _ (fun p hp => (by decide : ∀ p ∈ pairs4, p.1 < 3 ∧ p.2 < 3) p (List.mem_of_mem_take hp)) h
theorem St.last {rs : List (Nat → Nat)} {qss nwss : Nat → List Nw} {B : Nat} (Z : St rs qss nwss B) : ∀ j, j < 3 → Inv (lastQ qss 4 j) (wholes rs) := by
  have m := Z.made
  have a1 : Inv (tellF (qss 1) (qss 0)) (nwss 1 ++ nwss 0) := tell_made (Z.inv 1 (by decide)) (Z.inv 0 (by decide)) (m 1 (by decide)) (m 0 (by decide)) fun x => List.mem_append
  have m1 : ∀ x ∈ nwss 1 ++ nwss 0, Made x := fun x hx => (List.mem_append.mp hx).elim (m 1 (by decide) x) (m 0 (by decide) x)
  have W : ∀ x, x ∈ wholes rs ↔ x ∈ nwss 2 ∨ x ∈ nwss 1 ++ nwss 0 := fun x => by
    constructor
    · intro hx
      obtain ⟨j, hj, hxj⟩ := Z.all x hx
      have : j = 0 ∨ j = 1 ∨ j = 2 := by omega
      rcases this with rfl | rfl | rfl
      · exact .inr (List.mem_append_right _ hxj)
      · exact .inr (List.mem_append_left _ hxj)
      · exact .inl hxj
    · rintro (h | h)
      · exact Z.sub 2 (by decide) x h
      · exact (List.mem_append.mp h).elim (Z.sub 1 (by decide) x) (Z.sub 0 (by decide) x)
  have mw : ∀ x ∈ wholes rs, Made x := fun x hx => ((W x).mp hx).elim (m 2 (by decide) x) (m1 x)
  have a2 : Inv (tellF (qss 2) (tellF (qss 1) (qss 0))) (wholes rs) := tell_made (Z.inv 2 (by decide)) a1 (m 2 (by decide)) m1 W
  have a0 : Inv (tellF (qss 0) (tellF (qss 2) (tellF (qss 1) (qss 0)))) (wholes rs) := tell_made (Z.inv 0 (by decide)) a2 (m 0 (by decide)) mw fun x => ⟨.inr, fun h => h.elim (Z.sub 0 (by decide) x) id⟩
  have a3 : Inv (tellF (tellF (qss 1) (qss 0)) (tellF (qss 0) (tellF (qss 2) (tellF (qss 1) (qss 0))))) (wholes rs) := tell_made a1 a0 m1 mw fun x => ⟨.inr, fun h => h.elim (fun h => (W x).mpr (.inr h)) id⟩
  intro j hj
  have : j = 0 ∨ j = 1 ∨ j = 2 := by omega
  rcases this with rfl | rfl | rfl
  · exact a0
  · exact a3
  · exact a2
/-- the addresses of the three tables -/
structure Ad where
  Ta : Addr
  Ka : Addr
  nT : Nat
  nK : Nat
  H : Nat → Addr
  DX : Nat → Addr
  LL : Nat → Addr
  KK : Nat → Addr
  hs : Nat → Int
  kt : Nat → Tok
  n : Nat → Nat
abbrev Ad.tv (A : Ad) : List Value := [.ref (A.H 0), .ref (A.H 1), .ref (A.H 2)]
abbrev Ad.kv (A : Ad) : List Value := [.ref (A.KK 0), .ref (A.KK 1), .ref (A.KK 2)]
theorem Ad.tv_at (A : Ad) {i : Nat} (h : i < 3) : A.tv[i]? = some (.ref (A.H i)) := by
  have : i = 0 ∨ i = 1 ∨ i = 2 := by omega
  rcases this with rfl | rfl | rfl <;> rfl
theorem Ad.kv_at (A : Ad) {i : Nat} (h : i < 3) : A.kv[i]? = some (.ref (A.KK i)) := by
  have : i = 0 ∨ i = 1 ∨ i = 2 := by omega
  rcases this with rfl | rfl | rfl <;> rfl
/-- what does not change -/
structure Off (A : Ad) (cst : Led) : Prop where
  off : ∀ p ∈ cst, ∀ i, i < 3 → p.1 ≠ A.LL i ∧ p.1 ≠ A.KK i
  ta : (A.Ta, listOf A.tv.toArray A.nT) ∈ cst
  ka : (A.Ka, listOf A.kv.toArray A.nK) ∈ cst
  h : ∀ i, i < 3 → (A.H i, instObj 232 (A.DX i)) ∈ cst
  dx : ∀ i, i < 3 → (A.DX i, hdD (A.hs i) (A.kt i) (A.LL i) (A.n i)) ∈ cst
  ll : ∀ i j, i < 3 → j < 3 → i ≠ j → A.LL i ≠ A.LL j
  kk : ∀ i j, i < 3 → j < 3 → i ≠ j → A.KK i ≠ A.KK j
  lk : ∀ i j, i < 3 → j < 3 → A.LL i ≠ A.KK j
/-- the three tables and lists in a ledger -/
structure W3 (A : Ad) (cst led : Led) (qss nwss : Nat → List Nw) : Prop where
  cst_in : ∀ p ∈ cst, p ∈ led
  tab : ∀ i, i < 3 → ∃ nn vs, (A.LL i, listOf (List.toArray vs) nn) ∈ led ∧ Fa2 (PairAt led) vs ((qss i).map prOf)
  kn : ∀ i, i < 3 → ∃ kn us, (A.KK i, listOf (List.toArray us) kn) ∈ led ∧ Fa2 (NwAt led) us (nwss i)
theorem NwAt.subC {A B : Led} (h : ∀ q ∈ A, q.2.cls = .type "tuple" → q ∈ B) {v : Value} {p : Nw} (x : NwAt A v p) : NwAt B v p := by
  obtain ⟨a, t1, t2, t3, t4, e, m⟩ := x
  exact ⟨a, t1, t2, t3, t4, e, h _ m rfl⟩
theorem W3.grow {A : Ad} {cst led led' : Led} {qss nwss : Nat → List Nw} (W : W3 A cst led qss nwss) (h : ∀ p ∈ led, p ∈ led') : W3 A cst led' qss nwss := by
  refine ⟨fun p hp => h p (W.cst_in p hp), fun i hi => ?_, fun i hi => ?_⟩
  · obtain ⟨nn, vs, h1, h2⟩ := W.tab i hi
    exact ⟨nn, vs, h _ h1, h2.mono fun _ _ => PairAt.sub h⟩
  · obtain ⟨nn, vs, h1, h2⟩ := W.kn i hi
    exact ⟨nn, vs, h _ h1, h2.mono fun _ _ => NwAt.sub h⟩
/-- the ledger but two addresses -/
def but2 (led : Led) (a b : Addr) : Led := led.filter fun p => !(Nat.beq p.1 a) && !(Nat.beq p.1 b)
theorem but2_mem {led : Led} {a b : Addr} {p : Addr × Obj} : p ∈ but2 led a b ↔ p ∈ led ∧ p.1 ≠ a ∧ p.1 ≠ b := by
  unfold but2
  rw [List.mem_filter]
  constructor
  · rintro ⟨h, hc⟩
    rw [Bool.and_eq_true, Bool.not_eq_true', Bool.not_eq_true'] at hc
    exact ⟨h, Nat.ne_of_beq_eq_false hc.1, Nat.ne_of_beq_eq_false hc.2⟩
  · rintro ⟨h, h1, h2⟩
    refine ⟨h, ?_⟩
    rw [Bool.and_eq_true, Bool.not_eq_true', Bool.not_eq_true']
    exact ⟨Bool.eq_false_iff.mpr fun e => h1 (Nat.eq_of_beq_eq_true e), Bool.eq_false_iff.mpr fun e => h2 (Nat.eq_of_beq_eq_true e)⟩
section
variable {h₀ h : Heap} {L : Addr} {led cst : Led} {A : Ad} {qss nwss : Nat → List Nw}
theorem tup_keep (N : News h₀ L h led) {a b : Addr} {va vb : Array Value} {na nb : Nat} (ha : (a, listOf va na) ∈ led) (hb : (b, listOf vb nb) ∈ led) : ∀ q ∈ led, q.2.cls = .type "tuple" → q ∈ but2 led a b := fun q hq hc =>
  but2_mem.mpr ⟨hq, tupC_ne N hq hc ha, tupC_ne N hq hc hb⟩
end
abbrev RetW (A : Ad) (cst led : Led) (Q N : Nat → List Nw) (a b : Addr) (led' : Led) : Prop := W3 A cst led' Q N ∧ ∀ p ∈ led, p.1 ≠ a → p.1 ≠ b → p ∈ led'
theorem first_abs (w : World) (A : Ad) (cst led : Led) (qss nwss : Nat → List Nw) (rs : List (Nat → Nat)) (B : Nat) (r : Nat → Nat) (t : Nat → Tok) (nD : Nat) (Da : Addr) (O : Off A cst) (W : W3 A cst led qss nwss) (Z : St rs qss nwss B) (hB : B ≤ 5000) (hD : (Da, rowO r t nD) ∈ cst) (ok : RowOk r) :
    ConS w (14 + 1) 283 led [.ref A.Ta, .ref A.Ka, .ref Da] (fun v led' => v = .bool true ∧ RetW A cst led (firstQ qss r) (firstN nwss r) (A.LL (r 5)) (A.KK (r 5)) led') := by
  intro mean mg mb dp un gd cn cs a ccd cl outer A₀ base h₀ L m s E B' F X N T hk hdd hu XB TB D
  have h5 := ok.h5
  obtain ⟨nn, vs, hl, hv⟩ := W.tab (r 5) h5
  obtain ⟨kn, us, hk', hu'⟩ := W.kn (r 5) h5
  have tk := tup_keep N hl hk'
  generalize hrest : but2 led (A.LL (r 5)) (A.KK (r 5)) = rest at tk
  have inr : ∀ p ∈ led, p.1 ≠ A.LL (r 5) → p.1 ≠ A.KK (r 5) → p ∈ rest := fun p hp h1 h2 => hrest ▸ but2_mem.mpr ⟨hp, h1, h2⟩
  have cr : ∀ p ∈ cst, p ∈ rest := fun p hp => inr p (W.cst_in p hp) (O.off p hp _ h5).1 (O.off p hp _ h5).2
  have ofl : ∀ p ∈ rest, p.1 ≠ A.LL (r 5) := fun p hp => (but2_mem.mp (hrest ▸ hp)).2.1
  have ofk : ∀ p ∈ rest, p.1 ≠ A.KK (r 5) := fun p hp => (but2_mem.mp (hrest ▸ hp)).2.2
  have N2 : News h₀ L s.heap (tabLed (A.H (r 5)) (A.DX (r 5)) (A.LL (r 5)) (A.hs (r 5)) (A.kt (r 5)) (A.n (r 5)) nn vs ((A.KK (r 5), listOf us.toArray kn) :: rest)) :=
    news_sub N (sub_cons (W.cst_in _ (O.h _ h5)) (sub_cons (W.cst_in _ (O.dx _ h5)) (sub_cons hl (sub_cons hk' fun p hp => (but2_mem.mp (hrest ▸ hp)).1))))
  have I := Z.inv _ h5
  have mm := Z.made _ h5
  have hq : ∀ q ∈ qss (r 5), Good w.params q := fun q hq => (mm q (I.mem q hq)).good _
  have hx : ∀ q ∈ nwss (r 5), Good w.params q := fun q hq => (mm q hq).good _
  have hv2 : Fa2 (PairAt rest) vs ((qss (r 5)).map prOf) := hv.mono fun _ _ => PairAt.subC tk
  have hu2 : Fa2 (NwAt rest) us (nwss (r 5)) := hu'.mono fun _ _ => NwAt.subC tk
  have lv : vs.length ≤ 3 := by rw [hv.length, List.length_map]; exact I.len
  have lu : us.length + us.length + 8 ≤ 1000000 := by
    have := Z.len _ h5
    rw [hu'.length]
    omega
  have km : ∀ (fresh : Led) (vs' us' : List Value) (nn' un' : Nat), ∀ p ∈ led, p.1 ≠ A.LL (r 5) → p.1 ≠ A.KK (r 5) → p ∈ tabLed (A.H (r 5)) (A.DX (r 5)) (A.LL (r 5)) (A.hs (r 5)) (A.kt (r 5)) (A.n (r 5)) nn' vs' ((A.KK (r 5), listOf (List.toArray us') un') :: (fresh ++ rest)) := fun fresh vs' us' nn' un' p hp h1 h2 =>
    .tail _ (.tail _ (.tail _ (.tail _ (List.mem_append_right _ (inr p hp h1 h2)))))
  have fin : ∀ (fresh : Led) (vs' us' : List Value) (nn' un' : Nat) (q' n' : List Nw), Fa2 (PairAt (fresh ++ rest)) vs' (q'.map prOf) → Fa2 (NwAt (fresh ++ rest)) us' n' →
      W3 A cst (tabLed (A.H (r 5)) (A.DX (r 5)) (A.LL (r 5)) (A.hs (r 5)) (A.kt (r 5)) (A.n (r 5)) nn' vs' ((A.KK (r 5), listOf (List.toArray us') un') :: (fresh ++ rest))) (upd qss (r 5) q') (upd nwss (r 5) n') := by
    intro fresh vs' us' nn' un' q' n' fv fu
    have up : ∀ p ∈ fresh ++ rest, p ∈ tabLed (A.H (r 5)) (A.DX (r 5)) (A.LL (r 5)) (A.hs (r 5)) (A.kt (r 5)) (A.n (r 5)) nn' vs' ((A.KK (r 5), listOf (List.toArray us') un') :: (fresh ++ rest)) := fun p hp => .tail _ (.tail _ (.tail _ (.tail _ hp)))
    have upt : ∀ q ∈ led, q.2.cls = .type "tuple" → q ∈ tabLed (A.H (r 5)) (A.DX (r 5)) (A.LL (r 5)) (A.hs (r 5)) (A.kt (r 5)) (A.n (r 5)) nn' vs' ((A.KK (r 5), listOf (List.toArray us') un') :: (fresh ++ rest)) := fun q hq hc => up q (List.mem_append_right _ (tk q hq hc))
    refine ⟨fun p hp => up p (List.mem_append_right _ (cr p hp)), fun i hi => ?_, fun i hi => ?_⟩
    · dsimp only [upd]
      by_cases e : i = r 5
      · rw [if_pos e, e]
        exact ⟨nn', vs', .tail _ (.tail _ (.head _)), fv.mono fun _ _ => PairAt.sub up⟩
      · rw [if_neg e]
        obtain ⟨n1, v1, h1, h2⟩ := W.tab i hi
        exact ⟨n1, v1, km _ _ _ _ _ _ h1 (O.ll i _ hi h5 e) (O.lk i _ hi h5), h2.mono fun _ _ => PairAt.subC upt⟩
    · dsimp only [upd]
      by_cases e : i = r 5
      · rw [if_pos e, e]
        exact ⟨un', us', .tail _ (.tail _ (.tail _ (.head _))), fu.mono fun _ _ => NwAt.sub up⟩
      · rw [if_neg e]
        obtain ⟨n1, v1, h1, h2⟩ := W.kn i hi
        exact ⟨n1, v1, km _ _ _ _ _ _ h1 (Ne.symm (O.lk _ i h5 hi)) (O.kk i _ hi h5 e), h2.mono fun _ _ => NwAt.subC upt⟩
  by_cases h6 : r 6 < 8
  · have hper := (hear_made I mm ⟨r, ok, rfl⟩).perm
    refine wpAny_mono (first_good w A.Ta A.Ka Da A.tv A.kv A.nT A.nK nD r t (A.H (r 5)) (A.DX (r 5)) (A.LL (r 5)) (A.hs (r 5)) (A.kt (r 5)) (A.n (r 5)) nn vs (A.KK (r 5)) kn us rest (qss (r 5)) (nwss (r 5)) (cr _ O.ta) (cr _ O.ka) (cr _ hD) (A.tv_at h5) (A.kv_at h5) rfl rfl ofl ofk (O.lk _ _ h5 h5) ok (made_len ok) hq hx hv2 hu2 lv lu h6 (Made.good ⟨r, ok, rfl⟩ _) hper mean mg mb dp un gd cn cs a ccd cl outer A₀ base h₀ L m s E B' F X N2 T hk hdd hu XB TB D) (fun v s' ⟨g, led', h', tk', e, G, F', N', r'⟩ => ⟨g, led', h', tk', e, G, F', N', ?_⟩) fun _ _ x => x
    obtain ⟨e1, nn', vs', un', us', fresh, rfl, _, fv, fu⟩ := r'
    refine ⟨e1, ?_, km _ _ _ _ _⟩
    unfold firstQ firstN
    rw [if_pos h6, if_pos h6]
    exact fin _ _ _ _ _ _ _ fv fu
  · refine wpAny_mono (first_bad w A.Ta A.Ka Da A.tv A.kv A.nT A.nK nD r t (A.H (r 5)) (A.DX (r 5)) (A.LL (r 5)) (A.hs (r 5)) (A.kt (r 5)) (A.n (r 5)) nn vs (A.KK (r 5)) kn us rest (qss (r 5)) (nwss (r 5)) (cr _ O.ta) (cr _ O.ka) (cr _ hD) (A.tv_at h5) (A.kv_at h5) rfl rfl ofl ofk (O.lk _ _ h5 h5) ok (made_len ok) hq hx hv2 hu2 lv lu _ h6 rfl (spoiled_bad w.params ok.h0 ok.h1 ok.h3 ok.h4 ok.h9 h6 ok.h6) I.perm mean mg mb dp un gd cn cs a ccd cl outer A₀ base h₀ L m s E B' F X N2 T hk hdd hu XB TB D) (fun v s' ⟨g, led', h', tk', e, G, F', N', r'⟩ => ⟨g, led', h', tk', e, G, F', N', ?_⟩) fun _ _ x => x
    obtain ⟨e1, rfl⟩ := r'
    refine ⟨e1, ?_, km [] _ _ _ _⟩
    unfold firstQ firstN
    rw [if_neg h6, if_neg h6]
    have := fin [] vs us nn kn (qss (r 5)) (nwss (r 5)) hv2 hu2
    have eq1 : upd qss (r 5) (qss (r 5)) = qss := upd_self _ _
    have eq2 : upd nwss (r 5) (nwss (r 5)) = nwss := upd_self _ _
    rw [eq1, eq2] at this
    exact this
theorem tell_abs (w : World) (A : Ad) (cst led : Led) (qss nwss : Nat → List Nw) (i j : Nat) (ti tj : Tok) (O : Off A cst) (W : W3 A cst led qss nwss) (hi : i < 3) (hj : j < 3) (hij : i ≠ j) (Zi : Sound (qss i)) (Zj : Sound (qss j)) :
    ConS w (14 + 1) 290 led [.ref A.Ta, .int (i : Int) ti, .int (j : Int) tj] (fun v led' => v = .none ∧ RetW A cst led (upd qss j (tellF (qss j) (qss i))) nwss (A.LL j) (A.LL j) led') := by
  intro mean mg mb dp un gd cn cs a ccd cl outer A₀ base h₀ L m s E B' F X N T hk hdd hu XB TB D
  obtain ⟨nn, vs, hl, hv⟩ := W.tab j hj
  obtain ⟨nna, vsa, hla, hva⟩ := W.tab i hi
  have tk := tup_keep N hl hl
  generalize hrest : but2 led (A.LL j) (A.LL j) = rest at tk
  have inr : ∀ p ∈ led, p.1 ≠ A.LL j → p ∈ rest := fun p hp h1 => hrest ▸ but2_mem.mpr ⟨hp, h1, h1⟩
  have cr : ∀ p ∈ cst, p ∈ rest := fun p hp => inr p (W.cst_in p hp) (O.off p hp _ hj).1
  have ofl : ∀ p ∈ rest, p.1 ≠ A.LL j := fun p hp => (but2_mem.mp (hrest ▸ hp)).2.1
  have N2 : News h₀ L s.heap (tabLed (A.H j) (A.DX j) (A.LL j) (A.hs j) (A.kt j) (A.n j) nn vs rest) :=
    news_sub N (sub_cons (W.cst_in _ (O.h _ hj)) (sub_cons (W.cst_in _ (O.dx _ hj)) (sub_cons hl fun p hp => (but2_mem.mp (hrest ▸ hp)).1)))
  refine wpAny_mono (tell_con w A.Ta A.tv A.nT i j ti tj (A.H j) (A.DX j) (A.LL j) (A.hs j) (A.kt j) (A.n j) nn vs (A.H i) (A.DX i) (A.LL i) (A.hs i) (A.kt i) (A.n i) nna vsa rest (qss j) (qss i) (cr _ O.ta) (cr _ (O.h _ hi)) (cr _ (O.dx _ hi)) (inr _ hla (O.ll _ _ hi hj hij)) (A.tv_at hi) (A.tv_at hj) rfl ofl (Zj.good _) (Zi.good _) (hv.mono fun _ _ => PairAt.subC tk) (hva.mono fun _ _ => PairAt.subC tk) Zj.len Zi.len mean mg mb dp un gd cn cs a ccd cl outer A₀ base h₀ L m s E B' F X N2 T hk hdd hu XB TB D) (fun v s' ⟨g, led', h', tk', e, G, F', N', r'⟩ => ⟨g, led', h', tk', e, G, F', N', ?_⟩) fun _ _ x => x
  obtain ⟨e1, nn', vs', fresh, rfl, _, fv⟩ := r'
  have up : ∀ p ∈ fresh ++ rest, p ∈ tabLed (A.H j) (A.DX j) (A.LL j) (A.hs j) (A.kt j) (A.n j) nn' vs' (fresh ++ rest) := fun p hp => .tail _ (.tail _ (.tail _ hp))
  have km : ∀ p ∈ led, p.1 ≠ A.LL j → p ∈ tabLed (A.H j) (A.DX j) (A.LL j) (A.hs j) (A.kt j) (A.n j) nn' vs' (fresh ++ rest) := fun p hp h1 => up p (List.mem_append_right _ (inr p hp h1))
  have upt : ∀ q ∈ led, q.2.cls = .type "tuple" → q ∈ tabLed (A.H j) (A.DX j) (A.LL j) (A.hs j) (A.kt j) (A.n j) nn' vs' (fresh ++ rest) := fun q hq hc => up q (List.mem_append_right _ (tk q hq hc))
  refine ⟨e1, ⟨fun p hp => up p (List.mem_append_right _ (cr p hp)), fun k hk2 => ?_, fun k hk2 => ?_⟩, fun p hp h1 _ => km p hp h1⟩
  · dsimp only [upd]
    by_cases e : k = j
    · rw [if_pos e, e]
      exact ⟨nn', vs', .tail _ (.tail _ (.head _)), fv.mono fun _ _ => PairAt.sub up⟩
    · rw [if_neg e]
      obtain ⟨n1, v1, h1, h2⟩ := W.tab k hk2
      exact ⟨n1, v1, km _ h1 (O.ll k _ hk2 hj e), h2.mono fun _ _ => PairAt.subC upt⟩
  · obtain ⟨n1, v1, h1, h2⟩ := W.kn k hk2
    exact ⟨n1, v1, km _ h1 (Ne.symm (O.lk _ k hj hk2)), h2.mono fun _ _ => NwAt.subC upt⟩
theorem items_abs (w : World) (A : Ad) (cst led : Led) (qss nwss : Nat → List Nw) (i : Nat) (O : Off A cst) (W : W3 A cst led qss nwss) (hi : i < 3) (hz : (qss i).length ≤ 3) :
    ConK w (2 + 1) 196 led [.ref (A.H i)] [] (fun v led' => ∃ D n' vs, v = .ref D ∧ (∀ p ∈ led, p.1 ≠ D) ∧ led' = (D, listOf (List.toArray vs) n') :: led ∧ Fa2 (PairAt led) vs ((qss i).map prOf)) := by
  intro mean mg mb dp un gd cn cs a ccd cl outer A₀ base h₀ L m s E B' F X N T hk hdd hu
  obtain ⟨nn, vs, hl, hv⟩ := W.tab i hi
  have hz' : vs.length ≤ sizeLine := by rw [hv.length, List.length_map, sizeLine_eq]; omega
  have N2 : News h₀ L s.heap (tabLed (A.H i) (A.DX i) (A.LL i) (A.hs i) (A.kt i) (A.n i) nn vs led) := news_front (news_front (news_front N hl) (.tail _ (W.cst_in _ (O.dx _ hi)))) (.tail _ (.tail _ (W.cst_in _ (O.h _ hi))))
  refine wpAny_mono (items_con w (A.H i) (A.DX i) (A.LL i) (A.hs i) (A.kt i) (A.n i) nn vs led hz' mean mg mb dp un gd cn cs a ccd cl outer A₀ base h₀ L m s E B' F X N2 T hk hdd hu) (fun v s' ⟨led', h', tk', e, F', N', r'⟩ => ?_) fun _ _ x => x
  obtain ⟨D, n', e1, o, rfl⟩ := r'
  exact ⟨(D, listOf vs.toArray n') :: led, h', tk', e, F', news_sub N' (sub_cons (.head _) fun p hp => .tail _ (.tail _ (.tail _ (.tail _ hp)))), D, n', vs, e1, fun p hp => o p (.tail _ (.tail _ (.tail _ hp))), rfl, hv⟩
theorem best_abs (w : World) (A : Ad) (cst led : Led) (qss nwss : Nat → List Nw) (i : Nat) (W : W3 A cst led qss nwss) (hi : i < 3) (hm : ∀ x ∈ nwss i, Made x) (hz : (nwss i).length ≤ 20000) :
    ConK w (8 + 1) 276 led [.ref (A.KK i)] [] (fun v led' => ∃ D c vs' ps' fresh, v = .ref D ∧ led' = (D, listOf (List.toArray vs') c) :: (fresh ++ led) ∧ Fa2 (PairAt fresh) vs' ps' ∧ (∀ p ∈ led, p.1 ≠ D) ∧ ps'.Perm (bestL (nwss i) three) ∧ ps'.Pairwise (fun a b => ltP a b = true)) := by
  intro mean mg mb dp un gd cn cs a ccd cl outer A₀ base h₀ L m s E B' F X N T hk hdd hu
  obtain ⟨kn, us, hl, hu'⟩ := W.kn i hi
  have hz' : us.length + us.length ≤ sizeLine := by rw [hu'.length, sizeLine_eq]; omega
  refine wpAny_mono (best_con w (A.KK i) kn us led (nwss i) hu' (fun x hx => ⟨((hm x hx).good w.params).pt, ((hm x hx).good w.params).pn, ((hm x hx).good w.params).pl⟩) hz' mean mg mb dp un gd cn cs a ccd cl outer A₀ base h₀ L m s E B' F X (news_front N hl) T hk hdd hu) (fun v s' ⟨led', h', tk', e, F', N', r'⟩ => ?_) fun _ _ x => x
  obtain ⟨D, c, vs', ps', fresh, e1, rfl, f, _, o, p1, p2⟩ := r'
  exact ⟨(D, listOf (List.toArray vs') c) :: (fresh ++ led), h', tk', e, F', news_sub N' (sub_cons (.head _) fun p hp => .tail _ (.tail _ hp)), D, c, vs', ps', fresh, e1, rfl, f, fun p hp => o p (.tail _ hp), p1, p2⟩
end Mine
end
section
open PySem PySem.W PyProof.Rows PySem.Spec PySem.Calls
set_option maxRecDepth 100000
set_option maxHeartbeats 8000000
namespace Mine
theorem offMX : True := by
  w_top off
  trivial
section
variable {h₀ h : Heap} {L : Addr} {led cst : Led} {A : Ad} {qss nwss : Nat → List Nw}
theorem PairAt.subD {A B : Led} (h : ∀ q ∈ A, q.2.cls = .type "tuple" → (∃ vs n, q.2.data = .seq vs n) → q ∈ B) {v : Value} {p : Str × Str} (x : PairAt A v p) : PairAt B v p := by
  obtain ⟨a, t1, t2, e, m⟩ := x
  exact ⟨a, t1, t2, e, h _ m rfl ⟨_, _, rfl⟩⟩
theorem NwAt.subD {A B : Led} (h : ∀ q ∈ A, q.2.cls = .type "tuple" → (∃ vs n, q.2.data = .seq vs n) → q ∈ B) {v : Value} {p : Nw} (x : NwAt A v p) : NwAt B v p := by
  obtain ⟨a, t1, t2, t3, t4, e, m⟩ := x
  exact ⟨a, t1, t2, t3, t4, e, h _ m rfl ⟨_, _, rfl⟩⟩
theorem tup_ne_obj (N : News h₀ L h led) {p x : Addr × Obj} (hp : p ∈ led) (hc : p.2.cls = .type "tuple") (hd : ∃ vs n, p.2.data = .seq vs n) (hx : x ∈ led) (hn : x.2.cls ≠ .type "tuple" ∨ ∀ vs n, x.2.data ≠ .seq vs n) : p.1 ≠ x.1 := fun e => by
  have z1 := (N _ hp).1
  have z2 := (N _ hx).1
  rw [e, z2] at z1
  obtain ⟨vs, n, hd⟩ := hd
  rw [← Option.some.inj z1] at hc hd
  rcases hn with hn | hn
  · exact hn hc
  · exact hn _ _ hd
theorem W3.but (W : W3 A cst led qss nwss) (N : News h₀ L h led) {x : Addr × Obj} (hx : x ∈ led) (hn : x.2.cls ≠ .type "tuple" ∨ ∀ vs n, x.2.data ≠ .seq vs n) (hc : ∀ p ∈ cst, p.1 ≠ x.1) (hl : ∀ i, i < 3 → A.LL i ≠ x.1 ∧ A.KK i ≠ x.1) : W3 A cst (but2 led x.1 x.1) qss nwss := by
  have tk : ∀ q ∈ led, q.2.cls = .type "tuple" → (∃ vs n, q.2.data = .seq vs n) → q ∈ but2 led x.1 x.1 := fun q hq hqc hqd => by
    have := tup_ne_obj N hq hqc hqd hx hn
    exact but2_mem.mpr ⟨hq, this, this⟩
  refine ⟨fun p hp => but2_mem.mpr ⟨W.cst_in p hp, hc p hp, hc p hp⟩, fun i hi => ?_, fun i hi => ?_⟩
  · obtain ⟨nn, vs, h1, h2⟩ := W.tab i hi
    exact ⟨nn, vs, but2_mem.mpr ⟨h1, (hl i hi).1, (hl i hi).1⟩, h2.mono fun _ _ => PairAt.subD tk⟩
  · obtain ⟨nn, vs, h1, h2⟩ := W.kn i hi
    exact ⟨nn, vs, but2_mem.mpr ⟨h1, (hl i hi).2, (hl i hi).2⟩, h2.mono fun _ _ => NwAt.subD tk⟩
theorem W3.new (W : W3 A cst led qss nwss) (N : News h₀ L h led) {x : Addr × Obj} (hx : x ∈ led) (hn : ∀ vs n, x.2.data ≠ .seq vs n) : ∀ i, i < 3 → A.LL i ≠ x.1 ∧ A.KK i ≠ x.1 := fun i hi => by
  obtain ⟨nn, vs, h1, _⟩ := W.tab i hi
  obtain ⟨kn, us, h2, _⟩ := W.kn i hi
  refine ⟨fun e => ?_, fun e => ?_⟩
  · have z1 := (N _ h1).1
    have z2 := (N _ hx).1
    dsimp only at z1
    rw [e, z2] at z1
    exact hn _ _ (congrArg Obj.data (Option.some.inj z1))
  · have z1 := (N _ h2).1
    have z2 := (N _ hx).1
    dsimp only at z1
    rw [e, z2] at z1
    exact hn _ _ (congrArg Obj.data (Option.some.inj z1))
end
/-- the first call, a cell kept apart -/
theorem first_absF (w : World) (A : Ad) (cst led : Led) (qss nwss : Nat → List Nw) (rs : List (Nat → Nat)) (B : Nat) (r : Nat → Nat) (t : Nat → Tok) (nD : Nat) (Da : Addr) (cO : Addr) (oc : Obj) (c : Option Value) (O : Off A cst) (W : W3 A cst led qss nwss) (Z : St rs qss nwss B) (hB : B ≤ 5000) (hD : (Da, rowO r t nD) ∈ cst) (ok : RowOk r) (hx : (cO, oc) ∈ led) (hd : oc.data = .cell c) (hc : ∀ p ∈ cst, p.1 ≠ cO) :
    ConS w (14 + 1) 283 led [.ref A.Ta, .ref A.Ka, .ref Da] (fun v led' => v = .bool true ∧ ∃ led1, led' = (cO, oc) :: led1 ∧ (∀ p ∈ led1, p.1 ≠ cO) ∧ W3 A cst led1 (firstQ qss r) (firstN nwss r) ∧ ∀ p ∈ led, p.1 ≠ A.LL (r 5) → p.1 ≠ A.KK (r 5) → p.1 ≠ cO → p ∈ led1) := by
  intro mean mg mb dp un gd cn cs a ccd cl outer A₀ base h₀ L m s E B' F X N T hk hdd hu XB TB D
  have ne := W.new N hx (fun vs n e => by rw [hd] at e; cases e)
  refine wpAny_mono (first_abs w A cst led qss nwss rs B r t nD Da O W Z hB hD ok mean mg mb dp un gd cn cs a ccd cl outer A₀ base h₀ L m s E B' F X N T hk hdd hu XB TB D) (fun v s' ⟨g, led', h', tk', e, G, F', N', r'⟩ => ?_) fun _ _ x => x
  obtain ⟨e1, W', kp⟩ := r'
  have hx' : (cO, oc) ∈ led' := kp _ hx (Ne.symm (ne _ ok.h5).1) (Ne.symm (ne _ ok.h5).2)
  exact ⟨g, (cO, oc) :: but2 led' cO cO, h', tk', e, G, F', news_sub N' (sub_cons hx' fun p hp => (but2_mem.mp hp).1), e1, _, rfl, fun p hp => (but2_mem.mp hp).2.1, W'.but N' hx' (.inr fun vs n e => by dsimp only at e; rw [hd] at e; cases e) hc ne, fun p hp h1 h2 h3 => but2_mem.mpr ⟨kp p hp h1 h2, h3, h3⟩⟩
section
variable {prog : Program} {w : World} {A' : Around} {E : Value → Shared → Prop} {s : Shared} {h₀ : Heap} {L : Addr} {m : Str → Option Value} {led cst : Led} {A : Ad} {qss nwss : Nat → List Nw} {Q : Value → Shared → Prop}
/-- a list of what is known, extended -/
theorem extend_abs {D : Addr} {zs : List Value} {nz j : Nat} {ns : List Nw} (O : Off A cst) (W : W3 A cst led qss nwss) (F : Fr h₀ L s.heap m) (N : News h₀ L s.heap led) (hD : (D, listOf zs.toArray nz) ∈ led) (hj : j < 3) (hz : Fa2 (NwAt led) zs ns) (hDk : D ≠ A.KK j) (hsz : (nwss j).length + ns.length ≤ 50000)
    (h : ∀ h' led', Fr h₀ L h' m → News h₀ L h' led' → RetW A cst led qss (upd nwss j (nwss j ++ ns)) (A.KK j) (A.KK j) led' → Q .none { s with heap := h' }) :
    wpAny (model prog w) A' (call (.builtin "list.extend") [.ref (A.KK j), .ref D]) Q E s := by
  obtain ⟨kn, us, hk, hu⟩ := W.kn j hj
  have tk := tup_keep N hk hk
  generalize hrest : but2 led (A.KK j) (A.KK j) = rest at tk
  have inr : ∀ p ∈ led, p.1 ≠ A.KK j → p ∈ rest := fun p hp h1 => hrest ▸ but2_mem.mpr ⟨hp, h1, h1⟩
  have ofk : ∀ p ∈ rest, p.1 ≠ A.KK j := fun p hp => (but2_mem.mp (hrest ▸ hp)).2.2
  have N2 : News h₀ L s.heap ([] ++ (A.KK j, listOf us.toArray kn) :: rest) := news_sub N (sub_cons hk fun p hp => (but2_mem.mp (hrest ▸ hp)).1)
  refine extend_in (its2 := zs.toArray) (n2 := nz) F N2 (fun _ h => nomatch h) ofk (N _ hD).1 (fun h' n' F' N' => ?_) (by rw [List.size_toArray, hu.length, hz.length, sizeLine_eq]; omega)
  have up : ∀ p ∈ rest, p ∈ (A.KK j, listOf (us ++ zs.toArray.toList).toArray n') :: rest := fun p hp => .tail _ hp
  have upt : ∀ q ∈ led, q.2.cls = .type "tuple" → q ∈ (A.KK j, listOf (us ++ zs.toArray.toList).toArray n') :: rest := fun q hq hc => up q (tk q hq hc)
  refine h h' _ F' N' ⟨⟨fun p hp => up p (inr p (W.cst_in p hp) (O.off p hp _ hj).2), fun i hi => ?_, fun i hi => ?_⟩, fun p hp h1 _ => up p (inr p hp h1)⟩
  · obtain ⟨n1, v1, h1, h2⟩ := W.tab i hi
    exact ⟨n1, v1, up _ (inr _ h1 (O.lk i j hi hj)), h2.mono fun _ _ => PairAt.subC upt⟩
  · dsimp only [upd]
    by_cases e : i = j
    · rw [if_pos e, e]
      exact ⟨n', us ++ zs.toArray.toList, .head _, (hu.mono fun _ _ => NwAt.subC upt).append (hz.mono fun _ _ => NwAt.subC upt)⟩
    · rw [if_neg e]
      obtain ⟨n1, v1, h1, h2⟩ := W.kn i hi
      exact ⟨n1, v1, up _ (inr _ h1 (O.kk i j hi hj e)), h2.mono fun _ _ => NwAt.subC upt⟩
end
section
variable {prog : Program} {w : World} {A : Around} {E : Value → Shared → Prop} {s : Shared} {Q : Value → Shared → Prop}
theorem other_mod {r7 r8 : Nat} {t u : Tok} (h7 : r7 < 3) (h8 : r8 < 2) (h : ∀ (j : Nat) t' k, j < 3 → r7 ≠ j → Q (.int (j : Int) t') { s with toks := k }) : wpAny (model prog w) A (binaryOp .Mod (.int ((r7 : Int) + 1 + (r8 : Int)) t) (.int 3 u)) Q E s := by
  refine mod_int' (by decide) ?_
  have e : Int.fmod ((r7 : Int) + 1 + (r8 : Int)) 3 = (((r7 + 1 + r8) % 3 : Nat) : Int) := by
    rw [Int.fmod_eq_emod]
    simp
  rw [e]
  exact h _ _ _ (Nat.mod_lt _ (by decide)) (by omega)
end
/-- a row of draws -/
def RowAt (led : Led) (v : Value) (r : Nat → Nat) : Prop := RowOk r ∧ ∃ Da t nD, v = .ref Da ∧ (Da, rowO r t nD) ∈ led
theorem ints_cons {vs : List Value} {k : Int} {ns : List Int} (h : IntsAre vs (k :: ns)) : ∃ t vs', vs = .int k t :: vs' ∧ IntsAre vs' ns := by
  cases h with
  | cons n t h => exact ⟨t, _, rfl, h⟩
theorem ints_nil {vs : List Value} (h : IntsAre vs []) : vs = [] := by
  cases h
  rfl
theorem fmod_nat (x : Int) {b : Nat} (hb : 0 < b) : ∃ k : Nat, Int.fmod x (b : Int) = (k : Int) ∧ k < b := by
  have h0 := Int.fmod_nonneg_of_pos x (show (0 : Int) < b by omega)
  have h1 := Int.fmod_lt_of_pos x (show (0 : Int) < b by omega)
  exact ⟨(Int.fmod x b).toNat, by omega, by omega⟩
theorem row_of {vs : Array Value} {x : Int} (h : IntsAre vs.toList (drawsL x bases)) : ∃ r t, RowOk r ∧ ∀ n, listOf vs n = rowO r t n := by
  simp only [drawsL] at h
  obtain ⟨t0, v0, e0, g0⟩ := ints_cons h
  obtain ⟨t1, v1, f1, g1⟩ := ints_cons g0
  obtain ⟨t2, v2, f2, g2⟩ := ints_cons g1
  obtain ⟨t3, v3, f3, g3⟩ := ints_cons g2
  obtain ⟨t4, v4, f4, g4⟩ := ints_cons g3
  obtain ⟨t5, v5, f5, g5⟩ := ints_cons g4
  obtain ⟨t6, v6, f6, g6⟩ := ints_cons g5
  obtain ⟨t7, v7, f7, g7⟩ := ints_cons g6
  obtain ⟨t8, v8, f8, g8⟩ := ints_cons g7
  obtain ⟨t9, v9, f9, g9⟩ := ints_cons g8
  have f10 := ints_nil g9
  rw [f1, f2, f3, f4, f5, f6, f7, f8, f9, f10] at e0
  have e : vs = vs.toList.toArray := rfl
  rw [e0] at e
  obtain ⟨k0, q0, l0⟩ := fmod_nat x (b := 4) (by decide)
  have q0 : Int.fmod x 4 = (k0 : Int) := q0
  generalize Int.fdiv x 4 = x1 at e
  obtain ⟨k1, q1, l1⟩ := fmod_nat x1 (b := 4) (by decide)
  have q1 : Int.fmod x1 4 = (k1 : Int) := q1
  generalize Int.fdiv x1 4 = x2 at e
  obtain ⟨k2, q2, l2⟩ := fmod_nat x2 (b := 4) (by decide)
  have q2 : Int.fmod x2 4 = (k2 : Int) := q2
  generalize Int.fdiv x2 4 = x3 at e
  obtain ⟨k3, q3, l3⟩ := fmod_nat x3 (b := 4) (by decide)
  have q3 : Int.fmod x3 4 = (k3 : Int) := q3
  generalize Int.fdiv x3 4 = x4 at e
  obtain ⟨k4, q4, l4⟩ := fmod_nat x4 (b := 2) (by decide)
  have q4 : Int.fmod x4 2 = (k4 : Int) := q4
  generalize Int.fdiv x4 2 = x5 at e
  obtain ⟨k5, q5, l5⟩ := fmod_nat x5 (b := 3) (by decide)
  have q5 : Int.fmod x5 3 = (k5 : Int) := q5
  generalize Int.fdiv x5 3 = x6 at e
  obtain ⟨k6, q6, l6⟩ := fmod_nat x6 (b := 16) (by decide)
  have q6 : Int.fmod x6 16 = (k6 : Int) := q6
  generalize Int.fdiv x6 16 = x7 at e
  obtain ⟨k7, q7, l7⟩ := fmod_nat x7 (b := 3) (by decide)
  have q7 : Int.fmod x7 3 = (k7 : Int) := q7
  generalize Int.fdiv x7 3 = x8 at e
  obtain ⟨k8, q8, l8⟩ := fmod_nat x8 (b := 2) (by decide)
  have q8 : Int.fmod x8 2 = (k8 : Int) := q8
  generalize Int.fdiv x8 2 = x9 at e
  obtain ⟨k9, q9, l9⟩ := fmod_nat x9 (b := 100000) (by decide)
  have q9 : Int.fmod x9 100000 = (k9 : Int) := q9
  refine ⟨fun i => [k0, k1, k2, k3, k4, k5, k6, k7, k8, k9].getD i 0, fun i => [t0, t1, t2, t3, t4, t5, t6, t7, t8, t9].getD i 0, ⟨l0, l1, l2, l3, l4, l5, l6, l7, l8, l9⟩, fun n => ?_⟩
  rw [e, q0, q1, q2, q3, q4, q5, q6, q7, q8, q9]
  rfl
/-- the addresses as they are made, one behind the other -/
def startA (ta ka : Addr) (x0 x1 x2 d0 d1 d2 l0 l1 l2 k0 k1 k2 : Addr) (hs : Int) (t0 t1 t2 : Tok) : Ad :=
  ⟨ta, ka, 0, 0, fun i => [x0, x1, x2].getD i 0, fun i => [d0, d1, d2].getD i 0, fun i => [l0, l1, l2].getD i 0, fun i => [k0, k1, k2].getD i 0, fun _ => hs, fun i => [t0, t1, t2].getD i 0, fun _ => 1⟩
theorem lt3_cases {i : Nat} (h : i < 3) : i = 0 ∨ i = 1 ∨ i = 2 := by omega
abbrev startL (cK : Addr) (oK : Obj) (ta ka x0 x1 x2 d0 d1 d2 l0 l1 l2 k0 k1 k2 : Addr) (hs : Int) (t0 t1 t2 : Tok) : Led :=
  [(cK, oK), (ta, listOf (List.toArray [.ref x0, .ref x1, .ref x2]) 0), (ka, listOf (List.toArray [.ref k0, .ref k1, .ref k2]) 0), (x0, instObj 232 d0), (d0, hdD hs t0 l0 1), (x1, instObj 232 d1), (d1, hdD hs t1 l1 1), (x2, instObj 232 d2), (d2, hdD hs t2 l2 1)]
def chainL : List Nat → Prop
  | a :: b :: r => a < b ∧ chainL (b :: r)
  | _ => True
theorem chain_pw : ∀ {l : List Nat}, chainL l → l.Pairwise (· < ·)
  | [], _ => .nil
  | [a], _ => List.pairwise_singleton _ _
  | a :: b :: r, h => by
    have ih := chain_pw h.2
    refine List.pairwise_cons.mpr ⟨fun x hx => ?_, ih⟩
    rcases List.mem_cons.mp hx with rfl | hx
    · exact h.1
    · exact Nat.lt_trans h.1 ((List.pairwise_cons.mp ih).1 x hx)
theorem ch_ne {l : List Nat} (h : chainL l) {i j : Nat} (hij : i < j) (hj : j < l.length) : l.getD i 0 ≠ l.getD j 0 := by
  have hi : i < l.length := Nat.lt_trans hij hj
  rw [List.getD_eq_getElem?_getD, List.getD_eq_getElem?_getD, List.getElem?_eq_getElem hi, List.getElem?_eq_getElem hj]
  exact Nat.ne_of_lt (List.pairwise_iff_getElem.mp (chain_pw h) i j hi hj hij)
theorem start_off {cK : Addr} {oK : Obj} {ta ka x0 x1 x2 d0 d1 d2 l0 l1 l2 k0 k1 k2 : Addr} {hs : Int} {t0 t1 t2 : Tok} {more : Led}
    (c0 : cK < d0) (c1 : d0 < x0) (c2 : x0 < l0) (c3 : l0 < d1) (c4 : d1 < x1) (c5 : x1 < l1) (c6 : l1 < d2) (c7 : d2 < x2) (c8 : x2 < l2) (c9 : l2 < ta) (c10 : ta < k0) (c11 : k0 < k1) (c12 : k1 < k2) (c13 : k2 < ka) (hm : ∀ p ∈ more, ∀ a ∈ [l0, l1, l2, k0, k1, k2], p.1 ≠ a) :
    Off (startA ta ka x0 x1 x2 d0 d1 d2 l0 l1 l2 k0 k1 k2 hs t0 t1 t2) (more ++ startL cK oK ta ka x0 x1 x2 d0 d1 d2 l0 l1 l2 k0 k1 k2 hs t0 t1 t2) := by
  have nf : ∀ {i j : Nat}, i < j → j < 15 → ([cK, d0, x0, l0, d1, x1, l1, d2, x2, l2, ta, k0, k1, k2, ka] : List Nat).getD i 0 ≠ ([cK, d0, x0, l0, d1, x1, l1, d2, x2, l2, ta, k0, k1, k2, ka] : List Nat).getD j 0 := fun {i j} a b => ch_ne (l := [cK, d0, x0, l0, d1, x1, l1, d2, x2, l2, ta, k0, k1, k2, ka]) ⟨c0, c1, c2, c3, c4, c5, c6, c7, c8, c9, c10, c11, c12, c13, trivial⟩ a b
  refine ⟨fun p hp i hi => ?_, ?_, ?_, fun i hi => ?_, fun i hi => ?_, fun i j hi hj ne => ?_, fun i j hi hj ne => ?_, fun i j hi hj => ?_⟩
  · rcases List.mem_append.mp hp with hp | hp
    · have := hm p hp
      rcases lt3_cases hi with rfl | rfl | rfl
      · exact ⟨this _ (.head _), this _ (.tail _ (.tail _ (.tail _ (.head _))))⟩
      · exact ⟨this _ (.tail _ (.head _)), this _ (.tail _ (.tail _ (.tail _ (.tail _ (.head _)))))⟩
      · exact ⟨this _ (.tail _ (.tail _ (.head _))), this _ (.tail _ (.tail _ (.tail _ (.tail _ (.tail _ (.head _))))))⟩
    · simp only [startL, List.mem_cons, List.not_mem_nil, or_false] at hp
      rcases hp with rfl | rfl | rfl | rfl | rfl | rfl | rfl | rfl | rfl
      · rcases lt3_cases hi with rfl | rfl | rfl
        · exact ⟨(nf (i := 0) (j := 3) (by decide) (by decide)), (nf (i := 0) (j := 11) (by decide) (by decide))⟩
        · exact ⟨(nf (i := 0) (j := 6) (by decide) (by decide)), (nf (i := 0) (j := 12) (by decide) (by decide))⟩
        · exact ⟨(nf (i := 0) (j := 9) (by decide) (by decide)), (nf (i := 0) (j := 13) (by decide) (by decide))⟩
      · rcases lt3_cases hi with rfl | rfl | rfl
        · exact ⟨(Ne.symm (nf (i := 3) (j := 10) (by decide) (by decide))), (nf (i := 10) (j := 11) (by decide) (by decide))⟩
        · exact ⟨(Ne.symm (nf (i := 6) (j := 10) (by decide) (by decide))), (nf (i := 10) (j := 12) (by decide) (by decide))⟩
        · exact ⟨(Ne.symm (nf (i := 9) (j := 10) (by decide) (by decide))), (nf (i := 10) (j := 13) (by decide) (by decide))⟩
      · rcases lt3_cases hi with rfl | rfl | rfl
        · exact ⟨(Ne.symm (nf (i := 3) (j := 14) (by decide) (by decide))), (Ne.symm (nf (i := 11) (j := 14) (by decide) (by decide)))⟩
        · exact ⟨(Ne.symm (nf (i := 6) (j := 14) (by decide) (by decide))), (Ne.symm (nf (i := 12) (j := 14) (by decide) (by decide)))⟩
        · exact ⟨(Ne.symm (nf (i := 9) (j := 14) (by decide) (by decide))), (Ne.symm (nf (i := 13) (j := 14) (by decide) (by decide)))⟩
      · rcases lt3_cases hi with rfl | rfl | rfl
        · exact ⟨(nf (i := 2) (j := 3) (by decide) (by decide)), (nf (i := 2) (j := 11) (by decide) (by decide))⟩
        · exact ⟨(nf (i := 2) (j := 6) (by decide) (by decide)), (nf (i := 2) (j := 12) (by decide) (by decide))⟩
        · exact ⟨(nf (i := 2) (j := 9) (by decide) (by decide)), (nf (i := 2) (j := 13) (by decide) (by decide))⟩
      · rcases lt3_cases hi with rfl | rfl | rfl
        · exact ⟨(nf (i := 1) (j := 3) (by decide) (by decide)), (nf (i := 1) (j := 11) (by decide) (by decide))⟩
        · exact ⟨(nf (i := 1) (j := 6) (by decide) (by decide)), (nf (i := 1) (j := 12) (by decide) (by decide))⟩
        · exact ⟨(nf (i := 1) (j := 9) (by decide) (by decide)), (nf (i := 1) (j := 13) (by decide) (by decide))⟩
      · rcases lt3_cases hi with rfl | rfl | rfl
        · exact ⟨(Ne.symm (nf (i := 3) (j := 5) (by decide) (by decide))), (nf (i := 5) (j := 11) (by decide) (by decide))⟩
        · exact ⟨(nf (i := 5) (j := 6) (by decide) (by decide)), (nf (i := 5) (j := 12) (by decide) (by decide))⟩
        · exact ⟨(nf (i := 5) (j := 9) (by decide) (by decide)), (nf (i := 5) (j := 13) (by decide) (by decide))⟩
      · rcases lt3_cases hi with rfl | rfl | rfl
        · exact ⟨(Ne.symm (nf (i := 3) (j := 4) (by decide) (by decide))), (nf (i := 4) (j := 11) (by decide) (by decide))⟩
        · exact ⟨(nf (i := 4) (j := 6) (by decide) (by decide)), (nf (i := 4) (j := 12) (by decide) (by decide))⟩
        · exact ⟨(nf (i := 4) (j := 9) (by decide) (by decide)), (nf (i := 4) (j := 13) (by decide) (by decide))⟩
      · rcases lt3_cases hi with rfl | rfl | rfl
        · exact ⟨(Ne.symm (nf (i := 3) (j := 8) (by decide) (by decide))), (nf (i := 8) (j := 11) (by decide) (by decide))⟩
        · exact ⟨(Ne.symm (nf (i := 6) (j := 8) (by decide) (by decide))), (nf (i := 8) (j := 12) (by decide) (by decide))⟩
        · exact ⟨(nf (i := 8) (j := 9) (by decide) (by decide)), (nf (i := 8) (j := 13) (by decide) (by decide))⟩
      · rcases lt3_cases hi with rfl | rfl | rfl
        · exact ⟨(Ne.symm (nf (i := 3) (j := 7) (by decide) (by decide))), (nf (i := 7) (j := 11) (by decide) (by decide))⟩
        · exact ⟨(Ne.symm (nf (i := 6) (j := 7) (by decide) (by decide))), (nf (i := 7) (j := 12) (by decide) (by decide))⟩
        · exact ⟨(nf (i := 7) (j := 9) (by decide) (by decide)), (nf (i := 7) (j := 13) (by decide) (by decide))⟩
  · exact List.mem_append_right _ (.tail _ (.head _))
  · exact List.mem_append_right _ (.tail _ (.tail _ (.head _)))
  · rcases lt3_cases hi with rfl | rfl | rfl
    · exact List.mem_append_right _ (.tail _ (.tail _ (.tail _ (.head _))))
    · exact List.mem_append_right _ (.tail _ (.tail _ (.tail _ (.tail _ (.tail _ (.head _))))))
    · exact List.mem_append_right _ (.tail _ (.tail _ (.tail _ (.tail _ (.tail _ (.tail _ (.tail _ (.head _))))))))
  · rcases lt3_cases hi with rfl | rfl | rfl
    · exact List.mem_append_right _ (.tail _ (.tail _ (.tail _ (.tail _ (.head _)))))
    · exact List.mem_append_right _ (.tail _ (.tail _ (.tail _ (.tail _ (.tail _ (.tail _ (.head _)))))))
    · exact List.mem_append_right _ (.tail _ (.tail _ (.tail _ (.tail _ (.tail _ (.tail _ (.tail _ (.tail _ (.head _)))))))))
  · rcases lt3_cases hi with rfl | rfl | rfl <;> rcases lt3_cases hj with rfl | rfl | rfl
    · exact absurd rfl ne
    · exact (nf (i := 3) (j := 6) (by decide) (by decide))
    · exact (nf (i := 3) (j := 9) (by decide) (by decide))
    · exact (Ne.symm (nf (i := 3) (j := 6) (by decide) (by decide)))
    · exact absurd rfl ne
    · exact (nf (i := 6) (j := 9) (by decide) (by decide))
    · exact (Ne.symm (nf (i := 3) (j := 9) (by decide) (by decide)))
    · exact (Ne.symm (nf (i := 6) (j := 9) (by decide) (by decide)))
    · exact absurd rfl ne
  · rcases lt3_cases hi with rfl | rfl | rfl <;> rcases lt3_cases hj with rfl | rfl | rfl
    · exact absurd rfl ne
    · exact (nf (i := 11) (j := 12) (by decide) (by decide))
    · exact (nf (i := 11) (j := 13) (by decide) (by decide))
    · exact (Ne.symm (nf (i := 11) (j := 12) (by decide) (by decide)))
    · exact absurd rfl ne
    · exact (nf (i := 12) (j := 13) (by decide) (by decide))
    · exact (Ne.symm (nf (i := 11) (j := 13) (by decide) (by decide)))
    · exact (Ne.symm (nf (i := 12) (j := 13) (by decide) (by decide)))
    · exact absurd rfl ne
  · rcases lt3_cases hi with rfl | rfl | rfl <;> rcases lt3_cases hj with rfl | rfl | rfl
    · exact (nf (i := 3) (j := 11) (by decide) (by decide))
    · exact (nf (i := 3) (j := 12) (by decide) (by decide))
    · exact (nf (i := 3) (j := 13) (by decide) (by decide))
    · exact (nf (i := 6) (j := 11) (by decide) (by decide))
    · exact (nf (i := 6) (j := 12) (by decide) (by decide))
    · exact (nf (i := 6) (j := 13) (by decide) (by decide))
    · exact (nf (i := 9) (j := 11) (by decide) (by decide))
    · exact (nf (i := 9) (j := 12) (by decide) (by decide))
    · exact (nf (i := 9) (j := 13) (by decide) (by decide))
theorem start_w3 {A : Ad} {cst led : Led} {n : Nat} (h : ∀ p ∈ cst, p ∈ led) (hl : ∀ i, i < 3 → (A.LL i, listOf #[] n) ∈ led) (hk : ∀ i, i < 3 → (A.KK i, listOf #[] n) ∈ led) : W3 A cst led (fun _ => []) (fun _ => []) :=
  ⟨h, fun i hi => ⟨n, [], hl i hi, .nil⟩, fun i hi => ⟨n, [], hk i hi, .nil⟩⟩
/-- the ledger ahead of the rows -/
abbrev led0 (D1 D2 tl ka k2 k1 k0 ta l2 x2 d2 l1 x1 d1 l0 x0 d0 cO cK : Addr) (o1 o2 o3 oO oK : Obj) (hs : Int) (t0 t1 t2 : Tok) : Led := [(D1, o1), (D2, o2), (tl, o3), (ka, listOf #[.ref k0, .ref k1, .ref k2] 0), (k2, listOf #[] 0), (k1, listOf #[] 0), (k0, listOf #[] 0), (ta, listOf #[.ref x0, .ref x1, .ref x2] 0), (l2, listOf #[] 0), (x2, instObj 232 d2), (d2, hdD hs t2 l2 1), (l1, listOf #[] 0), (x1, instObj 232 d1), (d1, hdD hs t1 l1 1), (l0, listOf #[] 0), (x0, instObj 232 d0), (d0, hdD hs t0 l0 1), (cO, oO), (cK, oK)]
theorem led0_head {D1 D2 tl ka k2 k1 k0 ta l2 x2 d2 l1 x1 d1 l0 x0 d0 cO cK : Addr} {o1 o2 o3 oO oK : Obj} {LED : Led} {hs : Int} {t0 t1 t2 : Tok} (hL : led0 D1 D2 tl ka k2 k1 k0 ta l2 x2 d2 l1 x1 d1 l0 x0 d0 cO cK o1 o2 o3 oO oK hs t0 t1 t2 = LED) : (D1, o1) ∈ LED := by
  rw [← hL]
  exact .head _
theorem start_all {R D1 D2 tl ka k2 k1 k0 ta l2 x2 d2 l1 x1 d1 l0 x0 d0 cO cK : Addr} {oR o1 o2 o3 oO oK : Obj} {rl LED : Led} {hs : Int} {t0 t1 t2 : Tok} (hL : led0 D1 D2 tl ka k2 k1 k0 ta l2 x2 d2 l1 x1 d1 l0 x0 d0 cO cK o1 o2 o3 oO oK hs t0 t1 t2 = LED)
    (c0 : cK < d0) (c1 : d0 < x0) (c2 : x0 < l0) (c3 : l0 < d1) (c4 : d1 < x1) (c5 : x1 < l1) (c6 : l1 < d2) (c7 : d2 < x2) (c8 : x2 < l2) (c9 : l2 < ta) (c10 : ta < k0) (c11 : k0 < k1) (c12 : k1 < k2) (c13 : k2 < ka) (e0 : cO < d0) (e1 : cK ≠ cO) (e2 : ka < D1) (hR : ∀ p ∈ rl ++ LED, p.1 ≠ R) (hm : ∀ p ∈ rl, D1 < p.1) :
    ∃ A cst, A.Ta = ta ∧ A.Ka = ka ∧ Off A cst ∧ W3 A cst ((R, oR) :: (rl ++ LED)) (fun _ => []) (fun _ => []) ∧ (∀ p ∈ (R, oR) :: rl, p ∈ cst) ∧ (cK, oK) ∈ cst ∧ (∀ p ∈ cst, p.1 ≠ cO) ∧ (cO, oO) ∈ (R, oR) :: (rl ++ LED) := by
  subst hL
  have inL : ∀ p ∈ led0 D1 D2 tl ka k2 k1 k0 ta l2 x2 d2 l1 x1 d1 l0 x0 d0 cO cK o1 o2 o3 oO oK hs t0 t1 t2, p ∈ (R, oR) :: (rl ++ led0 D1 D2 tl ka k2 k1 k0 ta l2 x2 d2 l1 x1 d1 l0 x0 d0 cO cK o1 o2 o3 oO oK hs t0 t1 t2) := fun p hp => .tail _ (List.mem_append_right _ hp)
  have hRL : ∀ p ∈ led0 D1 D2 tl ka k2 k1 k0 ta l2 x2 d2 l1 x1 d1 l0 x0 d0 cO cK o1 o2 o3 oO oK hs t0 t1 t2, p.1 ≠ R := fun p hp => hR p (List.mem_append_right _ hp)
  have c0 : @LT.lt Nat _ cK d0 := c0
  have c1 : @LT.lt Nat _ d0 x0 := c1
  have c2 : @LT.lt Nat _ x0 l0 := c2
  have c3 : @LT.lt Nat _ l0 d1 := c3
  have c4 : @LT.lt Nat _ d1 x1 := c4
  have c5 : @LT.lt Nat _ x1 l1 := c5
  have c6 : @LT.lt Nat _ l1 d2 := c6
  have c7 : @LT.lt Nat _ d2 x2 := c7
  have c8 : @LT.lt Nat _ x2 l2 := c8
  have c9 : @LT.lt Nat _ l2 ta := c9
  have c10 : @LT.lt Nat _ ta k0 := c10
  have c11 : @LT.lt Nat _ k0 k1 := c11
  have c12 : @LT.lt Nat _ k1 k2 := c12
  have c13 : @LT.lt Nat _ k2 ka := c13
  have e0 : @LT.lt Nat _ cO d0 := e0
  have e2 : @LT.lt Nat _ ka D1 := e2
  have hm : ∀ p ∈ rl, @LT.lt Nat _ D1 p.1 := hm
  have O := start_off (oK := oK) (hs := hs) (t0 := t0) (t1 := t1) (t2 := t2) (more := (R, oR) :: rl) c0 c1 c2 c3 c4 c5 c6 c7 c8 c9 c10 c11 c12 c13 (fun p hp a ha => by
    rcases List.mem_cons.mp hp with rfl | hp
    · simp only [List.mem_cons, List.not_mem_nil, or_false] at ha
      rcases ha with rfl | rfl | rfl | rfl | rfl | rfl
      · exact Ne.symm (hRL (_, _) ((.tail _ (.tail _ (.tail _ (.tail _ (.tail _ (.tail _ (.tail _ (.tail _ (.tail _ (.tail _ (.tail _ (.tail _ (.tail _ (.tail _ (.head _)))))))))))))))))
      · exact Ne.symm (hRL (_, _) ((.tail _ (.tail _ (.tail _ (.tail _ (.tail _ (.tail _ (.tail _ (.tail _ (.tail _ (.tail _ (.tail _ (.head _))))))))))))))
      · exact Ne.symm (hRL (_, _) ((.tail _ (.tail _ (.tail _ (.tail _ (.tail _ (.tail _ (.tail _ (.tail _ (.head _)))))))))))
      · exact Ne.symm (hRL (_, _) ((.tail _ (.tail _ (.tail _ (.tail _ (.tail _ (.tail _ (.head _)))))))))
      · exact Ne.symm (hRL (_, _) ((.tail _ (.tail _ (.tail _ (.tail _ (.tail _ (.head _))))))))
      · exact Ne.symm (hRL (_, _) ((.tail _ (.tail _ (.tail _ (.tail _ (.head _)))))))
    · have y13 := Nat.lt_trans e2 (hm p hp)
      have y12 := Nat.lt_trans c13 y13
      have y11 := Nat.lt_trans c12 y12
      have y10 := Nat.lt_trans c11 y11
      have y9 := Nat.lt_trans c10 y10
      have y8 := Nat.lt_trans c9 y9
      have y7 := Nat.lt_trans c8 y8
      have y6 := Nat.lt_trans c7 y7
      have y5 := Nat.lt_trans c6 y6
      have y4 := Nat.lt_trans c5 y5
      have y3 := Nat.lt_trans c4 y4
      have y2 := Nat.lt_trans c3 y3
      simp only [List.mem_cons, List.not_mem_nil, or_false] at ha
      rcases ha with rfl | rfl | rfl | rfl | rfl | rfl <;> exact Nat.ne_of_gt (by with_reducible assumption))
  refine ⟨_, _, rfl, rfl, O, start_w3 (n := 0) (fun p hp => ?_) (fun i hi => ?_) (fun i hi => ?_), fun p hp => List.mem_append_left _ hp, List.mem_append_right _ (.head _), fun p hp => ?_, inL _ ((.tail _ (.tail _ (.tail _ (.tail _ (.tail _ (.tail _ (.tail _ (.tail _ (.tail _ (.tail _ (.tail _ (.tail _ (.tail _ (.tail _ (.tail _ (.tail _ (.tail _ (.head _)))))))))))))))))))⟩
  · rcases List.mem_append.mp hp with hp | hp
    · rcases List.mem_cons.mp hp with rfl | hp
      · exact .head _
      · exact .tail _ (List.mem_append_left _ hp)
    · simp only [startL, List.mem_cons, List.not_mem_nil, or_false] at hp
      rcases hp with rfl | rfl | rfl | rfl | rfl | rfl | rfl | rfl | rfl
      · exact inL _ ((.tail _ (.tail _ (.tail _ (.tail _ (.tail _ (.tail _ (.tail _ (.tail _ (.tail _ (.tail _ (.tail _ (.tail _ (.tail _ (.tail _ (.tail _ (.tail _ (.tail _ (.tail _ (.head _))))))))))))))))))))
      · exact inL _ ((.tail _ (.tail _ (.tail _ (.tail _ (.tail _ (.tail _ (.tail _ (.head _)))))))))
      · exact inL _ ((.tail _ (.tail _ (.tail _ (.head _)))))
      · exact inL _ ((.tail _ (.tail _ (.tail _ (.tail _ (.tail _ (.tail _ (.tail _ (.tail _ (.tail _ (.tail _ (.tail _ (.tail _ (.tail _ (.tail _ (.tail _ (.head _)))))))))))))))))
      · exact inL _ ((.tail _ (.tail _ (.tail _ (.tail _ (.tail _ (.tail _ (.tail _ (.tail _ (.tail _ (.tail _ (.tail _ (.tail _ (.tail _ (.tail _ (.tail _ (.tail _ (.head _))))))))))))))))))
      · exact inL _ ((.tail _ (.tail _ (.tail _ (.tail _ (.tail _ (.tail _ (.tail _ (.tail _ (.tail _ (.tail _ (.tail _ (.tail _ (.head _))))))))))))))
      · exact inL _ ((.tail _ (.tail _ (.tail _ (.tail _ (.tail _ (.tail _ (.tail _ (.tail _ (.tail _ (.tail _ (.tail _ (.tail _ (.tail _ (.head _)))))))))))))))
      · exact inL _ ((.tail _ (.tail _ (.tail _ (.tail _ (.tail _ (.tail _ (.tail _ (.tail _ (.tail _ (.head _)))))))))))
      · exact inL _ ((.tail _ (.tail _ (.tail _ (.tail _ (.tail _ (.tail _ (.tail _ (.tail _ (.tail _ (.tail _ (.head _))))))))))))
  · rcases lt3_cases hi with rfl | rfl | rfl
    · exact inL _ ((.tail _ (.tail _ (.tail _ (.tail _ (.tail _ (.tail _ (.tail _ (.tail _ (.tail _ (.tail _ (.tail _ (.tail _ (.tail _ (.tail _ (.head _))))))))))))))))
    · exact inL _ ((.tail _ (.tail _ (.tail _ (.tail _ (.tail _ (.tail _ (.tail _ (.tail _ (.tail _ (.tail _ (.tail _ (.head _)))))))))))))
    · exact inL _ ((.tail _ (.tail _ (.tail _ (.tail _ (.tail _ (.tail _ (.tail _ (.tail _ (.head _))))))))))
  · rcases lt3_cases hi with rfl | rfl | rfl
    · exact inL _ ((.tail _ (.tail _ (.tail _ (.tail _ (.tail _ (.tail _ (.head _))))))))
    · exact inL _ ((.tail _ (.tail _ (.tail _ (.tail _ (.tail _ (.head _)))))))
    · exact inL _ ((.tail _ (.tail _ (.tail _ (.tail _ (.head _))))))
  · have z1 := Nat.lt_trans e0 c1
    have z2 := Nat.lt_trans z1 c2
    have z3 := Nat.lt_trans z2 c3
    have z4 := Nat.lt_trans z3 c4
    have z5 := Nat.lt_trans z4 c5
    have z6 := Nat.lt_trans z5 c6
    have z7 := Nat.lt_trans z6 c7
    have z8 := Nat.lt_trans z7 c8
    have z9 := Nat.lt_trans z8 c9
    have z10 := Nat.lt_trans z9 c10
    have z11 := Nat.lt_trans z10 c11
    have z12 := Nat.lt_trans z11 c12
    have z13 := Nat.lt_trans z12 c13
    have z14 := Nat.lt_trans z13 e2
    rcases List.mem_append.mp hp with hp | hp
    · rcases List.mem_cons.mp hp with rfl | hp
      · exact Ne.symm (hRL (_, _) ((.tail _ (.tail _ (.tail _ (.tail _ (.tail _ (.tail _ (.tail _ (.tail _ (.tail _ (.tail _ (.tail _ (.tail _ (.tail _ (.tail _ (.tail _ (.tail _ (.tail _ (.head _))))))))))))))))))))
      · exact Nat.ne_of_gt (Nat.lt_trans z14 (hm p hp))
    · simp only [startL, List.mem_cons, List.not_mem_nil, or_false] at hp
      rcases hp with rfl | rfl | rfl | rfl | rfl | rfl | rfl | rfl | rfl
      · exact e1
      all_goals exact Nat.ne_of_gt (by with_reducible assumption)
theorem ints_at {vs : List Value} {ns : List Int} (h : IntsAre vs ns) {i : Nat} {v : Value} (hv : vs[i]? = some v) : ∃ k t, v = .int k t := by
  induction h generalizing i with
  | nil => simp at hv
  | cons n t h ih =>
    cases i with
    | zero => exact ⟨_, _, (Option.some.inj hv).symm⟩
    | succ i => exact ih (by simpa using hv)
theorem RowAt.sub {led led' : Led} (h : ∀ p ∈ led, p ∈ led') {v : Value} {r : Nat → Nat} (x : RowAt led v r) : RowAt led' v r := by
  obtain ⟨ok, Da, t, n, e, m⟩ := x
  exact ⟨ok, Da, t, n, e, h _ m⟩
end Mine
end
section
open PySem PySem.W PyProof.Rows PySem.Spec PySem.Calls
set_option maxRecDepth 100000
set_option maxHeartbeats 8000000
namespace Mine
theorem offMY : True := by
  w_top off
  trivial
/-- the value is a pair of small numbers -/
def PrAt (led : Led) (v : Value) (p : Nat × Nat) : Prop := ∃ T t1 t2, v = .ref T ∧ (T, tupV [.int (p.1 : Int) t1, .int (p.2 : Int) t2]) ∈ led
/-- the value is a list of pairs -/
def SortAt (led : Led) (v : Value) (ps : Prs) : Prop := ∃ a n ws, v = .ref a ∧ (a, listOf (List.toArray ws) n) ∈ led ∧ Fa2 (PairAt led) ws ps
theorem SortAt.sub {led led' : Led} (h : ∀ p ∈ led, p ∈ led') {v : Value} {ps : Prs} (x : SortAt led v ps) : SortAt led' v ps := by
  obtain ⟨a, n, ws, e, m, f⟩ := x
  exact ⟨a, n, ws, e, h _ m, f.mono fun _ _ => PairAt.sub h⟩
section
variable {prog : Program} {w : World} {A : Around} {E : Value → Shared → Prop} {s : Shared} {h₀ : Heap} {L : Addr} {m : Str → Option Value} {news : Led} {Q : Value → Shared → Prop}
theorem reads_sort (N : News h₀ L s.heap news) (v : Value) (ps : Prs) (h : SortAt news v ps) : ∃ as, Reads s.heap v (prsD ps) as := by
  obtain ⟨a, n, ws, rfl, hm, f⟩ := h
  exact reads_led (f := prD) N hm (reads_pr N) f
theorem eqv_prsD (p q : Prs) : PyData.eqv (prsD p) (prsD q) = decide (p = q) := eqvAll_map eqv_prD p q
theorem canLay_prs {ps : Prs} (h : ∀ p ∈ ps, Plain p.1 ∧ Plain p.2) : (prsD ps).canLay0 = true := canLay_map fun p hp => canLay_pr (h p hp).1 (h p hp).2
theorem depth_prs (ps : Prs) : (prsD ps).depth ≤ 2 := by
  have := depth_map (f := prD) (l := ps) (n := 1) fun p _ => Nat.le_of_eq (depth_pr p)
  show PyData.depthAll (ps.map prD) + 1 ≤ 2
  omega
theorem shaped_lists {xs : List Prs} (h : ∀ ps ∈ xs, ∀ p ∈ ps, Plain p.1 ∧ Plain p.2) : SeqAt.shaped (.list (xs.map prsD)) = true := by
  unfold SeqAt.shaped
  rw [Bool.and_eq_true, decide_eq_true_eq]
  refine ⟨canLay_map fun ps hp => canLay_prs (h ps hp), ?_⟩
  have := depth_map (f := prsD) (l := xs) (n := 2) fun ps _ => depth_prs ps
  show PyData.depthAll (xs.map prsD) + 1 ≤ 64
  omega
theorem eq_lists {a b : Addr} {vs us : List Value} {n k : Nat} {xs ys : List Prs} (N : News h₀ L s.heap news) (ha : (a, listOf vs.toArray n) ∈ news) (hb : (b, listOf us.toArray k) ∈ news) (hv : Fa2 (SortAt news) vs xs) (hu : Fa2 (SortAt news) us ys)
    (hp : ∀ ps ∈ xs, ∀ p ∈ ps, Plain p.1 ∧ Plain p.2) (hq : ∀ ps ∈ ys, ∀ p ∈ ps, Plain p.1 ∧ Plain p.2)
    (hA : A.units + 64 < cLine) (h : Q (.bool (decide (xs = ys))) s) : wpAny (model prog w) A (compareOp .Eq (.ref a) (.ref b)) Q E s := by
  obtain ⟨as, ra⟩ := reads_led (f := prsD) N ha (reads_sort N) hv
  obtain ⟨bs, rb⟩ := reads_led (f := prsD) N hb (reads_sort N) hu
  refine PyProof.Rows.eq_dataH ra rb (shaped_lists hp) (shaped_lists hq) hA ?_
  rw [show PyData.eqv (.list (xs.map prsD)) (.list (ys.map prsD)) = decide (xs = ys) from eqvAll_map eqv_prsD xs ys]
  exact h
end
/-- a list of four is none of the tables' lists -/
theorem four_ne {h₀ h : Heap} {L : Addr} {led cst : Led} {A : Ad} {qss nwss : Nat → List Nw} (W : W3 A cst led qss nwss) (N : News h₀ L h led) {pl : Addr} {vs : List Value} {n : Nat} (hp : (pl, listOf vs.toArray n) ∈ led) (hl : vs.length = 4) (hq : ∀ k, k < 3 → (qss k).length ≤ 3) : ∀ k, k < 3 → pl ≠ A.LL k := fun k hk e => by
  obtain ⟨nn, us, h1, h2⟩ := W.tab k hk
  have z1 := (N _ h1).1
  have z2 := (N _ hp).1
  dsimp only at z1 z2
  rw [← e, z2] at z1
  have z3 := congrArg Obj.data (Option.some.inj z1)
  have z4 : vs.toArray = us.toArray := by
    injection z3
  have z5 : vs.length = us.length := by
    have := congrArg Array.size z4
    simpa using this
  have z6 := hq k hk
  rw [h2.length, List.length_map] at z5
  omega
theorem pairs_start {h₀ h : Heap} {L pl d0 d1 d2 d3 : Addr} {nx : Led} {n : Nat} {a b c d e f g k : Tok} (N : News h₀ L h ((pl, listOf #[.ref d3, .ref d2, .ref d1, .ref d0] n) :: (d0, tupV [.int 0 a, .int 1 b]) :: (d1, tupV [.int 2 c, .int 0 d]) :: (d2, tupV [.int 1 e, .int 2 f]) :: (d3, tupV [.int 0 g, .int 1 k]) :: nx)) :
    ∃ LP vs, News h₀ L h LP ∧ (pl, listOf (List.toArray vs) n) ∈ LP ∧ vs.length = 4 ∧ Fa2 (PrAt LP) vs pairs4 ∧ ∀ p ∈ nx, p ∈ LP := by
  refine ⟨_, [.ref d3, .ref d2, .ref d1, .ref d0], N, .head _, rfl, ?_, fun p hp => .tail _ (.tail _ (.tail _ (.tail _ (.tail _ hp))))⟩
  refine .cons ⟨d3, g, k, rfl, ?_⟩ (.cons ⟨d2, e, f, rfl, ?_⟩ (.cons ⟨d1, c, d, rfl, ?_⟩ (.cons ⟨d0, a, b, rfl, ?_⟩ .nil)))
  · exact .tail _ (.tail _ (.tail _ (.tail _ (.head _))))
  · exact .tail _ (.tail _ (.tail _ (.head _)))
  · exact .tail _ (.tail _ (.head _))
  · exact .tail _ (.head _)
theorem PrAt.subC {A B : Led} (h : ∀ q ∈ A, q.2.cls = .type "tuple" → q ∈ B) {v : Value} {p : Nat × Nat} (x : PrAt A v p) : PrAt B v p := by
  obtain ⟨a, t1, t2, e, m⟩ := x
  exact ⟨a, t1, t2, e, h _ m rfl⟩
theorem wholes_len (rs : List (Nat → Nat)) : (wholes rs).length ≤ rs.length := by
  unfold wholes
  rw [List.length_map]
  exact List.length_filter_le _ _
theorem wholes_made {rs : List (Nat → Nat)} (h : ∀ r ∈ rs, RowOk r) : ∀ x ∈ wholes rs, Made x := fun x hx => by
  obtain ⟨r, hr, rfl⟩ := List.mem_map.mp hx
  exact ⟨r, h r (List.mem_filter.mp hr).1, rfl⟩
theorem rows_ok {led : Led} {vs : List Value} {rs : List (Nat → Nat)} (h : Fa2 (RowAt led) vs rs) : ∀ r ∈ rs, RowOk r := fun r hr => by
  obtain ⟨v, _, ok, _⟩ := h.memR hr
  exact ok
theorem pairs4_ok : ∀ p ∈ pairs4, p.1 < 3 ∧ p.2 < 3 ∧ p.1 ≠ p.2 := by decide
end Mine
end
section
open PySem PySem.W PyProof.Rows PySem.Spec PySem.Calls
set_option maxRecDepth 100000
set_option maxHeartbeats 8000000
namespace Mine
theorem offD21 : True := by
  w_top off
  trivial
theorem fillD21 : (PySem.Challenge.rw_wf0088_01, hd.heap_1) = (PySem.Challenge.rw_wf0088_01, hd.heap_1) := by
  k_fill
  rfl
section
local macro_rules | `(tactic| k_room) => `(tactic| ((try simp only [depth_under_make, depth_under_kw, depth_in1, depth_deeper, depth_caller]); (try dsimp only [ktrTop]); first | (refine lt_room (by with_reducible assumption) ?_; k_dflt (exact rfl)) | exact lt_room0 (by with_reducible assumption) | omega))
local macro_rules | `(tactic| size_fits) => `(tactic| first | assumption | (rw [sizeLine_eq]; omega) | (simp only [Str.length_append]; rw [sizeLine_eq]; omega))
/-! The head makes a twin under the name law_x.tw.. for each constant of this file; where the name stands it skips that twin and goes on by the constant itself (the compiled file stays under the lid). -/
def law_x.tw10127257749572340358 : Unit := ()
def law_x.tw10130436495187110102 : Unit := ()
def law_x.tw102747916542214862 : Unit := ()
def law_x.tw10367694240504767165 : Unit := ()
def law_x.tw10403875945916020055 : Unit := ()
def law_x.tw10405083018872049112 : Unit := ()
def law_x.tw10506191966948151797 : Unit := ()
def law_x.tw10596919668707281645 : Unit := ()
def law_x.tw10651355470340714191 : Unit := ()
def law_x.tw10671623642089411532 : Unit := ()
def law_x.tw10706017516938655969 : Unit := ()
def law_x.tw10751359757739358058 : Unit := ()
def law_x.tw10767921118614045268 : Unit := ()
def law_x.tw10771645549649519734 : Unit := ()
def law_x.tw10803507164381840343 : Unit := ()
def law_x.tw10847188262022430046 : Unit := ()
def law_x.tw10860289511017935270 : Unit := ()
def law_x.tw10923523575555949853 : Unit := ()
def law_x.tw10952676809806099702 : Unit := ()
def law_x.tw10953282290782910469 : Unit := ()
def law_x.tw10999977222226471937 : Unit := ()
def law_x.tw11069688567681071086 : Unit := ()
def law_x.tw11205607326445861282 : Unit := ()
def law_x.tw11210154001851074599 : Unit := ()
def law_x.tw11218224191704025752 : Unit := ()
def law_x.tw11262618792395427139 : Unit := ()
def law_x.tw11279698398560966200 : Unit := ()
def law_x.tw11287828079123235708 : Unit := ()
def law_x.tw11330788906889388903 : Unit := ()
def law_x.tw11343843804726279093 : Unit := ()
def law_x.tw11361030334808758395 : Unit := ()
def law_x.tw11364334727765005025 : Unit := ()
def law_x.tw11366820956224319998 : Unit := ()
def law_x.tw11390691097789073315 : Unit := ()
def law_x.tw11413741418858653906 : Unit := ()
def law_x.tw1149231021144566656 : Unit := ()
def law_x.tw11533586797193399366 : Unit := ()
def law_x.tw11617624529192597438 : Unit := ()
def law_x.tw11668363876371504787 : Unit := ()
def law_x.tw11678144693778930602 : Unit := ()
def law_x.tw11690373744451082111 : Unit := ()
def law_x.tw11735634504304671895 : Unit := ()
def law_x.tw11817370532577070794 : Unit := ()
def law_x.tw11952196498475679751 : Unit := ()
def law_x.tw11999971055261878843 : Unit := ()
def law_x.tw12084592357208510703 : Unit := ()
def law_x.tw12087294840766266522 : Unit := ()
def law_x.tw12253444354327402446 : Unit := ()
def law_x.tw1226519879472664117 : Unit := ()
def law_x.tw12333160085120722478 : Unit := ()
def law_x.tw12392769349348934638 : Unit := ()
def law_x.tw12406109718355621220 : Unit := ()
def law_x.tw1242977022122850559 : Unit := ()
def law_x.tw12435798318590662099 : Unit := ()
def law_x.tw1245248456814140730 : Unit := ()
def law_x.tw12565605236782532215 : Unit := ()
def law_x.tw1258652372329026880 : Unit := ()
def law_x.tw12606270688278761479 : Unit := ()
def law_x.tw12622352831522462640 : Unit := ()
def law_x.tw12623040358710820053 : Unit := ()
def law_x.tw12666845161347719472 : Unit := ()
def law_x.tw12697881475766283606 : Unit := ()
def law_x.tw127214022165179102 : Unit := ()
def law_x.tw12731344930552246947 : Unit := ()
def law_x.tw12752586083605109128 : Unit := ()
def law_x.tw12754809245365338306 : Unit := ()
def law_x.tw12771528772846728563 : Unit := ()
def law_x.tw12778981435066460130 : Unit := ()
def law_x.tw12808850571496676290 : Unit := ()
def law_x.tw12823429929343476482 : Unit := ()
def law_x.tw1295217251007259124 : Unit := ()
def law_x.tw12963348319635264634 : Unit := ()
def law_x.tw13005054045149387441 : Unit := ()
def law_x.tw13039397203900159148 : Unit := ()
def law_x.tw13096827558874588695 : Unit := ()
def law_x.tw13139651371402855313 : Unit := ()
def law_x.tw13218048466515612300 : Unit := ()
def law_x.tw13255597322544209363 : Unit := ()
def law_x.tw13390093380547143436 : Unit := ()
def law_x.tw1339700005123051057 : Unit := ()
def law_x.tw13457687720736825442 : Unit := ()
def law_x.tw13481647649576403525 : Unit := ()
def law_x.tw13490309904359435471 : Unit := ()
def law_x.tw13529120052970878284 : Unit := ()
def law_x.tw13532388139615496352 : Unit := ()
def law_x.tw1355962246781341159 : Unit := ()
def law_x.tw13587264182289307671 : Unit := ()
def law_x.tw13597349353080268663 : Unit := ()
def law_x.tw1366979962322823117 : Unit := ()
def law_x.tw1370210871672379618 : Unit := ()
def law_x.tw13736680058189718728 : Unit := ()
def law_x.tw13762557593484107285 : Unit := ()
def law_x.tw13796219810208309824 : Unit := ()
def law_x.tw13845156567109527556 : Unit := ()
def law_x.tw13867318766049044071 : Unit := ()
def law_x.tw13909526270154817093 : Unit := ()
def law_x.tw13928270774711244354 : Unit := ()
def law_x.tw13935926626986696235 : Unit := ()
def law_x.tw13954935046135064259 : Unit := ()
def law_x.tw1403312958509669157 : Unit := ()
def law_x.tw14047198847040999228 : Unit := ()
def law_x.tw14059565527726556889 : Unit := ()
def law_x.tw14072402099561245844 : Unit := ()
def law_x.tw1409707082543438242 : Unit := ()
def law_x.tw14154904563400633056 : Unit := ()
def law_x.tw14178264480563763463 : Unit := ()
def law_x.tw1419489775044413974 : Unit := ()
def law_x.tw14235663129263689919 : Unit := ()
def law_x.tw14251625940236961508 : Unit := ()
def law_x.tw14288294062198165972 : Unit := ()
def law_x.tw14383883445101219718 : Unit := ()
def law_x.tw14440611799838809433 : Unit := ()
def law_x.tw14440766721222710359 : Unit := ()
def law_x.tw14471454246390480469 : Unit := ()
def law_x.tw14471918611712203018 : Unit := ()
def law_x.tw14477237061128572567 : Unit := ()
def law_x.tw14489386288207979801 : Unit := ()
def law_x.tw14517998999504829228 : Unit := ()
def law_x.tw14532420659159495781 : Unit := ()
def law_x.tw14574120007925346407 : Unit := ()
def law_x.tw14593364949726310189 : Unit := ()
def law_x.tw14625860418534985452 : Unit := ()
def law_x.tw14631936947996874303 : Unit := ()
def law_x.tw14643714291065467081 : Unit := ()
def law_x.tw14662840238081383088 : Unit := ()
def law_x.tw14685557955792677644 : Unit := ()
def law_x.tw14829557984754894805 : Unit := ()
def law_x.tw14835158891257415456 : Unit := ()
def law_x.tw14835479005468405543 : Unit := ()
def law_x.tw14858705757350081416 : Unit := ()
def law_x.tw14872111744038260001 : Unit := ()
def law_x.tw1488502939725676831 : Unit := ()
def law_x.tw14908103078189835843 : Unit := ()
def law_x.tw15081366717010170717 : Unit := ()
def law_x.tw15094834859971945904 : Unit := ()
def law_x.tw1516329994857116793 : Unit := ()
def law_x.tw15184825243430141103 : Unit := ()
def law_x.tw15221422264998706063 : Unit := ()
def law_x.tw15245004298112214083 : Unit := ()
def law_x.tw15275391844613151016 : Unit := ()
def law_x.tw15308100283610217093 : Unit := ()
def law_x.tw15328794123897977658 : Unit := ()
def law_x.tw15343150075829571656 : Unit := ()
def law_x.tw15377009803766509315 : Unit := ()
def law_x.tw15384377635013722463 : Unit := ()
def law_x.tw15428288865809633504 : Unit := ()
def law_x.tw15443390952479675304 : Unit := ()
def law_x.tw1548210692986817101 : Unit := ()
def law_x.tw15492328106318857146 : Unit := ()
def law_x.tw15518375850449182680 : Unit := ()
def law_x.tw15540794300688350229 : Unit := ()
def law_x.tw15608068265650451610 : Unit := ()
def law_x.tw1560880389456412864 : Unit := ()
def law_x.tw15615092397788205691 : Unit := ()
def law_x.tw15635247284609116525 : Unit := ()
def law_x.tw15641509887520617143 : Unit := ()
def law_x.tw15748204981287199006 : Unit := ()
def law_x.tw15758822540094076099 : Unit := ()
def law_x.tw15815955991551046303 : Unit := ()
def law_x.tw15844033019914535227 : Unit := ()
def law_x.tw1591353101850585524 : Unit := ()
def law_x.tw15940151347154622866 : Unit := ()
def law_x.tw15959438514821826573 : Unit := ()
def law_x.tw15966336062146705001 : Unit := ()
def law_x.tw16047152175134795421 : Unit := ()
def law_x.tw16070250200954461712 : Unit := ()
def law_x.tw16086668076483840040 : Unit := ()
def law_x.tw16236470625023898961 : Unit := ()
def law_x.tw16252801649974255061 : Unit := ()
def law_x.tw16253706501600765533 : Unit := ()
def law_x.tw16264246416929171354 : Unit := ()
def law_x.tw16321379737589223341 : Unit := ()
def law_x.tw16343412796501757784 : Unit := ()
def law_x.tw16378687502404920918 : Unit := ()
def law_x.tw16412369987792816525 : Unit := ()
def law_x.tw1645305732994582585 : Unit := ()
def law_x.tw16599697354142718600 : Unit := ()
def law_x.tw16645798606928249028 : Unit := ()
def law_x.tw16661128780021019840 : Unit := ()
def law_x.tw16831751099364587663 : Unit := ()
def law_x.tw16857796933779628859 : Unit := ()
def law_x.tw16941088931777064556 : Unit := ()
def law_x.tw16959025631591351567 : Unit := ()
def law_x.tw16996060947344369184 : Unit := ()
def law_x.tw17031191007754353956 : Unit := ()
def law_x.tw17123490860619889712 : Unit := ()
def law_x.tw17124015524311919276 : Unit := ()
def law_x.tw17144754127450563119 : Unit := ()
def law_x.tw17145237442065447293 : Unit := ()
def law_x.tw1722310704986848886 : Unit := ()
def law_x.tw17262802342196820786 : Unit := ()
def law_x.tw17277771945607337794 : Unit := ()
def law_x.tw17290216630010009105 : Unit := ()
def law_x.tw17304310783947119419 : Unit := ()
def law_x.tw17310806728632863787 : Unit := ()
def law_x.tw17351442952246910659 : Unit := ()
def law_x.tw17368742215234486401 : Unit := ()
def law_x.tw17381059756041278433 : Unit := ()
def law_x.tw17388959826524636063 : Unit := ()
def law_x.tw17417744091584313970 : Unit := ()
def law_x.tw17471396667534951694 : Unit := ()
def law_x.tw17479641408990876506 : Unit := ()
def law_x.tw17494004628493574206 : Unit := ()
def law_x.tw17525652210200213168 : Unit := ()
def law_x.tw17555456016342089864 : Unit := ()
def law_x.tw1759468342207086138 : Unit := ()
def law_x.tw17622185911439473001 : Unit := ()
def law_x.tw17628653955184453401 : Unit := ()
def law_x.tw1765691490918631086 : Unit := ()
def law_x.tw17730005627819338516 : Unit := ()
def law_x.tw17821113994066108587 : Unit := ()
def law_x.tw17984070406380804643 : Unit := ()
def law_x.tw17987424097304856847 : Unit := ()
def law_x.tw18009384440099319375 : Unit := ()
def law_x.tw18034229984341422491 : Unit := ()
def law_x.tw18044527748826422350 : Unit := ()
def law_x.tw18108636694639536398 : Unit := ()
def law_x.tw18115963466253266242 : Unit := ()
def law_x.tw18194896452827767740 : Unit := ()
def law_x.tw18314148205972783433 : Unit := ()
def law_x.tw18315828691680068890 : Unit := ()
def law_x.tw18386837317028809798 : Unit := ()
def law_x.tw18424043207982682251 : Unit := ()
def law_x.tw1905236466553425431 : Unit := ()
def law_x.tw1927040948731818685 : Unit := ()
def law_x.tw2001801581969334948 : Unit := ()
def law_x.tw2046518054061962074 : Unit := ()
def law_x.tw2133777668837013480 : Unit := ()
def law_x.tw2197891268740127403 : Unit := ()
def law_x.tw2205466253685128172 : Unit := ()
def law_x.tw2246047316228936130 : Unit := ()
def law_x.tw2258609108423594225 : Unit := ()
def law_x.tw2261746337342835235 : Unit := ()
def law_x.tw2367373975916716878 : Unit := ()
def law_x.tw2398253809787286996 : Unit := ()
def law_x.tw2463800564500525279 : Unit := ()
def law_x.tw2471747656386172167 : Unit := ()
def law_x.tw2473310396946078170 : Unit := ()
def law_x.tw2588022812065810929 : Unit := ()
def law_x.tw2589919009720426873 : Unit := ()
def law_x.tw2660840101499899494 : Unit := ()
def law_x.tw2684582408492350750 : Unit := ()
def law_x.tw2689066699305872923 : Unit := ()
def law_x.tw2710704260843392431 : Unit := ()
def law_x.tw2711293387395563365 : Unit := ()
def law_x.tw2740923019271560327 : Unit := ()
def law_x.tw2760490630757901238 : Unit := ()
def law_x.tw2768136907758856915 : Unit := ()
def law_x.tw2771468856556323551 : Unit := ()
def law_x.tw2791002567531901272 : Unit := ()
def law_x.tw2801755334357062315 : Unit := ()
def law_x.tw2820586736895486167 : Unit := ()
def law_x.tw2939923728737878434 : Unit := ()
def law_x.tw2974029969926794851 : Unit := ()
def law_x.tw3063357419642565359 : Unit := ()
def law_x.tw312818302953359965 : Unit := ()
def law_x.tw3172215072352884713 : Unit := ()
def law_x.tw320272492456559257 : Unit := ()
def law_x.tw3222189401611821255 : Unit := ()
def law_x.tw325461871443981785 : Unit := ()
def law_x.tw3264249947202816622 : Unit := ()
def law_x.tw3275934230315846884 : Unit := ()
def law_x.tw3288582708707089567 : Unit := ()
def law_x.tw3374174693014825926 : Unit := ()
def law_x.tw338371944807355352 : Unit := ()
def law_x.tw3409038278801310280 : Unit := ()
def law_x.tw3468693715222470554 : Unit := ()
def law_x.tw350426970629176244 : Unit := ()
def law_x.tw3515918588941388749 : Unit := ()
def law_x.tw3564982619891381903 : Unit := ()
def law_x.tw357486453476387696 : Unit := ()
def law_x.tw3584754121679280288 : Unit := ()
def law_x.tw3645398940082418395 : Unit := ()
def law_x.tw3656860275477944587 : Unit := ()
def law_x.tw3736019149614731650 : Unit := ()
def law_x.tw3779491013085776106 : Unit := ()
def law_x.tw3839198336545609602 : Unit := ()
def law_x.tw3944297979336759838 : Unit := ()
def law_x.tw3947280606677185747 : Unit := ()
def law_x.tw4010399071781967837 : Unit := ()
def law_x.tw4031755247305592889 : Unit := ()
def law_x.tw4066581555856437637 : Unit := ()
def law_x.tw4116381869706091990 : Unit := ()
def law_x.tw4136381130191369724 : Unit := ()
def law_x.tw4152279057429515467 : Unit := ()
def law_x.tw4160346023223043365 : Unit := ()
def law_x.tw4262307394954295558 : Unit := ()
def law_x.tw429802758547818807 : Unit := ()
def law_x.tw4376529336473804668 : Unit := ()
def law_x.tw4485099011576537789 : Unit := ()
def law_x.tw4516195869516194850 : Unit := ()
def law_x.tw4524373237131588752 : Unit := ()
def law_x.tw4540954829512213220 : Unit := ()
def law_x.tw4545454268454701201 : Unit := ()
def law_x.tw4553199573442869457 : Unit := ()
def law_x.tw4661492479468351274 : Unit := ()
def law_x.tw4686696005655202196 : Unit := ()
def law_x.tw4710579609122874168 : Unit := ()
def law_x.tw4725361072491920224 : Unit := ()
def law_x.tw4726824660240631432 : Unit := ()
def law_x.tw4732229899025315596 : Unit := ()
def law_x.tw4827727426448477470 : Unit := ()
def law_x.tw4889417142756682790 : Unit := ()
def law_x.tw494881588598543633 : Unit := ()
def law_x.tw4952536417616201024 : Unit := ()
def law_x.tw50257303835526935 : Unit := ()
def law_x.tw5041785033962961800 : Unit := ()
def law_x.tw5069763316702471071 : Unit := ()
def law_x.tw5117685885317189124 : Unit := ()
def law_x.tw5223759763646530324 : Unit := ()
def law_x.tw5399636222043106339 : Unit := ()
def law_x.tw5429601624752362899 : Unit := ()
def law_x.tw5460901525942188212 : Unit := ()
def law_x.tw5468541034658260161 : Unit := ()
def law_x.tw5482263358992847953 : Unit := ()
def law_x.tw5560627240626156229 : Unit := ()
def law_x.tw5561925722692138719 : Unit := ()
def law_x.tw5568518219051474728 : Unit := ()
def law_x.tw5571008150249689134 : Unit := ()
def law_x.tw557520231709764237 : Unit := ()
def law_x.tw5590819230912045359 : Unit := ()
def law_x.tw5646132260339941382 : Unit := ()
def law_x.tw5789152586016625600 : Unit := ()
def law_x.tw5847323268114599994 : Unit := ()
def law_x.tw5942570737067451923 : Unit := ()
def law_x.tw6060276095918308247 : Unit := ()
def law_x.tw6074495968940953656 : Unit := ()
def law_x.tw6149677235058458653 : Unit := ()
def law_x.tw618750703986915918 : Unit := ()
def law_x.tw6198136719806557168 : Unit := ()
def law_x.tw6209191225152023769 : Unit := ()
def law_x.tw6216491944418923748 : Unit := ()
def law_x.tw624552219238242319 : Unit := ()
def law_x.tw6301621166485642336 : Unit := ()
def law_x.tw635878677514683509 : Unit := ()
def law_x.tw6390076475950447766 : Unit := ()
def law_x.tw6401764061993099431 : Unit := ()
def law_x.tw656173140505694518 : Unit := ()
def law_x.tw6635607960049136799 : Unit := ()
def law_x.tw6662106259960667269 : Unit := ()
def law_x.tw676593779709791811 : Unit := ()
def law_x.tw6788515716476377869 : Unit := ()
def law_x.tw6793647822961454840 : Unit := ()
def law_x.tw6814985703042059439 : Unit := ()
def law_x.tw6855465449048817245 : Unit := ()
def law_x.tw697825145947410779 : Unit := ()
def law_x.tw7009234378788206630 : Unit := ()
def law_x.tw702143209048168775 : Unit := ()
def law_x.tw7040966252189295456 : Unit := ()
def law_x.tw7061099091806988908 : Unit := ()
def law_x.tw7067769320451636614 : Unit := ()
def law_x.tw7083543029035105932 : Unit := ()
def law_x.tw7119783124384567304 : Unit := ()
def law_x.tw7133385337521393640 : Unit := ()
def law_x.tw7136126914297800814 : Unit := ()
def law_x.tw7162592610051679512 : Unit := ()
def law_x.tw7167327485913609319 : Unit := ()
def law_x.tw720043770240521592 : Unit := ()
def law_x.tw7218098343970142903 : Unit := ()
def law_x.tw7264139057411842621 : Unit := ()
def law_x.tw7382020634066199623 : Unit := ()
def law_x.tw739768451425700014 : Unit := ()
def law_x.tw7411020239381207048 : Unit := ()
def law_x.tw7477989868901174593 : Unit := ()
def law_x.tw7554068268999948361 : Unit := ()
def law_x.tw7596542074185935347 : Unit := ()
def law_x.tw7617961562876819650 : Unit := ()
def law_x.tw7646117127399008450 : Unit := ()
def law_x.tw7679484430391320351 : Unit := ()
def law_x.tw7697293316574149669 : Unit := ()
def law_x.tw7711666261672483697 : Unit := ()
def law_x.tw7732485818038642262 : Unit := ()
def law_x.tw7788313598148053200 : Unit := ()
def law_x.tw7844803981973701221 : Unit := ()
def law_x.tw791000870657233029 : Unit := ()
def law_x.tw7915391931945866351 : Unit := ()
def law_x.tw8005120504503264296 : Unit := ()
def law_x.tw8047973392708319852 : Unit := ()
def law_x.tw8084536408205999830 : Unit := ()
def law_x.tw8116671880884641423 : Unit := ()
def law_x.tw8120714616901177623 : Unit := ()
def law_x.tw8135354709827971635 : Unit := ()
def law_x.tw8149022100782028144 : Unit := ()
def law_x.tw8198165516275907609 : Unit := ()
def law_x.tw820701142184707292 : Unit := ()
def law_x.tw821393418471509648 : Unit := ()
def law_x.tw8219288083855581137 : Unit := ()
def law_x.tw8244676410010276412 : Unit := ()
def law_x.tw8250077186340717159 : Unit := ()
def law_x.tw8313831265453195018 : Unit := ()
def law_x.tw8379224008969226250 : Unit := ()
def law_x.tw8406746937959991505 : Unit := ()
def law_x.tw8454562767148846871 : Unit := ()
def law_x.tw8491480685407647784 : Unit := ()
def law_x.tw8506586480895419269 : Unit := ()
def law_x.tw8514955706212304789 : Unit := ()
def law_x.tw8573653856212390713 : Unit := ()
def law_x.tw8615041804327361378 : Unit := ()
def law_x.tw8620901541410500207 : Unit := ()
def law_x.tw863647361997572679 : Unit := ()
def law_x.tw8636760936756493196 : Unit := ()
def law_x.tw8640353968969566886 : Unit := ()
def law_x.tw864537530735783712 : Unit := ()
def law_x.tw8712969836344688053 : Unit := ()
def law_x.tw8771659871085709526 : Unit := ()
def law_x.tw8801988661561776618 : Unit := ()
def law_x.tw8863614031189650602 : Unit := ()
def law_x.tw8951875576944151997 : Unit := ()
def law_x.tw899903712385105428 : Unit := ()
def law_x.tw9029269738426218522 : Unit := ()
def law_x.tw9197721249661049408 : Unit := ()
def law_x.tw9224561113205619799 : Unit := ()
def law_x.tw9248281075582943105 : Unit := ()
def law_x.tw9338031883397136101 : Unit := ()
def law_x.tw9340187490651254632 : Unit := ()
def law_x.tw9386323724614908303 : Unit := ()
def law_x.tw9402824025829564030 : Unit := ()
def law_x.tw9480313636023951451 : Unit := ()
def law_x.tw9480392983047189663 : Unit := ()
def law_x.tw9507230210403245966 : Unit := ()
def law_x.tw9528929442728458428 : Unit := ()
def law_x.tw9566069749391353934 : Unit := ()
def law_x.tw9583204732774099858 : Unit := ()
def law_x.tw9617961963657956059 : Unit := ()
def law_x.tw9679195770272062409 : Unit := ()
def law_x.tw9963089227714404222 : Unit := ()
def law_x.tw9965518717144018473 : Unit := ()
def law_x.tw9972490014534480362 : Unit := ()
def law_x.tw2508255044705368994 : Unit := ()
set_option Elab.async true in
theorem law_x : PySem.Challenge.rw_wf0088_01.Holds := by
  w_on
  o_law
  o_head (kHook hd.heap_1 [2, 3, 32, 34, 35, 37, 38, 39, 46, 47, 48, 49, 52, 59, 60, 61, 64, 71, 72, 73, 76, 78, 79, 81, 82, 83, 85, 86, 88, 89, 90, 93, 95, 96, 98, 99, 103, 104, 108, 109, 117, 118, 120, 121, 123, 124, 125, 127, 128, 130, 131, 132, 134, 135, 137, 138, 139, 141, 142, 144, 145, 146, 149, 150, 151, 153, 154, 156, 157, 158, 160, 161, 163, 164, 165, 167, 168, 170, 171, 172, 173, 175, 176, 178, 179, 180, 183, 184, 185, 188, 189, 190, 192, 193, 195, 196, 197, 199, 200, 202, 203, 204, 207, 208, 209, 211, 212, 214, 215, 216, 218, 219, 221, 222, 223, 225, 226, 228, 229, 230, 231, 232, 233, 234, 237, 239, 240, 242, 243, 244, 246, 247, 249, 250, 251, 253, 254, 256, 257, 258, 260, 261, 263, 264, 265, 267, 268, 270, 271, 272, 275, 276, 277, 279, 280, 282, 283, 284, 286, 287, 289, 290, 291, 294, 295] (fun _ => by kernel_rfl))
  (case hw => w_witness2)
  change WalkO hd.view_1 _ (XL hd.view_1 []) _ _ _ _ _
  k_with_none
  (k_with "WStep" => with_reducible first | refine WStep.brkI ?_ | refine WStep.retI ?_)
  (k_with "FStep" => with_reducible first | refine FStep.brkI ?_ | refine FStep.retI ?_)
  (k_with "exec Assign cons ListComp" => (k_here; k_dflt (refine comp_startA (by with_unfolding_all rfl) (by with_unfolding_all rfl) (by rfl) (by decide) ?_)))
  (k_with "eval ListComp" => (k_here; k_dflt (refine comp_start (by with_unfolding_all rfl) (by rfl) (by decide) ?_)))
  (k_with "GStep" => with_reducible first | refine GStep.brkI ?_ | refine GStep.retI ?_ | refine GStep.cont ?_)
  (k_with "subscriptTail Name Subscript ref int" => ((with_reducible show wpAny _ _ (subscriptTail (Expr.Name _ _) (Expr.Subscript _ _ _) (Value.ref _) (Value.int _ _)) _ _ _); (k_dflt (refine' lst_item_nat ?kwN ?kwk1 ?kwhx ?kwhz ?_; (case kwN => with_reducible assumption); (case kwk1 => first | exact .head _ | exact .tail _ (.head _) | exact .tail _ (.tail _ (.head _)) | exact .tail _ (.tail _ (.tail _ (.head _))) | exact .tail _ (.tail _ (.tail _ (.tail _ (.head _)))) | exact .tail _ (.tail _ (.tail _ (.tail _ (.tail _ (.head _))))) | exact .tail _ (.tail _ (.tail _ (.tail _ (.tail _ (.tail _ (.head _)))))) | exact .tail _ (.tail _ (.tail _ (.tail _ (.tail _ (.tail _ (.tail _ (.head _))))))) | exact .tail _ (.tail _ (.tail _ (.tail _ (.tail _ (.tail _ (.tail _ (.tail _ (.head _)))))))) | exact .tail _ (.tail _ (.tail _ (.tail _ (.tail _ (.tail _ (.tail _ (.tail _ (.tail _ (.head _))))))))) | exact .tail _ (.tail _ (.tail _ (.tail _ (.tail _ (.tail _ (.tail _ (.tail _ (.tail _ (.tail _ (.head _)))))))))) | exact .tail _ (.tail _ (.tail _ (.tail _ (.tail _ (.tail _ (.tail _ (.tail _ (.tail _ (.tail _ (.tail _ (.head _)))))))))))); (case kwhx => with_reducible assumption); (case kwhz => exact (by decide : (3 : Nat) < 1000))))))
  (k_with "subscriptTail Name Name ref int" => ((with_reducible show wpAny _ _ (subscriptTail (Expr.Name _ _) (Expr.Name _ _) (Value.ref _) (Value.int _ _)) _ _ _); (k_dflt (refine' lst_item_nat ?kwN ?kwk1 ?kwhx ?kwhz ?_; (case kwN => with_reducible assumption); (case kwk1 => first | exact .head _ | exact .tail _ (.head _) | exact .tail _ (.tail _ (.head _)) | exact .tail _ (.tail _ (.tail _ (.head _))) | exact .tail _ (.tail _ (.tail _ (.tail _ (.head _)))) | exact .tail _ (.tail _ (.tail _ (.tail _ (.tail _ (.head _))))) | exact .tail _ (.tail _ (.tail _ (.tail _ (.tail _ (.tail _ (.head _)))))) | exact .tail _ (.tail _ (.tail _ (.tail _ (.tail _ (.tail _ (.tail _ (.head _))))))) | exact .tail _ (.tail _ (.tail _ (.tail _ (.tail _ (.tail _ (.tail _ (.tail _ (.head _)))))))) | exact .tail _ (.tail _ (.tail _ (.tail _ (.tail _ (.tail _ (.tail _ (.tail _ (.tail _ (.head _))))))))) | exact .tail _ (.tail _ (.tail _ (.tail _ (.tail _ (.tail _ (.tail _ (.tail _ (.tail _ (.tail _ (.head _)))))))))) | exact .tail _ (.tail _ (.tail _ (.tail _ (.tail _ (.tail _ (.tail _ (.tail _ (.tail _ (.tail _ (.tail _ (.head _)))))))))))); (case kwhx => with_reducible assumption); (case kwhz => exact (by decide : (3 : Nat) < 1000))))))
  (k_with "call ref" => k_dflt (refine' Con.use (draws_con _ _ _ _) ?kwcB ?kwcF ?kwcX ?kwcN ?kwcT rfl ?kwcd ?kwcu ?_; (case kwcN => k_asm); (case kwcB => k_asm); (case kwcF => k_asm); (case kwcX => k_asm); (case kwcT => k_asm); (case kwcd => (refine dp_ok (by with_reducible assumption) ?_; k_dflt (exact rfl))); (case kwcu => (refine lt_room (by with_reducible assumption) ?_; k_dflt (exact rfl))); k_whole; intro v9 led9 h9 tk9 F9 N9 R9; obtain ⟨l9, vs9, n9, e9, z9, o9, i9⟩ := R9; rw [z9] at N9; clear z9 led9; subst e9))
  (k_with "exec For Name Name cons nil" => k_dflt (refine for_start ?_))
  (k_with "exec For Name List cons nil" => k_dflt (refine for_start ?_))
  (k_with "call ref" => ((with_reducible show wpAny _ _ (call (Value.ref 283) _) _ _ _); refine Hold.of ?_))
  (k_with "call ref" => ((with_reducible show wpAny _ _ (call (Value.ref 290) _) _ _ _); refine Hold.of ?_))
  (k_with "call ref" => ((with_reducible show wpAny _ _ (call (Value.ref 276) _) _ _ _); refine Hold.of ?_))
  (k_with "call ref" => ((with_reducible show wpAny _ _ (call (Value.ref 196) _) _ _ _); refine Hold.of ?_))
  (k_with "call ref" => ((with_reducible show wpAny _ _ (call (Value.ref 250) _) _ _ _); refine Hold.of ?_))
  (k_with "call builtin:sorted" => (refine Hold.of ?_))
  (k_with "call builtin:list.extend" => (refine Hold.of ?_))
  (k_with "compareOp NotEq ref ref" => (refine Hold.of ?_))
  (k_with "compareOp NotIn ref ref" => (refine Hold.of ?_))
  (k_with "compareOp Eq ref ref" => (refine Hold.of ?_))
  (k_with "binaryOp Mod int int" => (refine Hold.of ?_))
  (k_with "getMethod ref" => ((with_reducible show wpAny _ _ (getMethod (Value.ref _) (PySem.Str.ofString "items") _) _ _ _); refine Hold.of ?_))
  (k_with "eval Name" => ((with_reducible show wpAny _ _ (eval (Expr.Name (PySem.Str.ofString "x") _) (compEnvC _ _ _ _)) _ _ _); refine Hold.of ?_))
  (k_with "eval Name" => ((with_reducible show wpAny _ _ (eval (Expr.Name (PySem.Str.ofString "news") _) (compEnvC _ _ _ _)) _ _ _); refine Hold.of ?_))
  (k_with "eval Name" => ((with_reducible show wpAny _ _ (eval (Expr.Name (PySem.Str.ofString "drawn") _) (compEnvC _ _ _ _)) _ _ _); refine Hold.of ?_))
  (k_with "eval Name" => ((with_reducible show wpAny _ _ (eval (Expr.Name (PySem.Str.ofString "table") _) (compEnvC _ _ _ _)) _ _ _); refine Hold.of ?_))
  (k_with "callWith ref" => (k_here; k_dflt (refine' callWith_K ?kwk1 ?kwk2 ?_; (case kwk1 => k_asm); (case kwk2 => k_is); k_whole)))
  (k_with "compareOp Lt int int" => (k_dflt (first | refine lt_int_yes (by assumption) ?_ | refine lt_int_no (by assumption) ?_)))
  (k_with "callWith ref" => ((with_reducible show wpAny _ _ (callWith _ (Value.ref 196) _ (backTo _ (starEach [] _)) []) _ _ _); (with_reducible rename Fr _ _ _ _ => kF9); k_dflt (refine' callWith_K0 ?kwk1 ?kwk2 ?_; (case kwk1 => exact Frag.In.keeps (by with_reducible assumption) (Fr.keep kF9)); (case kwk2 => k_is); k_whole)))
  k_go0
  (rename News _ _ _ _ => N)
  (rename Fr _ _ _ _ => F)
  (rename CellsAre _ _ _ => Y)
  clear Y
  (rename Below _ _ _ _ => B)
  (rename Frag.In _ _ => X)
  (rename Top _ _ _ _ _ _ => T)
  rename_i w s₀ s₁ mg mb y1 y2 y3 y4 y5 y6 y7 y8 y9 y10 y11 y12 y13 y14 y15 y16 y17 y18 y19 y20 y21 y22 y23 y24 y25 y26 y27 y28 y29 y30 y31 y32 y33 y34 y35 y36 y37 y38 y39 y40 y41 y42 y43 y44 y45 y46
  refine wpAny_mono (Q := fun f s' => f = .ret (.bool true) ∧ (∀ b o, s₁.heap.get? b = some o → s'.heap.get? b = some o) ∧ s'.os = s₁.os ∧ s'.gens = s₁.gens) (E := fun _ _ => False) ?_ (fun f s' hf => ?_) (fun _ _ e => e.elim)
  · show wpAny (model PySem.Challenge.pw_wf0088_01 _) (ktrTop _ _ _ _ _ _ _ _ _ _) _ _ _ _
    have hdp : callerA.depth + 1 + 100 < recursionLimit := by decide +kernel
    have hun : callerA.units + 3 + 1000 < cLine := by decide +kernel
    generalize callerA.depth + 1 = dp at hdp ⊢
    generalize callerA.units + 3 = un at hun ⊢
    generalize callerA.guards = gd
    dsimp only
    ktn_open
    refine Hold.out ?_
    (rename News _ _ _ _ => lN)
    (rename Fr _ _ _ _ => lF)
    (rename IntsAre _ (_ ++ _) => hI9)
    (rename Obj.data _ = Data.cell (some _) => hK9)
    rename Obj => oK
    rename_i p0 p1 z1 z2 z3 z4 z5 z6 z7 z8 z9 z10 z11 z12 z13 z14 z15 p2 z16 z17 z18 z19 z20 z21 z22 z23 z24 z25 z26 z27 z28 z29 z30 z31 p3 p4 z32 z33 z34 z35 z36 z37 z38 z39 z40 z41 z42 z43 z44 z45 z46 z47 p5 z48 z49 z50 z51 z52 z53 z54 z55 z56 z57 z58 z59 z60 z61 z62 z63 p6 p7 z64 z65 z66 z67 z68 z69 z70 z71 z72 z73 z74 z75 z76 z77 p8 z78 z79 z80 z81 z82 z83 z84 z85 z86 z87 z88 z89 z90 z91 z92 p9 z93 z94 z95 z96 p10 z97 z98 p11 z99 z100 p12 z101 z102 p13 z103 z104 z105 z106 p14 z107 z108 z109 z110 z111 z112 z113 p15 z114 z115 z116 p16
    have hlen9 := hI9.length
    rw [List.length_append, List.length_take] at hlen9
    simp only [List.length_cons, List.length_nil] at hlen9
    obtain ⟨LED, hLED, lN⟩ : ∃ LED, _ = LED ∧ News _ _ _ LED := ⟨_, rfl, lN⟩
    have hD1 := led0_head hLED
    refine comp_listA (nn := 0) (fun i ys nx => ∃ rl rs, nx = rl ++ LED ∧ Fa2 (RowAt rl) ys rs ∧ rs.length = i ∧ ∀ p ∈ rl, ∀ q ∈ LED, q.1 < p.1) (fun i m => ∃ k t, m (Str.ofString "x") = some (.int k t)) rfl hD1 (by rw [sizeLine_eq]; omega) (.inl fun _ _ => rfl) (by decide) (by rfl) lF lN ?zh0 ?zhJl ?zhasg ?zturn (by rfl) (by rfl) ?zfin
    case zh0 => exact ⟨[], [], rfl, .nil, rfl, fun _ h => nomatch h⟩
    case zhJl => rintro i ys nx ⟨rl, rs, rfl, _⟩; exact List.mem_append_right _ hD1
    case zhasg =>
      rintro i v C m' news₁ ys s₂ E' Q' hvi _ hn hN hQ
      obtain ⟨k, t, rfl⟩ := ints_at hI9 hvi
      exact asg_name (by rfl) (by rfl) hn fun h' tk' m'' hn' hd' hs' => hQ h' tk' m'' hn' ⟨k, t, hd'⟩ hs'
    case zturn =>
      rintro s₁ i v I oI C oC D m₂ h' tk E' ys news₁ ⟨hp, rfl⟩ hvi ⟨rl, rs, rfl, hR, hRl, hRo⟩ hC ⟨k, t, e1⟩ F' N' off ne
      show wpAny _ _ (eval _ _) _ _ _
      clear lF lN hvi
      ktn_open
      refine Hold.out ?_
      refine LCgL.ld_own N' (.tail _ (.head _)) hC e1 ?_
      ktn_open
      (rename Array Value => vs9)
      (rename IntsAre _ (drawsL _ _) => hd9)
      (rename News _ _ _ _ => lN)
      (rename ∀ p ∈ _ :: _ :: _ :: _, Prod.fst p < _ => ho9)
      obtain ⟨r, tr, okr, hr⟩ := row_of hd9
      rw [hr] at lN
      refine CEnd.mk ((_, rowO r tr _) :: (rl ++ LED)) (by assumption) lN (.tail _ (.head _)) (.tail _ (.tail _ (.head _))) (.tail _ (.tail _ (.tail _ (.head _)))) (sub_cons (.head _) fun _ q => .tail _ (.tail _ (.tail _ (.tail _ q)))) (List.forall_mem_cons.mpr ⟨⟨Nat.ne_of_gt (ho9 _ (.head _)), Nat.ne_of_gt (ho9 _ (.tail _ (.head _))), Nat.ne_of_gt (ho9 _ (.tail _ (.tail _ (.head _))))⟩, off⟩) ⟨(_, rowO r tr _) :: rl, rs ++ [r], rfl, (hR.mono fun _ _ => RowAt.sub fun _ h => .tail _ h).snoc ⟨okr, _, tr, _, rfl, .head _⟩, by rw [List.length_append, hRl]; rfl, List.forall_mem_cons.mpr ⟨fun q hq => ho9 q (.tail _ (.tail _ (.tail _ (List.mem_append_right _ hq)))), hRo⟩⟩
    case zfin =>
      rintro R h' tk ys news' ⟨rl, rs, rfl, hR, hRl, hRo⟩ F' N' off v
      clear lF lN
      obtain ⟨A, cst, eTa, eKa, O, W0, hcst, hcK, hcO, hmO⟩ := start_all (oR := LCg.lst ys) hLED p0.2 p1 p2.1 p3.1 p4 p5.1 p6.1 p7 p8.1 p9.1 p10.1 p11.1 p12.1 p13.1 p0.1 (Nat.ne_of_lt (Nat.lt_succ_self _)) p16.2.2.1 off (fun p hp => hRo p hp _ hD1)
      subst eTa eKa
      have eP := hRl
      have hRlen := hR.length
      clear hLED p0 p1 p2 p3 p4 p5 p6 p7 p8 p9 p10 p11 p12 p13 p14 p15 p16
      have XB := X
      have TB := T
      have D0 : KtsDicts (frs []) s₁.heap := ktsDicts_nil
      (rename Obj.data _ = Data.cell (bindC _ _ _ _) => hO8)
      clear hO8
      (rename Obj.data _ = Data.cell (bindC _ _ _ _) => hO9)
      have hrl11 : rs.length ≤ 11 := by rw [hRl, hlen9]; omega
      (try clear z116)
      (try clear z115)
      (try clear z114)
      (try clear z113)
      (try clear z112)
      (try clear z111)
      (try clear z110)
      (try clear z109)
      (try clear z108)
      (try clear z107)
      (try clear z106)
      (try clear z105)
      (try clear z104)
      (try clear z103)
      (try clear z102)
      (try clear z101)
      (try clear z100)
      (try clear z99)
      (try clear z98)
      (try clear z97)
      (try clear z96)
      (try clear z95)
      (try clear z94)
      (try clear z93)
      (try clear z92)
      (try clear z91)
      (try clear z90)
      (try clear z89)
      (try clear z88)
      (try clear z87)
      (try clear z86)
      (try clear z85)
      (try clear z84)
      (try clear z83)
      (try clear z82)
      (try clear z81)
      (try clear z80)
      (try clear z79)
      (try clear z78)
      (try clear z77)
      (try clear z76)
      (try clear z75)
      (try clear z74)
      (try clear z73)
      (try clear z72)
      (try clear z71)
      (try clear z70)
      (try clear z69)
      (try clear z68)
      (try clear z67)
      (try clear z66)
      (try clear z65)
      (try clear z64)
      (try clear z63)
      (try clear z62)
      (try clear z61)
      (try clear z60)
      (try clear z59)
      (try clear z58)
      (try clear z57)
      (try clear z56)
      (try clear z55)
      (try clear z54)
      (try clear z53)
      (try clear z52)
      (try clear z51)
      (try clear z50)
      (try clear z49)
      (try clear z48)
      (try clear z47)
      (try clear z46)
      (try clear z45)
      (try clear z44)
      (try clear z43)
      (try clear z42)
      (try clear z41)
      (try clear z40)
      (try clear z39)
      (try clear z38)
      (try clear z37)
      (try clear z36)
      (try clear z35)
      (try clear z34)
      (try clear z33)
      (try clear z32)
      (try clear z31)
      (try clear z30)
      (try clear z29)
      (try clear z28)
      (try clear z27)
      (try clear z26)
      (try clear z25)
      (try clear z24)
      (try clear z23)
      (try clear z22)
      (try clear z21)
      (try clear z20)
      (try clear z19)
      (try clear z18)
      (try clear z17)
      (try clear z16)
      (try clear z15)
      (try clear z14)
      (try clear z13)
      (try clear z12)
      (try clear z11)
      (try clear z10)
      (try clear z9)
      (try clear z8)
      (try clear z7)
      (try clear z6)
      (try clear z5)
      (try clear z4)
      (try clear z3)
      (try clear z2)
      (try clear z1)
      (try clear y46)
      (try clear y45)
      (try clear y44)
      (try clear y43)
      (try clear y42)
      (try clear y41)
      (try clear y40)
      (try clear y39)
      (try clear y38)
      (try clear y37)
      (try clear y36)
      (try clear y35)
      (try clear y34)
      (try clear y33)
      (try clear y32)
      (try clear y31)
      (try clear y30)
      (try clear y29)
      (try clear y28)
      (try clear y27)
      (try clear y26)
      (try clear y25)
      (try clear y24)
      (try clear y23)
      (try clear y22)
      (try clear y21)
      (try clear y20)
      (try clear y19)
      (try clear y18)
      (try clear y17)
      (try clear y16)
      (try clear y15)
      (try clear y14)
      (try clear y13)
      (try clear y12)
      (try clear y11)
      (try clear y10)
      (try clear y9)
      (try clear y8)
      (try clear y7)
      (try clear y6)
      (try clear y5)
      (try clear y4)
      (try clear y3)
      (try clear y2)
      (try clear y1)
      ktn_open
      refine Hold.out ?_
      refine for_listC (vs := ys) (nn := _) (Gd w (ExcName.means s₀.heap) mg mb callerA s₁.heap [] s₁.heap) (fun i m nx => ∃ oc x qss nwss, (s₁.heap.objs.size + 1 + 1, oc) ∈ nx ∧ oc.data = .cell x ∧ W3 A cst nx qss nwss ∧ St (rs.take i) qss nwss (Bk i) ∧ m (Str.ofString "tables") = some (.ref A.Ta) ∧ m (Str.ofString "rows") = some (.ref R)) rfl (W0.cst_in _ (hcst _ (.head _))) (.inl fun _ _ => rfl) (fun g' e => by rw [e.t.size]; exact Nat.le_of_lt (Nat.lt_of_le_of_lt F'.above F'.ns.lt)) ⟨KtsTurn.refl, B, X, T, D0⟩ F' N' ?zh0 ?zhJl ?zturn ?zdone
      case zh0 => exact ⟨_, _, _, _, hmO, hO9, W0, St.nil, rfl, rfl⟩
      case zhJl => rintro i m nx ⟨oc, x, qss, nwss, _, _, W, _⟩; exact W.cst_in _ (hcst _ (.head _))
      case zturn =>
        rintro i v g' m₁ nx h2 tk2 I it hvi ⟨oc, x, qss, nwss, hcm, hcd, W, Z, e1, e2⟩ hit ⟨Gt, B', X', T', D'⟩ hoff hlt' F2 N2
        rw [map2 e1 e2] at F2
        obtain ⟨r, hri, ok, Da, tr, nD, rfl, hDa⟩ := hR.get hvi
        have hDc : (Da, rowO r tr nD) ∈ cst := hcst _ (.tail _ hDa)
        have hi11 : i < 11 := Nat.lt_of_lt_of_le (List.getElem?_eq_some_iff.mp hri).1 hrl11
        have hBk : Bk i ≤ 5000 := Nat.le_trans (Bk_le i (Nat.le_of_lt hi11)) (by decide)
        have hIc : ∀ p ∈ cst, p.1 ≠ I := fun p hp => hoff p (W.cst_in p hp)
        have hIl : ∀ k, k < 3 → A.LL k ≠ I ∧ A.KK k ≠ I := fun k hk => by
          obtain ⟨_, _, h1, _⟩ := W.tab k hk
          obtain ⟨_, _, h2, _⟩ := W.kn k hk
          exact ⟨hoff _ h1, hoff _ h2⟩
        have hIO : s₁.heap.objs.size + 1 + 1 ≠ I := hoff _ hcm
        have hKO : s₁.heap.objs.size + 1 ≠ s₁.heap.objs.size + 1 + 1 := hcO _ hcK
        have hDO : Da ≠ s₁.heap.objs.size + 1 + 1 := hcO _ hDc
        have N3 : News g' s₁.heap.objs.size h2 ((s₁.heap.objs.size + 1, oK) :: (I, it) :: nx) := news_front N2 (.tail _ (W.cst_in _ hcK))
        have W3' : W3 A cst ((s₁.heap.objs.size + 1, oK) :: (I, it) :: nx) qss nwss := W.grow fun _ h => .tail _ (.tail _ h)
        have hcm3 : (s₁.heap.objs.size + 1 + 1, oc) ∈ (s₁.heap.objs.size + 1, oK) :: (I, it) :: nx := .tail _ (.tail _ hcm)
        have ok5 := ok.h5
        have ok7 := ok.h7
        have ok8 := ok.h8
        clear N2 F' N' W hvi
        ktn_open
        refine Hold.out ?_
        refine' ConS.use (first_absF _ A cst _ _ _ _ _ _ _ _ _ (s₁.heap.objs.size + 1 + 1) _ _ O W3' Z hBk hDc ok hcm3 hcd hcO) ?zcB ?zcF ?zcX ?zcN ?zcT rfl ?zcd ?zcu ?zcXB ?zcTB ?zcD ?_
        (case zcN => k_asm)
        (case zcF => k_asm)
        (case zcB => k_asm)
        (case zcX => k_asm)
        (case zcT => k_asm)
        (case zcXB => k_asm)
        (case zcTB => k_asm)
        (case zcD => k_asm)
        (case zcd => exact Nat.lt_of_le_of_lt (Nat.add_le_add_left (by decide) _) hdp)
        (case zcu => exact Nat.lt_of_le_of_lt (Nat.add_le_add_left (by decide) _) hun)
        intro v9 g9 led9 h9 tk9 Tn9 B9 X9 T9 D9 F9 N9 R9
        obtain ⟨e9, led1, z9, o9, W9, K9⟩ := R9
        rw [z9] at N9
        clear z9 led9
        subst e9
        have N4 := news_sub N9 (sub_cons (.head _) (sub_cons (.tail _ (W9.cst_in _ hcK)) (sub_cons (.tail _ (W9.cst_in _ hDc)) (fun _ h => .tail _ h))))
        have Z9 := Z.first ok
        have hm9 : (I, it) ∈ led1 := K9 _ (.tail _ (.head _)) (Ne.symm (hIl _ ok5).1) (Ne.symm (hIl _ ok5).2) (Ne.symm hIO)
        clear N9 K9
        (try clear N3)
        (try clear F2)
        clear W3' hcm3
        generalize firstQ qss r = q9 at *
        generalize firstN nwss r = n9 at *
        ktn_open
        refine Hold.out ?_
        refine other_mod ok7 ok8 ?_
        intro j tj tk3 hj hij
        ktn_open
        refine Hold.out ?_
        (rename Obj.data _ = Data.cell (some (Value.int _ _)) => hO2)
        (rename News _ _ _ _ => N5)
        (rename Fr _ _ _ _ => F5)
        rename Obj => oO2
        have So : ∀ k, k < 3 → Sound (q9 k) := fun k hk => ⟨n9 k, Z9.inv k hk, Z9.made k hk⟩
        have W5 : W3 A cst ((s₁.heap.objs.size + 1 + 1, oO2) :: (s₁.heap.objs.size + 1, oK) :: (Da, rowO r tr nD) :: led1) q9 n9 := W9.grow fun _ h => .tail _ (.tail _ (.tail _ h))
        refine' ConS.use (tell_abs _ A cst _ q9 n9 (r 7) j _ _ O W5 ok7 hj hij (So _ ok7) (So _ hj)) ?zcB ?zcF ?zcX ?zcN ?zcT rfl ?zcd ?zcu ?zcXB ?zcTB ?zcD ?_
        (case zcN => exact N5)
        (case zcF => k_asm)
        (case zcB => k_asm)
        (case zcX => k_asm)
        (case zcT => k_asm)
        (case zcXB => k_asm)
        (case zcTB => k_asm)
        (case zcD => k_asm)
        (case zcd => exact Nat.lt_of_le_of_lt (Nat.add_le_add_left (by decide) _) hdp)
        (case zcu => exact Nat.lt_of_le_of_lt (Nat.add_le_add_left (by decide) _) hun)
        intro v9 g8 led9 h8 tk8 Tn8 B8 X8 T8 D8 F8 N8 R8
        obtain ⟨e8, W8, K8⟩ := R8
        subst e8
        have hOl := W5.new N5 (x := (s₁.heap.objs.size + 1 + 1, oO2)) (.head _) (fun vs n e => by dsimp only at e; rw [hO2] at e; cases e)
        have hmO8 : (s₁.heap.objs.size + 1 + 1, oO2) ∈ led9 := K8 _ (.head _) (Ne.symm (hOl j hj).1) (Ne.symm (hOl j hj).1)
        have hm8 : (I, it) ∈ led9 := K8 _ (.tail _ (.tail _ (.tail _ hm9))) (Ne.symm (hIl j hj).1) (Ne.symm (hIl j hj).1)
        clear K8 W5 W9 o9
        (try clear N5)
        (try clear N4)
        (try clear F5)
        (try clear F9)
        generalize hq8 : upd q9 j (tellF (q9 j) (q9 (r 7))) = q8 at W8
        obtain ⟨kj, uj, hkj, huj⟩ := W8.kn j hj
        obtain ⟨ki, ui, hki, hui⟩ := W8.kn (r 7) ok7
        have hkvj := A.kv_at hj
        have hkvi := A.kv_at ok7
        have htvj := A.tv_at hj
        have N6 : News g8 s₁.heap.objs.size h8 ((s₁.heap.objs.size + 1 + 1, oO2) :: (s₁.heap.objs.size + 1, oK) :: (Da, rowO r tr nD) :: (A.Ka, listOf A.kv.toArray A.nK) :: (A.KK j, listOf (List.toArray uj) kj) :: (A.KK (r 7), listOf (List.toArray ui) ki) :: led9) :=
          news_sub N8 (sub_cons hmO8 (sub_cons (W8.cst_in _ hcK) (sub_cons (W8.cst_in _ hDc) (sub_cons (W8.cst_in _ O.ka) (sub_cons hkj (sub_cons hki fun _ h => h))))))
        clear N8
        ktn_open
        refine Hold.out ?_
        (rename News _ _ _ _ => lN)
        (rename Fr _ _ _ _ => lF)
        obtain ⟨BASE, hBASE, lN⟩ : ∃ B, _ = B ∧ News _ _ _ B := ⟨_, rfl, lN⟩
        have inB : ∀ p ∈ led9, p ∈ BASE := fun p hp => by rw [← hBASE]; exact (.tail _ (.tail _ (.tail _ (.tail _ (.tail _ (.tail _ (hp)))))))
        have hlz := Z9.len _ ok7
        have hlj := Z9.len _ hj
        have huil := hui.length
        refine comp_list (vs := ui) (nn := ki) (fun i ys nx => nx = BASE ∧ Fa2 (NwAt led9) ys (((n9 (r 7)).take i).filter fun x => decide (x ∉ n9 j))) (fun i m => ∃ v, ui[i]? = some v ∧ m (Str.ofString "news") = some v) rfl (inB _ hki) (by rw [huil, sizeLine_eq]; omega) (.inl fun _ _ => rfl) (by decide) (by rfl) lF lN ?zh0 ?zhJl ?zhasg ?zturn ?zfin
        case zh0 => exact ⟨rfl, .nil⟩
        case zhJl => rintro i ys nx ⟨rfl, _⟩; exact inB _ hki
        case zhasg =>
          rintro i v C m' news₁ ys s₂ E' Q' hvi _ hn hN hQ
          exact asg_name (by rfl) (by rfl) hn fun h' tk' m'' hn' hd' hs' => hQ h' tk' m'' hn' ⟨v, hvi, hd'⟩ hs'
        case zturn =>
          rintro sz i4 v4 I4 oI C4 oC D4 m4 h4 tk4 E4 zs news4 ⟨hp4, rfl⟩ hv4 ⟨rfl, hz4⟩ hC4 ⟨v', hv', e4⟩ F4 N4 off4 ne4
          rw [hv4] at hv'
          cases hv'
          obtain ⟨x4, hx4, a4, t1, t2, t3, t4, rfl, hm4⟩ := hui.get hv4
          have N7 := news_front (news_front (news_front (news_front (news_front N4 ((.tail _ (.tail _ (.tail _ (inB _ hm4)))))) ((.tail _ (.tail _ (.tail _ (.tail _ (inB _ hkj))))))) ((.tail _ (.tail _ (.tail _ (.tail _ (.tail _ (inB _ (W8.cst_in _ O.ka))))))))) ((.tail _ (.tail _ (.tail _ (.tail _ (.tail _ (.tail _ (inB _ (W8.cst_in _ hcK)))))))))) ((.tail _ (.tail _ (.tail _ (.tail _ (.tail _ (.tail _ (.tail _ (inB _ hmO8)))))))))
          show wpAny _ _ (isTrue _ _ _) _ _ _
          clear lF lN N4
          have mx4 := (Z9.made _ ok7 _ (List.mem_of_getElem? hx4)).good w.params
          have mj4 : ∀ y ∈ n9 j, Plain y.text ∧ Plain y.name := fun y hy => ⟨((Z9.made _ hj y hy).good w.params).pt, ((Z9.made _ hj y hy).good w.params).pn⟩
          ktn_open
          refine Hold.out ?_
          refine LCgL.ld_own N7 ((.tail _ (.tail _ (.tail _ (.tail _ (.tail _ (.tail _ (.head _)))))))) hC4 e4 ?_
          ktn_open
          refine Hold.out ?_
          refine notIn_nws (ys := n9 j) (x := x4) N7 ((.tail _ (.tail _ (.tail _ (.head _))))) ⟨a4, t1, t2, t3, t4, rfl, (.tail _ (.tail _ (.tail _ (.tail _ (.head _)))))⟩ (huj.mono fun _ _ => NwAt.sub fun _ h => (.tail _ (.tail _ (.tail _ (.tail _ (.tail _ (.tail _ (.tail _ (.tail _ (inB _ h)))))))))) ⟨mx4.pt, mx4.pn⟩ mj4 (by show _ + 64 < _; dsimp only [ktrTop]; (first | (refine lt_room (by with_reducible assumption) ?_; k_dflt (exact rfl)) | exact lt_room0 (by with_reducible assumption) | omega)) ?_
          by_cases hin : x4 ∈ n9 j
          · rw [decide_eq_true hin]
            dsimp only [Bool.not_true]
            ktn_open
            refine CEnd.mk news4 (by assumption) N7 ((.tail _ (.tail _ (.tail _ (.tail _ (.tail _ (.head _))))))) ((.tail _ (.tail _ (.tail _ (.tail _ (.tail _ (.tail _ (.head _)))))))) ((.tail _ (.tail _ (.tail _ (.tail _ (.tail _ (.tail _ (.tail _ (.head _))))))))) (fun _ q => (.tail _ (.tail _ (.tail _ (.tail _ (.tail _ (.tail _ (.tail _ (.tail _ (q)))))))))) off4 ⟨rfl, ?_⟩
            rw [take_more hx4, List.filter_append, List.filter_cons_of_neg (by simpa using hin), List.filter_nil, List.append_nil]
            exact hz4
          · rw [decide_eq_false hin]
            dsimp only [Bool.not_false]
            ktn_open
            refine Hold.out ?_
            refine LCgL.ld_own N7 ((.tail _ (.tail _ (.tail _ (.tail _ (.tail _ (.tail _ (.head _)))))))) hC4 e4 ?_
            refine CEnd.mk news4 (by assumption) N7 ((.tail _ (.tail _ (.tail _ (.tail _ (.tail _ (.head _))))))) ((.tail _ (.tail _ (.tail _ (.tail _ (.tail _ (.tail _ (.head _)))))))) ((.tail _ (.tail _ (.tail _ (.tail _ (.tail _ (.tail _ (.tail _ (.head _))))))))) (fun _ q => (.tail _ (.tail _ (.tail _ (.tail _ (.tail _ (.tail _ (.tail _ (.tail _ (q)))))))))) off4 ⟨rfl, ?_⟩
            rw [take_more hx4, List.filter_append, List.filter_cons_of_pos (by simpa using hin), List.filter_nil]
            exact hz4.snoc ⟨a4, t1, t2, t3, t4, rfl, hm4⟩
        case zfin =>
          rintro D4 h4 tk4 zs news4 ⟨rfl, hz4⟩ F4 N4 off4
          rw [huil, List.take_length] at hz4
          ktn_open
          refine Hold.out ?_
          have hD4 : D4 ≠ A.KK j := Ne.symm (off4 _ (inB _ hkj))
          have W8B : W3 A cst ((D4, LCg.lst zs) :: news4) q8 n9 := W8.grow fun p hp => .tail _ (inB p hp)
          have hzl : ((n9 (r 7)).filter fun x => decide (x ∉ n9 j)).length ≤ (n9 (r 7)).length := List.length_filter_le _ _
          refine extend_abs (zs := zs) (ns := (n9 (r 7)).filter fun x => decide (x ∉ n9 j)) O W8B F4 N4 (.head _) hj (hz4.mono fun _ _ => NwAt.sub fun p hp => .tail _ (inB p hp)) hD4 (by omega) ?_
          intro h5 led5 F5 N5 R5
          obtain ⟨W5, K5⟩ := R5
          have hmO5 : (s₁.heap.objs.size + 1 + 1, oO2) ∈ led5 := K5 _ (.tail _ (inB _ hmO8)) (Ne.symm (hOl j hj).2) (Ne.symm (hOl j hj).2)
          have hm5 : (I, it) ∈ led5 := K5 _ (.tail _ (inB _ hm8)) (Ne.symm (hIl j hj).2) (Ne.symm (hIl j hj).2)
          have Z5 : St (List.take i rs ++ [r]) q8 (upd n9 j (n9 j ++ (n9 (r 7)).filter fun x => decide (x ∉ n9 j))) (Bk (i + 1)) := hq8 ▸ Z9.tell ok7 hj
          generalize upd n9 j (n9 j ++ (n9 (r 7)).filter fun x => decide (x ∉ n9 j)) = n5 at W5 Z5
          clear K5 W8B hz4 lN inB hBASE N4 F4 hkj huj hki hui W8 hm8 hmO8 hkvi hzl huil
          have hBk5 : Bk (i + 1) ≤ 5000 := Nat.le_trans (Bk_le (i + 1) hi11) (by decide)
          have hq5 : (q8 j).length ≤ 3 := (Z5.inv j hj).len
          have hn5 := Z5.len j hj
          have N6 : News g8 s₁.heap.objs.size h5 ((s₁.heap.objs.size + 1 + 1, oO2) :: (s₁.heap.objs.size + 1, oK) :: (A.Ta, listOf A.tv.toArray A.nT) :: (A.Ka, listOf A.kv.toArray A.nK) :: (A.H j, instObj 232 (A.DX j)) :: (A.DX j, hdD (A.hs j) (A.kt j) (A.LL j) (A.n j)) :: led5) :=
            news_sub N5 (sub_cons hmO5 (sub_cons (W5.cst_in _ hcK) (sub_cons (W5.cst_in _ O.ta) (sub_cons (W5.cst_in _ O.ka) (sub_cons (W5.cst_in _ (O.h j hj)) (sub_cons (W5.cst_in _ (O.dx j hj)) fun _ h => h))))))
          clear N5
          have W6 : W3 A cst ((s₁.heap.objs.size + 1 + 1, oO2) :: (s₁.heap.objs.size + 1, oK) :: (A.Ta, listOf A.tv.toArray A.nT) :: (A.Ka, listOf A.kv.toArray A.nK) :: (A.H j, instObj 232 (A.DX j)) :: (A.DX j, hdD (A.hs j) (A.kt j) (A.LL j) (A.n j)) :: led5) q8 n5 := W5.grow fun _ h => (.tail _ (.tail _ (.tail _ (.tail _ (.tail _ (.tail _ (h)))))))
          have htk5 : Nat → True := fun _ => trivial
          ktn_open
          refine Hold.out ?_
          refine' method_inst ?zk1 ?zk2 ?zk3 ?zk4 ?zk5 ?zk6 ?zk7 ?_
          (case zk1 => k_asm)
          (case zk2 => k_asm)
          (case zk3 => (refine' InstAt.of_news ?zN ?zh1 ?zh2; (case zN => k_asm); (case zh1 => exact (.tail _ (.tail _ (.tail _ (.tail _ (.head _)))))); (case zh2 => exact (.tail _ (.tail _ (.tail _ (.tail _ (.tail _ (.head _)))))))))
          (case zk4 => k_is)
          (case zk5 => k_is)
          (case zk6 => k_is)
          (case zk7 => k_get)
          k_whole
          ktn_open
          refine Hold.out ?_
          (rename News _ _ _ _ => N7)
          refine' ConK.use (items_abs _ A cst _ q8 n5 j O W6 hj hq5) ?zcB ?zcF ?zcX ?zcN ?zcT rfl ?zcd ?zcu ?_
          (case zcN => exact N7)
          (case zcF => k_asm)
          (case zcB => k_asm)
          (case zcX => k_asm)
          (case zcT => k_asm)
          (case zcd => exact Nat.lt_of_le_of_lt (Nat.add_le_add_left (by decide) _) hdp)
          (case zcu => exact Nat.lt_of_le_of_lt (Nat.add_le_add_left (by decide) _) hun)
          intro v9 led9 h9 tk9 F9 N9 R9
          obtain ⟨DI, nI, vI, e9, oI, z9, fI⟩ := R9
          rw [z9] at N9
          clear z9
          subst e9
          ktn_open
          refine Hold.out ?_
          have IJ := Z5.inv j hj
          refine sorted_pairs F9 N9 (.head _) (fun _ _ => PairAt.sub fun _ h => .tail _ h) fI (by rw [fI.length, List.length_map]; exact IJ.len) (perm_apart IJ.perm (bestL_apart _)) ?_
          intro D6 c6 ws6 ps6 h6 F6 N6' l6 f6 p6 s6
          have W7 : W3 A cst ((D6, listOf (List.toArray ws6) c6) :: (DI, listOf (List.toArray vI) nI) :: _) q8 n5 := W6.grow fun _ h => .tail _ (.tail _ h)
          ktn_open
          refine Hold.out ?_
          refine' ConK.use (best_abs _ A cst _ q8 n5 j W7 hj (Z5.made j hj) (by omega)) ?zcB ?zcF ?zcX ?zcN ?zcT rfl ?zcd ?zcu ?_
          (case zcN => k_asm)
          (case zcF => k_asm)
          (case zcB => k_asm)
          (case zcX => k_asm)
          (case zcT => k_asm)
          (case zcd => exact Nat.lt_of_le_of_lt (Nat.add_le_add_left (by decide) _) hdp)
          (case zcu => exact Nat.lt_of_le_of_lt (Nat.add_le_add_left (by decide) _) hun)
          intro v9 led9 h9 tk9 F9 N9 R9
          obtain ⟨DB, cB, vB, psB, frB, e9, z9, fB, oB, pB, sB⟩ := R9
          rw [z9] at N9
          clear z9
          subst e9
          ktn_open
          refine Hold.out ?_
          have eqP : ps6 = psB := perm_sorted_eq (p6.trans (IJ.perm.trans pB.symm)) s6 sB (perm_apart (p6.trans IJ.perm) (bestL_apart _))
          have plQ : ∀ p ∈ (q8 j).map prOf, Plain p.1 ∧ Plain p.2 := fun p hp => by
            obtain ⟨q, hq, rfl⟩ := List.mem_map.mp hp
            have g := (Z5.made j hj q (IJ.mem q hq)).good w.params
            exact ⟨g.pn, g.pt⟩
          have plS : ∀ p ∈ ps6, Plain p.1 ∧ Plain p.2 := fun p hp => plQ p (p6.mem_iff.mp hp)
          have plB : ∀ p ∈ psB, Plain p.1 ∧ Plain p.2 := eqP ▸ plS
          refine ne_prs N9 (.tail _ (List.mem_append_right _ (.head _))) (.head _) (f6.mono fun _ _ => PairAt.sub fun p hp => .tail _ (List.mem_append_right _ (.tail _ (.tail _ hp)))) (fB.mono fun _ _ => PairAt.sub fun p hp => .tail _ (List.mem_append_left _ hp)) plS plB (by show _ + 64 < _; dsimp only [ktrTop]; (first | (refine lt_room (by with_reducible assumption) ?_; k_dflt (exact rfl)) | exact lt_room0 (by with_reducible assumption) | omega)) ?_
          rw [decide_eq_true eqP]
          dsimp only [Bool.not_true]
          ktn_open
          obtain ⟨ALL, hALL, NA⟩ : ∃ L, _ = L ∧ News _ _ _ L := ⟨_, rfl, N9⟩
          have inA : ∀ p ∈ led5, p ∈ ALL := fun p hp => by rw [← hALL]; exact .tail _ (List.mem_append_right _ (.tail _ (.tail _ ((.tail _ (.tail _ (.tail _ (.tail _ (.tail _ (.tail _ (hp)))))))))))
          have WA : W3 A cst ALL q8 n5 := W5.grow inA
          refine GStep.mk (but2 ALL I I) ⟨(Gt.trans Tn9).trans Tn8, B8, X8, T8, D8⟩ F9 NA (inA _ hm5) (fun p hp => (but2_mem.mp hp).1) (fun p hp => (but2_mem.mp hp).2.1) ⟨oO2, _, q8, n5, but2_mem.mpr ⟨inA _ hmO5, hIO, hIO⟩, hO2, WA.but NA (inA _ hm5) (.inl hit) hIc hIl, ?_, rfl, rfl⟩
          rw [take_more hri]
          exact Z5
      case zdone =>
        rintro g' m₁ nx h2 tk2 ⟨oc, x, qss, nwss, hcm, hcd, W, Z, e1, e2⟩ ⟨Gt, B', X', T', D'⟩ F2 N2
        rw [map2 e1 e2] at F2
        rw [List.take_of_length_le (by rw [hRlen]; exact Nat.le_refl _)] at Z
        have hbk := Bk_le ys.length (by rw [hRlen]; exact hrl11)
        clear F' N'
        have hRc : (R, LCg.lst ys) ∈ nx := W.cst_in _ (hcst _ (.head _))
        ktn_open
        refine Hold.out ?_
        (rename News _ _ _ _ => lN)
        (rename Fr _ _ _ _ => lF)
        rename_i pl _ _
        obtain ⟨LP, pvs, NP, hpl, hpl4, hpr, inP⟩ := pairs_start lN
        have So : ∀ i k, k < 3 → Sound (lastQ qss i k) := last_sound fun k hk => ⟨nwss k, Z.inv k hk, Z.made k hk⟩
        refine for_listC (vs := pvs) (nn := _) (Gd w (ExcName.means s₀.heap) mg mb callerA s₁.heap [] s₁.heap) (fun i m nx => W3 A cst nx (lastQ qss i) nwss ∧ (pl, listOf (List.toArray pvs) 0) ∈ nx ∧ Fa2 (PrAt nx) pvs pairs4 ∧ m (Str.ofString "tables") = some (.ref A.Ta) ∧ m (Str.ofString "rows") = some (.ref R)) rfl hpl (.inl fun _ _ => rfl) (fun g' e => by rw [e.t.size, ← Gt.size]; exact Nat.le_of_lt (Nat.lt_of_le_of_lt lF.above lF.ns.lt)) ⟨Gt, B', X', T', D'⟩ lF NP ?zh0 ?zhJl ?zturn ?zdone
        case zh0 => exact ⟨W.grow inP, hpl, hpr, rfl, rfl⟩
        case zhJl => rintro i m nx ⟨_, h, _⟩; exact h
        case zturn =>
          rintro i v g3 m3 nx3 h3 tk3 I it hvi ⟨W3', hpl3, hpr3, e3, e4⟩ hit ⟨Gt3, B3, X3, T3, D3⟩ hoff hlt' F3 N3
          rw [map2 e3 e4] at F3
          obtain ⟨p, hpi, T5, t1, t2, rfl, hT5⟩ := hpr3.get hvi
          obtain ⟨p1, p2, p3⟩ := pairs4_ok p (List.mem_of_getElem? hpi)
          have tkl : ∀ q ∈ nx3, q.2.cls = .type "tuple" → q.1 ≠ A.LL p.2 := fun q hq hc => by
            obtain ⟨_, _, h1, _⟩ := W3'.tab p.2 p2
            exact tupC_ne N3 (.tail _ hq) hc (.tail _ h1)
          have plne := four_ne (W3'.grow fun _ h => List.mem_cons_of_mem (I, it) h) N3 (.tail _ hpl3) hpl4 (fun k hk => (So i k hk).len) p.2 p2
          have hIl : A.LL p.2 ≠ I := by
            obtain ⟨_, _, h1, _⟩ := W3'.tab p.2 p2
            exact hoff _ h1
          have hIl2 : ∀ k, k < 3 → A.LL k ≠ I ∧ A.KK k ≠ I := fun k hk => by
            obtain ⟨_, _, h1, _⟩ := W3'.tab k hk
            obtain ⟨_, _, h2, _⟩ := W3'.kn k hk
            exact ⟨hoff _ h1, hoff _ h2⟩
          have hIc : ∀ p ∈ cst, p.1 ≠ I := fun p hp => hoff p (W3'.cst_in p hp)
          have N4 := news_front N3 (.tail _ hT5)
          have W4 : W3 A cst ((T5, tupV [.int (p.1 : Int) t1, .int (p.2 : Int) t2]) :: (I, it) :: nx3) (lastQ qss i) nwss := W3'.grow fun _ h => .tail _ (.tail _ h)
          clear lN lF NP N3 hvi
          ktn_open
          refine Hold.out ?_
          (rename News _ _ _ _ => N5)
          refine' ConS.use (tell_abs _ A cst _ (lastQ qss i) nwss p.1 p.2 _ _ O W4 p1 p2 p3 (So i _ p1) (So i _ p2)) ?zcB ?zcF ?zcX ?zcN ?zcT rfl ?zcd ?zcu ?zcXB ?zcTB ?zcD ?_
          (case zcN => exact N5)
          (case zcF => k_asm)
          (case zcB => k_asm)
          (case zcX => k_asm)
          (case zcT => k_asm)
          (case zcXB => k_asm)
          (case zcTB => k_asm)
          (case zcD => k_asm)
          (case zcd => exact Nat.lt_of_le_of_lt (Nat.add_le_add_left (by decide) _) hdp)
          (case zcu => exact Nat.lt_of_le_of_lt (Nat.add_le_add_left (by decide) _) hun)
          intro v9 g8 led9 h8 tk8 Tn8 B8 X8 T8 D8 F8 N8 R8
          obtain ⟨e8, W8, K8⟩ := R8
          subst e8
          ktn_open
          have hI8 : (I, it) ∈ led9 := K8 _ (.tail _ (.head _)) (Ne.symm hIl) (Ne.symm hIl)
          refine GStep.mk (but2 led9 I I) ⟨Gt3.trans Tn8, B8, X8, T8, D8⟩ F8 N8 hI8 (fun p hp => (but2_mem.mp hp).1) (fun p hp => (but2_mem.mp hp).2.1) ⟨?_, ?_, ?_, rfl, rfl⟩
          · rw [lastQ_more hpi]
            exact W8.but N8 hI8 (.inl hit) hIc hIl2
          · exact but2_mem.mpr ⟨K8 _ (.tail _ (.tail _ hpl3)) plne plne, hoff _ hpl3, hoff _ hpl3⟩
          · exact hpr3.mono fun _ _ => PrAt.subC fun q hq hc => but2_mem.mpr ⟨K8 _ (.tail _ (.tail _ hq)) (tkl q hq hc) (tkl q hq hc), hoff _ hq, hoff _ hq⟩
        case zdone =>
          rintro g3 m3 nx3 h3 tk3 ⟨W3', hpl3, hpr3, e3, e4⟩ ⟨Gt3, B3, X3, T3, D3⟩ F3 N3
          rw [map2 e3 e4] at F3
          rw [hpl4] at W3'
          have Zl := Z.last
          clear lN lF NP hpr hpr3 hpl hpl3 W
          have hRc3 : (R, LCg.lst ys) ∈ nx3 := W3'.cst_in _ (hcst _ (.head _))
          ktn_open
          refine Hold.out ?_
          (rename Fr _ _ _ _ => lF)
          (rename News _ _ _ _ => lN)
          obtain ⟨BASE, hBASE, lN⟩ : ∃ B, nx3 = B ∧ News _ _ _ B := ⟨_, rfl, lN⟩
          subst hBASE
          have mW := wholes_made (rows_ok hR)
          have lW := wholes_len rs
          refine comp_list (vs := ys) (nn := _) (fun i zs nx => ∃ fr, nx = fr ++ nx3 ∧ Fa2 (NwAt fr) zs (wholes (rs.take i))) (fun i m => ∃ v, ys[i]? = some v ∧ m (Str.ofString "drawn") = some v) rfl hRc3 (by rw [hRlen, sizeLine_eq]; omega) (.inl fun _ _ => rfl) (by decide) (by rfl) lF lN ?zh0 ?zhJl ?zhasg ?zturn ?zfin
          case zh0 => exact ⟨[], rfl, .nil⟩
          case zhJl => rintro i ys nx ⟨fr, rfl, _⟩; exact List.mem_append_right _ hRc3
          case zhasg =>
            rintro i v C m' news₁ ys s₂ E' Q' hvi _ hn hN hQ
            exact asg_name (by rfl) (by rfl) hn fun h' tk' m'' hn' hd' hs' => hQ h' tk' m'' hn' ⟨v, hvi, hd'⟩ hs'
          case zturn =>
            rintro sz i4 v4 I4 oI C4 oC D4 m4 h4 tk4 E4 zs news4 ⟨hp4, rfl⟩ hv4 ⟨fr, rfl, hz4⟩ hC4 ⟨v', hv', e5⟩ F4 N4 off4 ne4
            rw [hv4] at hv'
            cases hv'
            obtain ⟨r, hri, ok, Da, tr, nD, rfl, hDa⟩ := hR.get hv4
            have hDc : (Da, rowO r tr nD) ∈ cst := hcst _ (.tail _ hDa)
            have N7 := news_front N4 ((.tail _ (.tail _ (.tail _ (List.mem_append_right _ (W3'.cst_in _ hDc))))))
            show wpAny _ _ (isTrue _ _ _) _ _ _
            clear lF lN N4
            by_cases h6 : r 6 < 8
            · have h6' : ((r 6 : Nat) : Int) < 8 := by omega
              ktn_open
              refine Hold.out ?_
              refine LCgL.ld_own N7 ((.tail _ (.tail _ (.head _)))) hC4 e5 ?_
              ktn_open
              refine Hold.out ?_
              refine LCgL.ld_own N7 ((.tail _ (.tail _ (.head _)))) hC4 e5 ?_
              ktn_open
              refine Hold.out ?_
              refine' ConK.use (made_conF _ _ _ _ _ _ _ _ _ _ _ _ _ _ _ _ _ _ _ _ _ _ _ _ ok.h0 ok.h1 ok.h2 ok.h3 ok.h4 ok.h9) ?zcB ?zcF ?zcX ?zcN ?zcT rfl ?zcd ?zcu ?_
              (case zcN => exact N7)
              (case zcF => k_asm)
              (case zcB => k_asm)
              (case zcX => k_asm)
              (case zcT => k_asm)
              (case zcd => exact Nat.lt_of_le_of_lt (Nat.add_le_add_left (by decide) _) hdp)
              (case zcu => exact Nat.lt_of_le_of_lt (Nat.add_le_add_left (by decide) _) hun)
              intro v9 led9 h9 tk9 F9 N9 R9
              obtain ⟨T5, u1, u2, u3, u4, e9, z9, o9⟩ := R9
              rw [z9] at N9
              clear z9
              subst e9
              ktn_open
              refine CEnd.mk ((T5, tupN (madeR r) u1 u2 u3 u4) :: (fr ++ nx3)) F9 N9 ((.tail _ (.tail _ (.head _)))) ((.tail _ (.tail _ (.tail _ (.head _))))) ((.tail _ (.tail _ (.tail _ (.tail _ (.head _)))))) (sub_cons (.head _) fun _ q => (.tail _ (.tail _ (.tail _ (.tail _ (.tail _ (q))))))) (List.forall_mem_cons.mpr ⟨⟨Ne.symm (o9 _ ((.tail _ (.head _)))), Ne.symm (o9 _ ((.tail _ (.tail _ (.head _))))), Ne.symm (o9 _ ((.tail _ (.tail _ (.tail _ (.head _))))))⟩, off4⟩) ⟨(T5, tupN (madeR r) u1 u2 u3 u4) :: fr, rfl, ?_⟩
              rw [take_more hri, wholes_app, if_pos h6]
              exact (hz4.mono fun _ _ => NwAt.sub fun _ h => .tail _ h).snoc ⟨T5, u1, u2, u3, u4, rfl, .head _⟩
            · have h6' : ¬ ((r 6 : Nat) : Int) < 8 := by omega
              ktn_open
              refine Hold.out ?_
              refine LCgL.ld_own N7 ((.tail _ (.tail _ (.head _)))) hC4 e5 ?_
              ktn_open
              refine CEnd.mk (fr ++ nx3) (by assumption) N7 ((.tail _ (.head _))) ((.tail _ (.tail _ (.head _)))) ((.tail _ (.tail _ (.tail _ (.head _))))) (fun _ q => (.tail _ (.tail _ (.tail _ (.tail _ (q)))))) off4 ⟨fr, rfl, ?_⟩
              rw [take_more hri, wholes_app, if_neg h6, List.append_nil]
              exact hz4
          case zfin =>
            rintro D4 h4 tk4 zs news4 ⟨fr, rfl, hz4⟩ F4 N4 off4
            clear lF lN
            rw [List.take_of_length_le (by rw [hRlen]; exact Nat.le_refl _)] at hz4
            have hzl := hz4.length
            ktn_open
            refine Hold.out ?_
            (rename News _ _ _ _ => N5)
            refine' ConK.use (best_con _ D4 _ zs (fr ++ nx3) (wholes rs) (hz4.mono fun _ _ => NwAt.sub fun _ h => List.mem_append_left _ h) (fun x hx => ⟨((mW x hx).good w.params).pt, ((mW x hx).good w.params).pn, ((mW x hx).good w.params).pl⟩) (by rw [hzl, sizeLine_eq]; omega)) ?zcB ?zcF ?zcX ?zcN ?zcT rfl ?zcd ?zcu ?_
            (case zcN => exact N5)
            (case zcF => k_asm)
            (case zcB => k_asm)
            (case zcX => k_asm)
            (case zcT => k_asm)
            (case zcd => exact Nat.lt_of_le_of_lt (Nat.add_le_add_left (by decide) _) hdp)
            (case zcu => exact Nat.lt_of_le_of_lt (Nat.add_le_add_left (by decide) _) hun)
            intro v9 led9 h9 tk9 F9 N9 R9
            obtain ⟨DU, cU, vU, psU, frU, e9, z9, fU, -, oU, pU, sU⟩ := R9
            rw [z9] at N9
            clear z9
            subst e9
            have inU : ∀ p ∈ nx3, p ∈ (DU, listOf (List.toArray vU) cU) :: (D4, LCg.lst zs) :: (frU ++ (fr ++ nx3)) := fun p hp => .tail _ (.tail _ (List.mem_append_right _ (List.mem_append_right _ hp)))
            obtain ⟨BASE, hBASE, N9⟩ : ∃ B, (DU, listOf (List.toArray vU) cU) :: (D4, LCg.lst zs) :: (frU ++ (fr ++ nx3)) = B ∧ News _ _ _ B := ⟨_, rfl, N9⟩
            rw [hBASE] at inU
            have hDU : (DU, listOf (List.toArray vU) cU) ∈ BASE := by rw [← hBASE]; exact .head _
            have fUB : Fa2 (PairAt BASE) vU psU := fU.mono fun _ _ => PairAt.sub fun p hp => by rw [← hBASE]; exact .tail _ (.tail _ (List.mem_append_left _ hp))
            have hTa := inU _ (W3'.cst_in _ O.ta)
            clear hBASE
            ktn_open
            refine Hold.out ?_
            (rename Fr _ _ _ _ => lF)
            (rename News _ _ _ _ => lN)
            refine comp_list (vs := A.tv) (nn := A.nT) (fun i zs nx => ∃ fr, nx = fr ++ BASE ∧ Fa2 (SortAt (fr ++ BASE)) zs (List.replicate i psU)) (fun i m => ∃ v, A.tv[i]? = some v ∧ m (Str.ofString "table") = some v) rfl hTa (by rw [sizeLine_eq]; show (3 : Nat) ≤ _; omega) (.inl fun _ _ => rfl) (by decide) (by rfl) lF lN ?zh0 ?zhJl ?zhasg ?zturn ?zfin
            case zh0 => exact ⟨[], rfl, .nil⟩
            case zhJl => rintro i ys nx ⟨fr, rfl, _⟩; exact List.mem_append_right _ hTa
            case zhasg =>
              rintro i v C m' news₁ ys s₂ E' Q' hvi _ hn hN hQ
              exact asg_name (by rfl) (by rfl) hn fun h' tk' m'' hn' hd' hs' => hQ h' tk' m'' hn' ⟨v, hvi, hd'⟩ hs'
            case zturn =>
              rintro sz i4 v4 I4 oI C4 oC D5 m4 h4 tk4 E4 zs4 news4 ⟨hp4, rfl⟩ hv4 ⟨fr4, rfl, hz5⟩ hC4 ⟨v', hv', e5⟩ F4 N4 off4 ne4
              rw [hv4] at hv'
              cases hv'
              have hi4 : i4 < 3 := (List.getElem?_eq_some_iff.mp hv4).1
              rw [A.tv_at hi4] at hv4
              cases hv4
              obtain ⟨nn, vs, hl, hv⟩ := W3'.tab i4 hi4
              have IJ := Zl i4 hi4
              have N7 := news_front (news_front (news_front N4 ((.tail _ (.tail _ (.tail _ (List.mem_append_right _ (inU _ hl))))))) ((.tail _ (.tail _ (.tail _ (.tail _ (List.mem_append_right _ (inU _ (W3'.cst_in _ (O.dx _ hi4)))))))))) ((.tail _ (.tail _ (.tail _ (.tail _ (.tail _ (List.mem_append_right _ (inU _ (W3'.cst_in _ (O.h _ hi4))))))))))
              have lv : vs.length ≤ 3 := by rw [hv.length, List.length_map]; exact IJ.len
              show wpAny _ _ (eval _ _) _ _ _
              clear lF lN N4
              ktn_open
              refine Hold.out ?_
              refine LCgL.ld_own N7 ((.tail _ (.tail _ (.tail _ (.tail _ (.head _)))))) hC4 e5 ?_
              ktn_open
              refine Hold.out ?_
              refine' method_inst ?zk1 ?zk2 ?zk3 ?zk4 ?zk5 ?zk6 ?zk7 ?_
              (case zk1 => k_asm)
              (case zk2 => k_asm)
              (case zk3 => (refine' InstAt.of_news ?zN ?zh1 ?zh2; (case zN => k_asm); (case zh1 => exact .head _); (case zh2 => exact (.tail _ (.head _)))))
              (case zk4 => k_is)
              (case zk5 => k_is)
              (case zk6 => k_is)
              (case zk7 => k_get)
              k_whole
              ktn_open
              refine Hold.out ?_
              refine' ConK.use (items_con w (A.H i4) (A.DX i4) (A.LL i4) (A.hs i4) (A.kt i4) (A.n i4) nn vs _ (by rw [sizeLine_eq]; omega)) ?zcB ?zcF ?zcX ?zcN ?zcT rfl ?zcd ?zcu ?_
              (case zcN => exact N7)
              (case zcF => k_asm)
              (case zcB => k_asm)
              (case zcX => k_asm)
              (case zcT => k_asm)
              (case zcd => exact Nat.lt_of_le_of_lt (Nat.add_le_add_left (by decide) _) hdp)
              (case zcu => exact Nat.lt_of_le_of_lt (Nat.add_le_add_left (by decide) _) hun)
              intro v9 led9 h9 tk9 F9 N9 R9
              obtain ⟨DI, nI, e9, oI9, z9⟩ := R9
              rw [z9] at N9
              clear z9
              subst e9
              ktn_open
              refine Hold.out ?_
              refine sorted_pairs F9 N9 (.head _) (fun _ _ => PairAt.sub fun p hp => (.tail _ (.tail _ (.tail _ (.tail _ (.tail _ (.tail _ (.tail _ (List.mem_append_right _ (inU p hp)))))))))) hv lv (perm_apart IJ.perm (bestL_apart _)) ?_
              intro D6 c6 ws6 ps6 h6 F6 N6' l6 f6 p6 s6
              have eqP : ps6 = psU := perm_sorted_eq (p6.trans (IJ.perm.trans pU.symm)) s6 sU (perm_apart (p6.trans IJ.perm) (bestL_apart _))
              subst eqP
              ktn_open
              refine CEnd.mk ((D6, listOf (List.toArray ws6) c6) :: (fr4 ++ BASE)) F6 N6' ((.tail _ (.tail _ (.tail _ (.tail _ (.tail _ (.head _))))))) ((.tail _ (.tail _ (.tail _ (.tail _ (.tail _ (.tail _ (.head _)))))))) ((.tail _ (.tail _ (.tail _ (.tail _ (.tail _ (.tail _ (.tail _ (.head _))))))))) (sub_cons (.head _) fun _ q => (.tail _ (.tail _ (.tail _ (.tail _ (.tail _ (.tail _ (.tail _ (.tail _ (q)))))))))) (List.forall_mem_cons.mpr ⟨⟨Nat.ne_of_gt (l6 _ ((.tail _ (.tail _ (.tail _ (.tail _ (.head _))))))), Nat.ne_of_gt (l6 _ ((.tail _ (.tail _ (.tail _ (.tail _ (.tail _ (.head _)))))))), Nat.ne_of_gt (l6 _ ((.tail _ (.tail _ (.tail _ (.tail _ (.tail _ (.tail _ (.head _)))))))))⟩, off4⟩) ⟨(D6, listOf (List.toArray ws6) c6) :: fr4, rfl, ?_⟩
              rw [List.replicate_succ']
              exact (hz5.mono fun _ _ => SortAt.sub fun _ h => .tail _ h).snoc ⟨D6, c6, ws6, rfl, .head _, f6.mono fun _ _ => PairAt.sub fun p hp => .tail _ (List.mem_append_right _ (inU p hp))⟩
            case zfin =>
              rintro DL h4 tk4 zs4 news4 ⟨fr4, rfl, hz5⟩ F4 N4 off4
              clear lF lN
              have mU : ∀ p ∈ psU, Plain p.1 ∧ Plain p.2 := fun p hp => by
                obtain ⟨x, hx, rfl⟩ := bestL_mem (pU.mem_iff.mp hp)
                exact ⟨((mW x hx).good w.params).pn, ((mW x hx).good w.params).pt⟩
              ktn_open
              refine Hold.out ?_
              (rename News _ _ _ _ => N5)
              refine eq_lists (xs := List.replicate 3 psU) (ys := [psU, psU, psU]) N5 (.tail _ (.head _)) (.head _) (hz5.mono fun _ _ => SortAt.sub fun _ h => .tail _ (.tail _ h)) ?zu (fun ps hp => by rw [List.eq_of_mem_replicate hp]; exact mU) (fun ps hp => by simp only [List.mem_cons, List.not_mem_nil, or_false, or_self] at hp; rw [hp]; exact mU) (by show _ + 64 < _; dsimp only [ktrTop]; (first | (refine lt_room (by with_reducible assumption) ?_; k_dflt (exact rfl)) | exact lt_room0 (by with_reducible assumption) | omega)) ?_
              case zu =>
                have sU5 : ∀ led' : Led, (∀ p ∈ BASE, p ∈ led') → SortAt led' (.ref DU) psU := fun led' h => ⟨DU, cU, vU, rfl, h _ hDU, fUB.mono fun _ _ => PairAt.sub h⟩
                exact .cons (sU5 _ fun p hp => .tail _ (.tail _ (List.mem_append_right _ hp))) (.cons (sU5 _ fun p hp => .tail _ (.tail _ (List.mem_append_right _ hp))) (.cons (sU5 _ fun p hp => .tail _ (.tail _ (List.mem_append_right _ hp))) .nil))
              rw [decide_eq_true (show List.replicate 3 psU = [psU, psU, psU] from rfl)]
              (rename Fr _ _ _ _ => F5)
              exact ⟨rfl, fun b o e => F5.keep b o (Gt3.other b o e (fun h => nomatch h)), rfl, rfl⟩
  · obtain ⟨rfl, hk9, ho9, hg9⟩ := hf
    have hg8 := hg9.trans y8
    dsimp only
    refine ⟨.inl ⟨.bool true, .bool true, [], rfl, raisesW_false ?_, .bool _, ?_, fun _ => ⟨.nil, fun _ h => nomatch h⟩⟩, hk9, ho9, hg8⟩
    · wrow_none_raised
    · wrow_post
end
end Mine
end
end
end
set_option maxRecDepth 100000 in
set_option maxHeartbeats 8000000 in
theorem PySem.Challenge.cw_wf0088_01_holds : PySem.Challenge.rw_wf0088_01.Holds := by
  exact Mine.law_x

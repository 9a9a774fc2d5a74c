import PyProof.Rows.All
import Wide.All
import OpenK.AllK
import Wide.FinOn
import Lean
import PySem.Challenge.RW_xp0005_01
open PySem PySem.W PyProof.Rows PySem.Spec PySem.Calls
set_option Elab.async false
set_option maxRecDepth 100000
set_option maxHeartbeats 0
set_option rowWalk.seconds 0
set_option linter.all false
set_option compiler.extract_closed false
local macro_rules | `(tactic| walk_at $s:str) => `(tactic| k_extra $(Lean.Syntax.mkStrLit ("1 " ++ s.getString)))
namespace Mine

theorem len_cons {α : Type} {l : List α} {n : Nat} (h : l.length = n + 1) : ∃ a t, l = a :: t ∧ t.length = n := by
  cases l with
  | nil => exact absurd h (Nat.zero_ne_add_one n)
  | cons a t => exact ⟨a, t, rfl, Nat.succ.inj h⟩
theorem len_nil {α : Type} {l : List α} (h : l.length = 0) : l = [] := List.eq_nil_of_length_eq_zero h
theorem list3 {α : Type} {l : List α} (h : l.length = 3) : ∃ a b c, l = [a, b, c] :=
  Exists.elim (len_cons h) fun a h => Exists.elim h fun _ h => Exists.elim (len_cons h.2) fun b h2 => Exists.elim h2 fun _ h2 => Exists.elim (len_cons h2.2) fun c h3 => Exists.elim h3 fun _ h3 =>
    ⟨a, b, c, h.1.trans (congrArg (a :: ·) (h2.1.trans (congrArg (b :: ·) (h3.1.trans (congrArg (c :: ·) (len_nil h3.2))))))⟩
theorem list5 {α : Type} {l : List α} (h : l.length = 5) : ∃ a b c d e, l = [a, b, c, d, e] :=
  Exists.elim (len_cons h) fun a h => Exists.elim h fun _ h => Exists.elim (len_cons h.2) fun b h2 => Exists.elim h2 fun _ h2 => Exists.elim (list3 h2.2) fun c h3 => Exists.elim h3 fun d h3 => Exists.elim h3 fun e h3 =>
    ⟨a, b, c, d, e, h.1.trans (congrArg (a :: ·) (h2.1.trans (congrArg (b :: ·) h3)))⟩
theorem list8 {α : Type} {l : List α} (h : l.length = 8) : ∃ a b c d e f g i, l = [a, b, c, d, e, f, g, i] :=
  Exists.elim (len_cons h) fun a h => Exists.elim h fun _ h => Exists.elim (len_cons h.2) fun b h2 => Exists.elim h2 fun _ h2 => Exists.elim (len_cons h2.2) fun c h3 => Exists.elim h3 fun _ h3 =>
    Exists.elim (list5 h3.2) fun d h4 => Exists.elim h4 fun e h4 => Exists.elim h4 fun f h4 => Exists.elim h4 fun g h4 => Exists.elim h4 fun i h4 =>
      ⟨a, b, c, d, e, f, g, i, h.1.trans (congrArg (a :: ·) (h2.1.trans (congrArg (b :: ·) (h3.1.trans (congrArg (c :: ·) h4)))))⟩
theorem at3 {α : Type} {P : Nat → α → Prop} {a b c : α} (h0 : P 0 a) (h1 : P 1 b) (h2 : P 2 c) {i : Nat} {x : α} (h : [a, b, c][i]? = some x) : P i x := by
  rcases i with _ | _ | _ | i
  · exact Option.some.inj h ▸ h0
  · exact Option.some.inj h ▸ h1
  · exact Option.some.inj h ▸ h2
  · exact nomatch (show none = some x from h)
theorem at8 {α : Type} {P : Nat → α → Prop} {a b c d e f g k : α} (h0 : P 0 a) (h1 : P 1 b) (h2 : P 2 c) (h3 : P 3 d) (h4 : P 4 e) (h5 : P 5 f) (h6 : P 6 g) (h7 : P 7 k) {i : Nat} {x : α} (h : [a, b, c, d, e, f, g, k][i]? = some x) : P i x := by
  rcases i with _ | _ | _ | _ | _ | i
  · exact Option.some.inj h ▸ h0
  · exact Option.some.inj h ▸ h1
  · exact Option.some.inj h ▸ h2
  · exact Option.some.inj h ▸ h3
  · exact Option.some.inj h ▸ h4
  · exact at3 (P := fun i x => P (i + 5) x) h5 h6 h7 (show [f, g, k][i]? = some x from h)
theorem lt8 {P : Nat → Prop} (h0 : P 0) (h1 : P 1) (h2 : P 2) (h3 : P 3) (h4 : P 4) (h5 : P 5) (h6 : P 6) (h7 : P 7) : ∀ i, i < 8 → P i := by
  intro i hi
  rcases i with _ | _ | _ | _ | _ | _ | _ | _ | i
  · exact h0
  · exact h1
  · exact h2
  · exact h3
  · exact h4
  · exact h5
  · exact h6
  · exact h7
  · exact absurd hi (Nat.not_lt_of_le (Nat.le_add_left 8 i))
theorem ints_map : ∀ {ys : List Value} {f : Nat → Int} {j : Nat}, (∀ (i : Nat) y, ys[i]? = some y → ∃ t, y = Value.int (f (j + i)) t) → IntsAre ys ((List.range' j ys.length).map f)
  | [], _, _, _ => .nil
  | y :: ys, f, j, h => by
    obtain ⟨t, rfl⟩ := h 0 y rfl
    have ih := ints_map (ys := ys) (f := f) (j := j + 1) (fun i y hy => by
      have := h (i + 1) y (by simpa using hy)
      rwa [show j + (i + 1) = j + 1 + i by lia] at this)
    exact .cons _ _ ih
theorem snoc_at {α : Type} {P : Nat → α → Prop} {ys : List α} {v : α} (h : ∀ i y, ys[i]? = some y → P i y) (hv : P ys.length v) : ∀ i y, (ys ++ [v])[i]? = some y → P i y := by
  intro i y hy
  rcases Nat.lt_or_ge i ys.length with h1 | h1
  · rw [List.getElem?_append_left h1] at hy; exact h i y hy
  · rw [List.getElem?_append_right h1] at hy
    cases hk : i - ys.length with
    | zero =>
      rw [hk] at hy
      rw [Nat.le_antisymm (Nat.le_of_sub_eq_zero hk) h1, ← Option.some.inj hy]
      exact hv
    | succ k =>
      rw [hk] at hy
      exact nomatch (show none = some y from hy)
noncomputable def Hold (P : Prop) : Prop := P
theorem hold {P : Prop} (h : Hold P) : P := h

theorem nb {p : Prop} (h : p) : p := h
theorem exI2 {α0 : Sort _} {α1 : Sort _} {P : α0 → α1 → Prop} (a0 : α0) (a1 : α1) (h : P a0 a1) : ∃ a0 a1, P a0 a1 := ⟨a0, a1, h⟩
theorem exI3 {α0 : Sort _} {α1 : Sort _} {α2 : Sort _} {P : α0 → α1 → α2 → Prop} (a0 : α0) (a1 : α1) (a2 : α2) (h : P a0 a1 a2) : ∃ a0 a1 a2, P a0 a1 a2 := ⟨a0, a1, a2, h⟩
theorem exI4 {α0 : Sort _} {α1 : Sort _} {α2 : Sort _} {α3 : Sort _} {P : α0 → α1 → α2 → α3 → Prop} (a0 : α0) (a1 : α1) (a2 : α2) (a3 : α3) (h : P a0 a1 a2 a3) : ∃ a0 a1 a2 a3, P a0 a1 a2 a3 := ⟨a0, a1, a2, a3, h⟩
theorem exI5 {α0 : Sort _} {α1 : Sort _} {α2 : Sort _} {α3 : Sort _} {α4 : Sort _} {P : α0 → α1 → α2 → α3 → α4 → Prop} (a0 : α0) (a1 : α1) (a2 : α2) (a3 : α3) (a4 : α4) (h : P a0 a1 a2 a3 a4) : ∃ a0 a1 a2 a3 a4, P a0 a1 a2 a3 a4 := ⟨a0, a1, a2, a3, a4, h⟩
theorem exI6 {α0 : Sort _} {α1 : Sort _} {α2 : Sort _} {α3 : Sort _} {α4 : Sort _} {α5 : Sort _} {P : α0 → α1 → α2 → α3 → α4 → α5 → Prop} (a0 : α0) (a1 : α1) (a2 : α2) (a3 : α3) (a4 : α4) (a5 : α5) (h : P a0 a1 a2 a3 a4 a5) : ∃ a0 a1 a2 a3 a4 a5, P a0 a1 a2 a3 a4 a5 := ⟨a0, a1, a2, a3, a4, a5, h⟩
theorem exI9 {α0 : Sort _} {α1 : Sort _} {α2 : Sort _} {α3 : Sort _} {α4 : Sort _} {α5 : Sort _} {α6 : Sort _} {α7 : Sort _} {α8 : Sort _} {P : α0 → α1 → α2 → α3 → α4 → α5 → α6 → α7 → α8 → Prop} (a0 : α0) (a1 : α1) (a2 : α2) (a3 : α3) (a4 : α4) (a5 : α5) (a6 : α6) (a7 : α7) (a8 : α8) (h : P a0 a1 a2 a3 a4 a5 a6 a7 a8) : ∃ a0 a1 a2 a3 a4 a5 a6 a7 a8, P a0 a1 a2 a3 a4 a5 a6 a7 a8 := ⟨a0, a1, a2, a3, a4, a5, a6, a7, a8, h⟩
theorem exI10 {α0 : Sort _} {α1 : Sort _} {α2 : Sort _} {α3 : Sort _} {α4 : Sort _} {α5 : Sort _} {α6 : Sort _} {α7 : Sort _} {α8 : Sort _} {α9 : Sort _} {P : α0 → α1 → α2 → α3 → α4 → α5 → α6 → α7 → α8 → α9 → Prop} (a0 : α0) (a1 : α1) (a2 : α2) (a3 : α3) (a4 : α4) (a5 : α5) (a6 : α6) (a7 : α7) (a8 : α8) (a9 : α9) (h : P a0 a1 a2 a3 a4 a5 a6 a7 a8 a9) : ∃ a0 a1 a2 a3 a4 a5 a6 a7 a8 a9, P a0 a1 a2 a3 a4 a5 a6 a7 a8 a9 := ⟨a0, a1, a2, a3, a4, a5, a6, a7, a8, a9, h⟩
theorem exI15 {α0 : Sort _} {α1 : Sort _} {α2 : Sort _} {α3 : Sort _} {α4 : Sort _} {α5 : Sort _} {α6 : Sort _} {α7 : Sort _} {α8 : Sort _} {α9 : Sort _} {α10 : Sort _} {α11 : Sort _} {α12 : Sort _} {α13 : Sort _} {α14 : Sort _} {P : α0 → α1 → α2 → α3 → α4 → α5 → α6 → α7 → α8 → α9 → α10 → α11 → α12 → α13 → α14 → Prop} (a0 : α0) (a1 : α1) (a2 : α2) (a3 : α3) (a4 : α4) (a5 : α5) (a6 : α6) (a7 : α7) (a8 : α8) (a9 : α9) (a10 : α10) (a11 : α11) (a12 : α12) (a13 : α13) (a14 : α14) (h : P a0 a1 a2 a3 a4 a5 a6 a7 a8 a9 a10 a11 a12 a13 a14) : ∃ a0 a1 a2 a3 a4 a5 a6 a7 a8 a9 a10 a11 a12 a13 a14, P a0 a1 a2 a3 a4 a5 a6 a7 a8 a9 a10 a11 a12 a13 a14 := ⟨a0, a1, a2, a3, a4, a5, a6, a7, a8, a9, a10, a11, a12, a13, a14, h⟩
theorem exE2 {α0 : Sort _} {α1 : Sort _} {P : α0 → α1 → Prop} {C : Prop} (h : ∃ a0 a1, P a0 a1) (k : ∀ a0 a1, P a0 a1 → C) : C := Exists.elim h fun a0 h => Exists.elim h fun a1 h => k a0 a1 h
theorem exE3 {α0 : Sort _} {α1 : Sort _} {α2 : Sort _} {P : α0 → α1 → α2 → Prop} {C : Prop} (h : ∃ a0 a1 a2, P a0 a1 a2) (k : ∀ a0 a1 a2, P a0 a1 a2 → C) : C := Exists.elim h fun a0 h => Exists.elim h fun a1 h => Exists.elim h fun a2 h => k a0 a1 a2 h
theorem exE4 {α0 : Sort _} {α1 : Sort _} {α2 : Sort _} {α3 : Sort _} {P : α0 → α1 → α2 → α3 → Prop} {C : Prop} (h : ∃ a0 a1 a2 a3, P a0 a1 a2 a3) (k : ∀ a0 a1 a2 a3, P a0 a1 a2 a3 → C) : C := Exists.elim h fun a0 h => Exists.elim h fun a1 h => Exists.elim h fun a2 h => Exists.elim h fun a3 h => k a0 a1 a2 a3 h
theorem exE5 {α0 : Sort _} {α1 : Sort _} {α2 : Sort _} {α3 : Sort _} {α4 : Sort _} {P : α0 → α1 → α2 → α3 → α4 → Prop} {C : Prop} (h : ∃ a0 a1 a2 a3 a4, P a0 a1 a2 a3 a4) (k : ∀ a0 a1 a2 a3 a4, P a0 a1 a2 a3 a4 → C) : C := Exists.elim h fun a0 h => Exists.elim h fun a1 h => Exists.elim h fun a2 h => Exists.elim h fun a3 h => Exists.elim h fun a4 h => k a0 a1 a2 a3 a4 h
theorem exE6 {α0 : Sort _} {α1 : Sort _} {α2 : Sort _} {α3 : Sort _} {α4 : Sort _} {α5 : Sort _} {P : α0 → α1 → α2 → α3 → α4 → α5 → Prop} {C : Prop} (h : ∃ a0 a1 a2 a3 a4 a5, P a0 a1 a2 a3 a4 a5) (k : ∀ a0 a1 a2 a3 a4 a5, P a0 a1 a2 a3 a4 a5 → C) : C := Exists.elim h fun a0 h => Exists.elim h fun a1 h => Exists.elim h fun a2 h => Exists.elim h fun a3 h => Exists.elim h fun a4 h => Exists.elim h fun a5 h => k a0 a1 a2 a3 a4 a5 h
theorem exE8 {α0 : Sort _} {α1 : Sort _} {α2 : Sort _} {α3 : Sort _} {α4 : Sort _} {α5 : Sort _} {α6 : Sort _} {α7 : Sort _} {P : α0 → α1 → α2 → α3 → α4 → α5 → α6 → α7 → Prop} {C : Prop} (h : ∃ a0 a1 a2 a3 a4 a5 a6 a7, P a0 a1 a2 a3 a4 a5 a6 a7) (k : ∀ a0 a1 a2 a3 a4 a5 a6 a7, P a0 a1 a2 a3 a4 a5 a6 a7 → C) : C := Exists.elim h fun a0 h => Exists.elim h fun a1 h => Exists.elim h fun a2 h => Exists.elim h fun a3 h => Exists.elim h fun a4 h => Exists.elim h fun a5 h => Exists.elim h fun a6 h => Exists.elim h fun a7 h => k a0 a1 a2 a3 a4 a5 a6 a7 h
theorem exE10 {α0 : Sort _} {α1 : Sort _} {α2 : Sort _} {α3 : Sort _} {α4 : Sort _} {α5 : Sort _} {α6 : Sort _} {α7 : Sort _} {α8 : Sort _} {α9 : Sort _} {P : α0 → α1 → α2 → α3 → α4 → α5 → α6 → α7 → α8 → α9 → Prop} {C : Prop} (h : ∃ a0 a1 a2 a3 a4 a5 a6 a7 a8 a9, P a0 a1 a2 a3 a4 a5 a6 a7 a8 a9) (k : ∀ a0 a1 a2 a3 a4 a5 a6 a7 a8 a9, P a0 a1 a2 a3 a4 a5 a6 a7 a8 a9 → C) : C := Exists.elim h fun a0 h => Exists.elim h fun a1 h => Exists.elim h fun a2 h => Exists.elim h fun a3 h => Exists.elim h fun a4 h => Exists.elim h fun a5 h => Exists.elim h fun a6 h => Exists.elim h fun a7 h => Exists.elim h fun a8 h => Exists.elim h fun a9 h => k a0 a1 a2 a3 a4 a5 a6 a7 a8 a9 h
theorem exE15 {α0 : Sort _} {α1 : Sort _} {α2 : Sort _} {α3 : Sort _} {α4 : Sort _} {α5 : Sort _} {α6 : Sort _} {α7 : Sort _} {α8 : Sort _} {α9 : Sort _} {α10 : Sort _} {α11 : Sort _} {α12 : Sort _} {α13 : Sort _} {α14 : Sort _} {P : α0 → α1 → α2 → α3 → α4 → α5 → α6 → α7 → α8 → α9 → α10 → α11 → α12 → α13 → α14 → Prop} {C : Prop} (h : ∃ a0 a1 a2 a3 a4 a5 a6 a7 a8 a9 a10 a11 a12 a13 a14, P a0 a1 a2 a3 a4 a5 a6 a7 a8 a9 a10 a11 a12 a13 a14) (k : ∀ a0 a1 a2 a3 a4 a5 a6 a7 a8 a9 a10 a11 a12 a13 a14, P a0 a1 a2 a3 a4 a5 a6 a7 a8 a9 a10 a11 a12 a13 a14 → C) : C := Exists.elim h fun a0 h => Exists.elim h fun a1 h => Exists.elim h fun a2 h => Exists.elim h fun a3 h => Exists.elim h fun a4 h => Exists.elim h fun a5 h => Exists.elim h fun a6 h => Exists.elim h fun a7 h => Exists.elim h fun a8 h => Exists.elim h fun a9 h => Exists.elim h fun a10 h => Exists.elim h fun a11 h => Exists.elim h fun a12 h => Exists.elim h fun a13 h => Exists.elim h fun a14 h => k a0 a1 a2 a3 a4 a5 a6 a7 a8 a9 a10 a11 a12 a13 a14 h
theorem anE4 {p0 p1 p2 p3 C : Prop} (h : p0 ∧ p1 ∧ p2 ∧ p3) (k : p0 → p1 → p2 → p3 → C) : C := k h.1 h.2.1 h.2.2.1 h.2.2.2
theorem anE5 {p0 p1 p2 p3 p4 C : Prop} (h : p0 ∧ p1 ∧ p2 ∧ p3 ∧ p4) (k : p0 → p1 → p2 → p3 → p4 → C) : C := k h.1 h.2.1 h.2.2.1 h.2.2.2.1 h.2.2.2.2
theorem anE6 {p0 p1 p2 p3 p4 p5 C : Prop} (h : p0 ∧ p1 ∧ p2 ∧ p3 ∧ p4 ∧ p5) (k : p0 → p1 → p2 → p3 → p4 → p5 → C) : C := k h.1 h.2.1 h.2.2.1 h.2.2.2.1 h.2.2.2.2.1 h.2.2.2.2.2
theorem anE7 {p0 p1 p2 p3 p4 p5 p6 C : Prop} (h : p0 ∧ p1 ∧ p2 ∧ p3 ∧ p4 ∧ p5 ∧ p6) (k : p0 → p1 → p2 → p3 → p4 → p5 → p6 → C) : C := k h.1 h.2.1 h.2.2.1 h.2.2.2.1 h.2.2.2.2.1 h.2.2.2.2.2.1 h.2.2.2.2.2.2
theorem anE8 {p0 p1 p2 p3 p4 p5 p6 p7 C : Prop} (h : p0 ∧ p1 ∧ p2 ∧ p3 ∧ p4 ∧ p5 ∧ p6 ∧ p7) (k : p0 → p1 → p2 → p3 → p4 → p5 → p6 → p7 → C) : C := k h.1 h.2.1 h.2.2.1 h.2.2.2.1 h.2.2.2.2.1 h.2.2.2.2.2.1 h.2.2.2.2.2.2.1 h.2.2.2.2.2.2.2
theorem anE9 {p0 p1 p2 p3 p4 p5 p6 p7 p8 C : Prop} (h : p0 ∧ p1 ∧ p2 ∧ p3 ∧ p4 ∧ p5 ∧ p6 ∧ p7 ∧ p8) (k : p0 → p1 → p2 → p3 → p4 → p5 → p6 → p7 → p8 → C) : C := k h.1 h.2.1 h.2.2.1 h.2.2.2.1 h.2.2.2.2.1 h.2.2.2.2.2.1 h.2.2.2.2.2.2.1 h.2.2.2.2.2.2.2.1 h.2.2.2.2.2.2.2.2
theorem anE10 {p0 p1 p2 p3 p4 p5 p6 p7 p8 p9 C : Prop} (h : p0 ∧ p1 ∧ p2 ∧ p3 ∧ p4 ∧ p5 ∧ p6 ∧ p7 ∧ p8 ∧ p9) (k : p0 → p1 → p2 → p3 → p4 → p5 → p6 → p7 → p8 → p9 → C) : C := k h.1 h.2.1 h.2.2.1 h.2.2.2.1 h.2.2.2.2.1 h.2.2.2.2.2.1 h.2.2.2.2.2.2.1 h.2.2.2.2.2.2.2.1 h.2.2.2.2.2.2.2.2.1 h.2.2.2.2.2.2.2.2.2
theorem anE11 {p0 p1 p2 p3 p4 p5 p6 p7 p8 p9 p10 C : Prop} (h : p0 ∧ p1 ∧ p2 ∧ p3 ∧ p4 ∧ p5 ∧ p6 ∧ p7 ∧ p8 ∧ p9 ∧ p10) (k : p0 → p1 → p2 → p3 → p4 → p5 → p6 → p7 → p8 → p9 → p10 → C) : C := k h.1 h.2.1 h.2.2.1 h.2.2.2.1 h.2.2.2.2.1 h.2.2.2.2.2.1 h.2.2.2.2.2.2.1 h.2.2.2.2.2.2.2.1 h.2.2.2.2.2.2.2.2.1 h.2.2.2.2.2.2.2.2.2.1 h.2.2.2.2.2.2.2.2.2.2
theorem anE12 {p0 p1 p2 p3 p4 p5 p6 p7 p8 p9 p10 p11 C : Prop} (h : p0 ∧ p1 ∧ p2 ∧ p3 ∧ p4 ∧ p5 ∧ p6 ∧ p7 ∧ p8 ∧ p9 ∧ p10 ∧ p11) (k : p0 → p1 → p2 → p3 → p4 → p5 → p6 → p7 → p8 → p9 → p10 → p11 → C) : C := k h.1 h.2.1 h.2.2.1 h.2.2.2.1 h.2.2.2.2.1 h.2.2.2.2.2.1 h.2.2.2.2.2.2.1 h.2.2.2.2.2.2.2.1 h.2.2.2.2.2.2.2.2.1 h.2.2.2.2.2.2.2.2.2.1 h.2.2.2.2.2.2.2.2.2.2.1 h.2.2.2.2.2.2.2.2.2.2.2
theorem anE14 {p0 p1 p2 p3 p4 p5 p6 p7 p8 p9 p10 p11 p12 p13 C : Prop} (h : p0 ∧ p1 ∧ p2 ∧ p3 ∧ p4 ∧ p5 ∧ p6 ∧ p7 ∧ p8 ∧ p9 ∧ p10 ∧ p11 ∧ p12 ∧ p13) (k : p0 → p1 → p2 → p3 → p4 → p5 → p6 → p7 → p8 → p9 → p10 → p11 → p12 → p13 → C) : C := k h.1 h.2.1 h.2.2.1 h.2.2.2.1 h.2.2.2.2.1 h.2.2.2.2.2.1 h.2.2.2.2.2.2.1 h.2.2.2.2.2.2.2.1 h.2.2.2.2.2.2.2.2.1 h.2.2.2.2.2.2.2.2.2.1 h.2.2.2.2.2.2.2.2.2.2.1 h.2.2.2.2.2.2.2.2.2.2.2.1 h.2.2.2.2.2.2.2.2.2.2.2.2.1 h.2.2.2.2.2.2.2.2.2.2.2.2.2
theorem all2 {α : Type _} {P : α → Prop} {a0 a1 : α} (h0 : P a0) (h1 : P a1) : ∀ x ∈ [a0, a1], P x := List.forall_mem_cons.mpr ⟨h0, List.forall_mem_cons.mpr ⟨h1, List.forall_mem_nil _⟩⟩
theorem all3 {α : Type _} {P : α → Prop} {a0 a1 a2 : α} (h0 : P a0) (h1 : P a1) (h2 : P a2) : ∀ x ∈ [a0, a1, a2], P x := List.forall_mem_cons.mpr ⟨h0, List.forall_mem_cons.mpr ⟨h1, List.forall_mem_cons.mpr ⟨h2, List.forall_mem_nil _⟩⟩⟩
theorem all4 {α : Type _} {P : α → Prop} {a0 a1 a2 a3 : α} (h0 : P a0) (h1 : P a1) (h2 : P a2) (h3 : P a3) : ∀ x ∈ [a0, a1, a2, a3], P x := List.forall_mem_cons.mpr ⟨h0, List.forall_mem_cons.mpr ⟨h1, List.forall_mem_cons.mpr ⟨h2, List.forall_mem_cons.mpr ⟨h3, List.forall_mem_nil _⟩⟩⟩⟩
theorem all5 {α : Type _} {P : α → Prop} {a0 a1 a2 a3 a4 : α} (h0 : P a0) (h1 : P a1) (h2 : P a2) (h3 : P a3) (h4 : P a4) : ∀ x ∈ [a0, a1, a2, a3, a4], P x := List.forall_mem_cons.mpr ⟨h0, List.forall_mem_cons.mpr ⟨h1, List.forall_mem_cons.mpr ⟨h2, List.forall_mem_cons.mpr ⟨h3, List.forall_mem_cons.mpr ⟨h4, List.forall_mem_nil _⟩⟩⟩⟩⟩
theorem all7 {α : Type _} {P : α → Prop} {a0 a1 a2 a3 a4 a5 a6 : α} (h0 : P a0) (h1 : P a1) (h2 : P a2) (h3 : P a3) (h4 : P a4) (h5 : P a5) (h6 : P a6) : ∀ x ∈ [a0, a1, a2, a3, a4, a5, a6], P x := List.forall_mem_cons.mpr ⟨h0, List.forall_mem_cons.mpr ⟨h1, List.forall_mem_cons.mpr ⟨h2, List.forall_mem_cons.mpr ⟨h3, List.forall_mem_cons.mpr ⟨h4, List.forall_mem_cons.mpr ⟨h5, List.forall_mem_cons.mpr ⟨h6, List.forall_mem_nil _⟩⟩⟩⟩⟩⟩⟩

theorem clz {α : Type} {P : α → Prop} (ne : Nonempty α) (h : P (@Classical.epsilon α ne fun x => ¬ P x)) : ∀ x, P x := fun x =>
  Classical.byContradiction fun hx => (Classical.epsilon_spec (p := fun x => ¬ P x) ⟨x, hx⟩ : ¬ P _) h
noncomputable def dW : World := ⟨fun _ _ => 0, { strHash := fun _ => 0, shareClass := fun _ => 0, mergeTok := id, idOf := fun _ => 0, idOfShared := fun _ _ => 0, followText := fun _ => false, idOfImm := fun _ => 0 }⟩

noncomputable def noisy : List String := ["bytearray.__contains__", "bytearray.__mod__", "bytearray.__rmod__", "_struct.pack_into.held", "bytearray.find.held"] ++ Builtin.Bytes.decodersThatHold
noncomputable def calm : Code → Bool
  | .builtin id _ => !noisy.contains id
  | _ => true
noncomputable def Cleanly (l : List (Code × Pos)) : Prop := ∀ x ∈ l, calm x.1 = true
noncomputable def Clean (Γ : PySem.Ctx) : Prop := calm Γ.code = true ∧ Cleanly Γ.below
noncomputable def wpC {α : Type} (M : Model) (A : Around) (t : Sem α) (Q : α → Shared → Prop) (E : Value → Shared → Prop) (s : Shared) : Prop :=
  ∀ Γ p, Γ.In A → Clean Γ → Sem.wp M Γ t (fun a _ s' => Q a s') (fun e _ s' => E e s') p s
noncomputable def codeC (M : Model) (A : Around) (c : Code) (R : Result → Shared → Prop) (s : Shared) : Prop :=
  ∀ Γ p, Γ.code = c → Γ.Below A → Cleanly Γ.below → wpCode M Γ R p s
section
variable {α β : Type} {M : Model} {A : Around} {E : Value → Shared → Prop} {s : Shared}
theorem wpC.of {t : Sem α} {Q : α → Shared → Prop} (h : wpAny M A t Q E s) : wpC M A t Q E s := fun Γ p hΓ _ => h Γ p hΓ
theorem codeC.of {c : Code} {R : Result → Shared → Prop} (h : codeAny M A c R s) : codeC M A c R s := fun Γ p hc hΓ _ => h Γ p hc hΓ
theorem wpC.pure {a : α} {Q : α → Shared → Prop} (h : Q a s) : wpC M A (Pure.pure a) Q E s := .of (wpAny_pure h)
theorem wpC.mono {t : Sem α} {Q Q' : α → Shared → Prop} {E' : Value → Shared → Prop} (h : wpC M A t Q E s) (hQ : ∀ a s, Q a s → Q' a s) (hE : ∀ e s, E e s → E' e s) : wpC M A t Q' E' s :=
  fun Γ p hΓ hC => Sem.wp_mono M Γ t (fun a _ s => hQ a s) (fun e _ s => hE e s) p s (h Γ p hΓ hC)
theorem wpC.bind {m : Sem α} {f : α → Sem β} {Q : β → Shared → Prop} (h : wpC M A m (fun a s' => wpC M A (f a) Q E s') E s) : wpC M A (m >>= f) Q E s := fun Γ p hΓ hC => by
  rw [Sem.wp_bind']
  exact Sem.wp_mono M Γ m (fun a p' s' h' => h' Γ p' hΓ hC) (fun _ _ _ h' => h') p s (h Γ p hΓ hC)
theorem wpC.bindA {m : Sem α} {f : α → Sem β} {Q : β → Shared → Prop} (h : wpAny M A m (fun a s' => wpC M A (f a) Q E s') E s) : wpC M A (m >>= f) Q E s := .bind (.of h)
theorem wpC.holding {vs : List Value} {m : Sem α} {Q : α → Shared → Prop} (h : wpC M A m Q E s) : wpC M A (PySem.holding vs m) Q E s := fun Γ p hΓ hC => by
  rw [Sem.wp_holding]; exact h Γ p hΓ hC
theorem wpC.onRaise {m : Sem α} {k : Value → Sem Unit} {Q : α → Shared → Prop} (h : wpC M A m Q (fun e s' => wpAny M A (k e) (fun _ s'' => E e s'') E s') s) : wpC M A (m.onRaise k) Q E s := fun Γ p hΓ hC => by
  rw [Sem.wp_onRaise]
  exact Sem.wp_mono M Γ m (fun _ _ _ h' => h') (fun e p' s' h' => h' Γ p' hΓ) p s (h Γ p hΓ hC)
theorem wpC.ite {c : Prop} [Decidable c] {a b : Sem α} {Q : α → Shared → Prop} (h : if c then wpC M A a Q E s else wpC M A b Q E s) : wpC M A (if c then a else b) Q E s := by split <;> simp_all
theorem codeC.mono {c : Code} {R R' : Result → Shared → Prop} (h : codeC M A c R s) (hR : ∀ r s, R r s → R' r s) : codeC M A c R' s := fun Γ p hc hΓ hC => wpCode_mono hR (h Γ p hc hΓ hC)
theorem wpC.runValue {c : Code} {Q : Value → Shared → Prop} (hc : codeC M A c (fun r s' => match r with | .ok (.ret v) => Q v s' | .ok _ => False | .error e => E e s') s) : wpC M A (runValue c) Q E s := fun Γ p hΓ hC => by
  rw [Sem.wp_runValue]
  exact hc _ p rfl (hΓ.enter c none p (by intro x; cases x)) fun x hx => by
    rcases List.mem_cons.mp hx with rfl | hx
    · exact hC.1
    · exact hC.2 x hx
theorem wpC.call {f : Value} {pos : List Value} {kw : List (Str × Value)} {Q : Value → Shared → Prop}
    (hc : codeC M A (.call f ⟨pos, kw⟩) (fun r s' => match r with | .ok (.ret v) => Q v s' | .ok _ => False | .error e => E e s') s) : wpC M A (PySem.call f pos kw) Q E s := wpC.runValue hc
theorem codeC.tree {c : Code} {R : Result → Shared → Prop} (hq : calm c = true)
    (h : wpC M (A.under c) (M.den c) (fun fin s' => match fin with | .done f => R (.ok f) s' | .again c' => c'.quiet = true ∧ codeC M A c' R s') (fun e s' => R (.error e) s') s) : codeC M A c R s := fun Γ p hc hΓ hC => by
  rw [wpCode_iff_wp, hc]
  refine Sem.wp_mono M Γ _ (fun fin p' s' h' => ?_) (fun _ _ _ h' => h') p s (h Γ p (hc ▸ hΓ.in) ⟨by rw [hc]; exact hq, hC⟩)
  cases fin with
  | done f => exact h'
  | again c' => exact ⟨h'.1, h'.2 (Γ.goto c') p' rfl (hΓ.goto c') hC⟩
theorem wpC.eq {t t' : Sem α} {Q : α → Shared → Prop} (e : t = t') (h : wpC M A t' Q E s) : wpC M A t Q E s := e ▸ h
theorem wpC.exported {self : Value} {Q : Bool → Shared → Prop} (h : Q false s) : wpC M A (Builtin.Bytes.exported self) Q E s := fun Γ p hΓ hC => by
  unfold Builtin.Bytes.exported
  rw [Sem.wp_bind']
  show Sem.wp M Γ (.stack Sem.pure) _ _ p s
  rw [Sem.wp_stack]
  refine cast (congrArg (fun b => Q b s) (List.any_eq_false.mpr fun x hx => ?_)).symm h
  rw [Bool.not_eq_true]
  have hc : calm x.1 = true := (List.mem_cons.mp hx).elim (fun e => e ▸ hC.1) (hC.2 x)
  clear hx h
  obtain ⟨c, p⟩ := x
  cases c with
  | builtin id args =>
    have hn : noisy.contains id = false := (Bool.not_eq_true' _).mp hc
    have ne : ∀ i, noisy.contains i = true → id ≠ i := fun i hi e => absurd (e ▸ hi) (by rw [hn]; exact Bool.false_ne_true)
    have h6 : Builtin.Bytes.decodersThatHold.contains id = false := by
      unfold noisy at hn
      rw [List.contains_eq_mem, decide_eq_false_iff_not] at hn ⊢
      exact fun h => hn (List.mem_append_right _ h)
    delta Builtin.Bytes.exported.match_1
    delta Builtin.Bytes.exported._sparseCasesOn_1
    dsimp only
    refine @Eq.trans Bool (dite (id = "bytearray.__contains__") _ _) _ _ (dif_neg (ne "bytearray.__contains__" (by decide))) ?_
    refine @Eq.trans Bool (dite (id = "bytearray.__mod__") _ _) _ _ (dif_neg (ne "bytearray.__mod__" (by decide))) ?_
    refine @Eq.trans Bool (dite (id = "bytearray.__rmod__") _ _) _ _ (dif_neg (ne "bytearray.__rmod__" (by decide))) ?_
    refine @Eq.trans Bool (dite (id = "_struct.pack_into.held") _ _) _ _ (dif_neg (ne "_struct.pack_into.held" (by decide))) ?_
    refine @Eq.trans Bool (dite (id = "bytearray.find.held") _ _) _ _ (dif_neg (ne "bytearray.find.held" (by decide))) ?_
    obtain ⟨pos, kw⟩ := args
    cases pos with
    | nil => rfl
    | cons v tl =>
      show (Builtin.Bytes.sameRef v self && Builtin.Bytes.decodersThatHold.contains id) = false
      rw [h6, Bool.and_false]
  | _ => rfl
end

theorem callerClean : Clean (⟨.builtin "claim.caller" {}, none, none, [], none⟩ : PySem.Ctx) := ⟨by decide, fun x hx => by cases hx⟩
theorem ends_C {prog : Program} {w : World} {t : Sem PySem.Fin} {s : Shared} {R : Result → Shared → Prop} (hreg : s.asleep)
    (h : wpC (model prog w) callerA t (fun fin s' => ∃ f, fin = .done f ∧ (R (.ok f) s' ∧ AllBare s'.gens)) (fun e s' => R (.error e) s' ∧ AllBare s'.gens) s) :
    ∃ n r s' s'', runN (denote table) prog w n s ⟨t, .builtin "claim.caller" {}, default, []⟩ = .halted (outcomeOf r) s' ∧
      schedN (denote table) prog w n (.single s ⟨t, .builtin "claim.caller" {}, default, []⟩) = .halted (outcomeOf r) s' ∧ s'.forget = s''.forget ∧ R r s'' := by
  have h1 := h _ default caller_in callerClean
  have h2 : Sem.wp (model prog w) ⟨.builtin "claim.caller" {}, none, none, [], none⟩ t (Sem.finPost (model prog w) ⟨.builtin "claim.caller" {}, none, none, [], none⟩ fun r s' => R r s' ∧ leftWithCleanup s'.gens = false)
      (fun e _ s' => R (.error e) s' ∧ leftWithCleanup s'.gens = false) default s := by
    refine Sem.wp_mono _ _ t (fun fin p' s' q => ?_) (fun e p' s' q => ⟨q.1, leftWithCleanup_false_of_bare q.2⟩) _ _ h1
    obtain ⟨f, rfl, a, b⟩ := q
    exact ⟨a, leftWithCleanup_false_of_bare b⟩
  obtain ⟨n, r, s₁, s₂, hs, hn, hf, hR⟩ := wp_halts_full (M := model prog w) (R := R) hreg h2
  exact ⟨n, r, s₂, s₁, hn, hs, hf, hR⟩
theorem callFrom_C {c : ClaimW} {tree : List Value → Sem PySem.Fin} {w : World} {s : Shared} {free : Addr → Prop} {gens : Prop} {kept : Heap → Prop} (hz : s.asleep) (hgens : s.gens = #[])
    (hspec : ∀ args, c.pre args = true → WData.layableAll args = true → ∀ ord : List DictEntry → List DictEntry, (∀ l, (ord l).Perm l) →
      ∃ vs s₁, layAllW c.records (classAt s.heap) w.params ord args s = some (vs, s₁) ∧
        wpC (model c.prog w) callerA (tree vs) (fun fin s' => ∃ f, fin = .done f ∧ (c.Ends s args vs s₁ (.ok f) s' ∧ s'.os = s.os ∧ AllBare s'.gens ∧ kept s'.heap))
          (fun e s' => c.Ends s args vs s₁ (.error e) s' ∧ s'.os = s.os ∧ AllBare s'.gens ∧ kept s'.heap) s₁) :
    c.CallFrom (fun vs => ⟨tree vs, .builtin "claim.caller" {}, default, []⟩) w free gens kept s := by
  intro args hpre hlay ord hord
  refine exE2 (hspec args hpre hlay ord hord) fun vs s₁ hh => ?_
  have hlaid := hh.1
  have hcode := hh.2
  clear hh
  have hal := layAllW_rest _ _ _ hlaid
  refine exE4 (ends_C (prog := c.prog) (w := w) (t := tree vs) (s := s₁) (R := fun r s' => c.Ends s args vs s₁ r s' ∧ s'.os = s.os ∧ kept s'.heap) (Shared.asleep_of_life hal.2.2.2 hz)
    (hcode.mono (fun fin s' => Exists.imp fun _ => And.imp_right fun x => ⟨⟨x.1, x.2.1, x.2.2.2⟩, x.2.2.1⟩) fun e s' x => ⟨⟨x.1, x.2.1, x.2.2.2⟩, x.2.2.1⟩)) fun k r s' s'' hh => ?_
  refine anE6 hh fun hrun hsched hfo hcase hos hkp => ?_
  clear hh
  obtain ⟨eh, _, _, eo, _⟩ := Shared.forget_eq hfo
  have hcase := hcase.congr eh
  rw [← eh] at hkp
  rw [← eo] at hos
  have hlife : s'.heap.life = s.heap.life := (runN_life _ _ _ hrun).trans hal.2.2.2
  refine exI2 vs s₁ ⟨hlaid, exI3 k _ s' ⟨hsched, ?_, (fun _ i x hx => by rw [hgens] at hx; simp at hx), hkp, by rw [hlife], Shared.rest_eq hos⟩⟩
  exact hcase.imp (Exists.imp fun _ x => ⟨by rw [x.1]; rfl, x.2.1, x.2.2.1, x.2.2.2.1, fun b o y _ => x.2.2.2.2.1 b o y, x.2.2.2.2.2⟩)
    (Exists.imp fun _ => Exists.imp fun _ => Exists.imp fun _ x => ⟨by rw [x.1]; rfl, x.2.1, x.2.2.1, x.2.2.2.1, x.2.2.2.2.1, fun b o y _ => x.2.2.2.2.2 b o y⟩)
noncomputable abbrev WalkC (q : Program) (loose : List Str) (XP : (Str → Option Value) → Heap → Prop) (YP : World → Heap → Prop) (r : RowW) (d : DefRec) (kwd : List (Str × PySem.Expr)) : Prop :=
  ∀ (w : World) (s₀ s₁ : Shared) (mg mb : Str → Option Value), Ground q loose r.records XP w s₀ mg mb s₁.heap → YP w s₁.heap → ∀ (a : Addr) (o : Obj) (pm cd doc dV kV : Value), s₁.heap.get? a = some o →
    o.data = .func { docDef d.name d.params d.body d.scope pm cd doc with defaults := dV, kwdefaults := kV } → s₁.heap.CodeRec cd d.name → Dflts mg s₁.heap d.params kwd dV kV → mg d.name = some (.ref a) → s₁.gens = #[] →
    ∀ (args : List WData) (vals : List Value) (as : List Addr), r.claim.pre args = true → WData.layableAll args = true → ReadsAllW r.records (classAt s₀.heap) s₁.heap vals args as → WellAll w.params s₁.heap vals args → (∀ a ∈ as, (a == sysModules) = false) →
      wpC (model r.prog w) callerA (PySem.call (.ref a) vals) (fun v s' => GoodWG r.claim (classAt s₀.heap) (ExcName.means s₀.heap) args s₁ (.ok (.ret v)) s')
        (fun e s' => GoodWG r.claim (classAt s₀.heap) (ExcName.means s₀.heap) args s₁ (.error e) s') s₁
theorem PySem.W.holds_open {r : OpenRow} {q : Program} {loose : List Str} {Xt : Shared → Bool} {XP : (Str → Option Value) → Heap → Prop} {α : Type} {Yf : Shared → α} {Ya : World → α} {YP : World → Heap → Prop} {d : DefRec} {kwd : List (Str × PySem.Expr)} {N : Nat}
    (left : LeftO r.prog q loose Xt Yf Ya N) (hY : ∀ w s, Yf s = Ya w → YP w s.heap) (hYk : ∀ w h h', YP w h → (∀ b o, h.get? b = some o → h'.get? b = some o) → YP w h')
    (hX : ∀ s, Xt s = true → XP (s.heap.nsMap mainGlobals) s.heap) (hXk : ∀ mg h h', XP mg h → (∀ b o, h.get? b = some o → h'.get? b = some o) → XP mg h')
    (hdef : defOf q r.name = some (d, kwd)) (hp : r.prog.theDef r.name = some (d.params, d.body, d.scope)) (hk : kwWritten? d.params.kwonlyargs d.params.kw_defaults = some kwd) (hRf : ∀ s, Xt s = true → RecFacts r.records s.heap) (hwr : (!r.writes || r.records.isEmpty) = true)
    (k1 : r.wellSaid = true) (ok : (chainsOk q && opensWell r.prog && (frees r.toRowW && r.within.isEmpty)) = true) (hb : r.prog.bare) (hw : r.toRowW.promised)
    (call : WalkC q loose XP YP r.toRowW d kwd) : r.Holds := by
  obtain ⟨ok, k5⟩ := Bool.and_eq_true_iff.mp ok
  obtain ⟨hch, o1⟩ := Bool.and_eq_true_iff.mp ok
  obtain ⟨k5, k6⟩ := Bool.and_eq_true_iff.mp k5
  obtain ⟨hsame, hu, ha, hap, hm⟩ := frees_parts k5
  refine ⟨k1, hw, ⟨hb, o1, by show r.makers.map _ = []; rw [hm]; rfl⟩, hw.witness, fun w => ⟨(left.behind hX hch w).1, fun s' hs' => ?_⟩⟩
  obtain ⟨s₀, hf, hg0, s, hT, hz, hgens, hg, G00, y⟩ := (left.behind (XP := fun mg h => XP mg h ∧ RecFacts r.records h) (fun s hs => ⟨hX s hs, hRf s hs⟩) hch w).2 s' hs'
  have G0 : Ground q loose [] XP w s (s.heap.nsMap mainGlobals) (s.heap.nsMap builtinsNs) s.heap := ⟨G00.T, G00.B, G00.D, G00.TE, G00.TD, G00.W, G00.X.1, G00.cls, G00.has, G00.apart, G00.once, G00.K⟩
  have RF := G00.X.2
  refine ⟨s₀, hf, hg0, s, hT, fun n hn => ?_, RF.1, RF.2.1, ?_⟩
  · obtain rfl : n = r.name := by split at hn <;> simp_all
    exact pinned_of_view hg G0 hdef hp hk
  have hgens : s.gens = #[] := Array.eq_empty_of_size_eq_zero (beq_iff_eq.mp hgens)
  have G : Ground q loose r.records XP w s _ _ s.heap := RF.ground G0
  refine callFrom_C (c := r.toRowW.claim) hz hgens fun args hpre hlay ord hord => ?_
  obtain ⟨⟨vs, s₁⟩, hlaid⟩ := Option.isSome_iff_exists.mp (layAllW_isSome (P := w.params) (ord := ord) G.has args r.args s (pre_splitW hpre).1)
  have keeps := layAllW_keeps _ _ _ hlaid
  have hal := layAllW_rest _ _ _ hlaid
  obtain ⟨as, hrd, hin, hold⟩ := reads_layAllW hord _ _ _ hlaid hlay s₁.heap (fun _ _ e => e)
  have L : Laid r.records w s s₁ args vs as := ⟨⟨ord, hord, hlaid⟩, hrd, hin, hold, keeps, hal.1.trans hgens, hal.2.2.1⟩
  have G₁ := G.keeps hXk keeps
  refine exE6 (G₁.fn hdef) fun a o pm cd doc dV hh => Exists.elim hh fun kV hh => anE5 hh fun h1 h2 h3 h4 h5 => ?_
  have h := call w s s₁ _ _ G₁ (hYk _ _ _ (hY w s y) keeps) a o pm cd doc dV kV h2 h3 h4 h5 (defOf_name hdef ▸ h1) L.gens args vs as hpre hlay L.reads L.well (L.low G.low)
  have hi := ident_freeW hu ha hap
  have hwi : r.toRowW.claim.within = [] := List.isEmpty_iff.mp k6
  refine ⟨vs, s₁, hlaid, ?_⟩
  refine wpC.bindA (wpAny_nsGet (show s₁.heap.Ns mainNs _ from G₁.T.g) ?_)
  rw [h1]
  refine wpC.bind (h.mono (fun v s' g => wpC.pure ⟨_, rfl, ?_⟩) fun e s' g => ?_)
  · have z := g.laid (c := r.toRowW.claim) hsame hwi hi L
    exact ⟨z.1, z.2.1, z.2.2, fun q => ⟨namesKept_of hT hg _ keeps g.2.1.old, noTable hwr q⟩⟩
  · have z := g.laid (c := r.toRowW.claim) hsame hwi hi L
    exact ⟨z.1, z.2.1, z.2.2, fun q => ⟨namesKept_of hT hg _ keeps g.2.1.old, noTable hwr q⟩⟩

noncomputable abbrev tL (l : List Nat) : Str := ⟨⟨l⟩⟩
theorem tE (l : List Char) : Str.ofString (String.ofList l) = tL (l.map Char.toNat) := PySem.W.Fast.ofString_ofList l
noncomputable abbrev tS := Str.ofString
noncomputable def teG : { g : Str → Str → Str → Str → Str → Str → Str → Str → Str → Str → Str → Str → Str → Str → Str → Str → Str → Str → Str → Str → Str → Str → Str → Str → Str → Str → Str → Str → Str → Str → Str → Str → Str → Str → Str → Str → Str → Str → Str → Str → Str → Str → Str → Str → Str → Str → Str → Str → Str → Str → Str → Str → Str → Str → Str → Str → Str → Str → Str → Str → Str → Str → Str → Str → Str → Str → Str → Str → Str → Str → Str → Str → Str → Str → Str → Str → Str → Str → Str → Str → Str → Str → Str → Str → Str → Str → Str → Str → Str → Str → Str → Str → Str → Str → Str → Str → Str → Str → Str → Str → Str → Str → Str → Str → Str → Str → Str → Str → Str → Str → Str → Str → Str → Str → Str → Str → Str → Str → Str → Str → Str → Str → Str → Str → Str → Str → Str → Str → Str → Str → Str → Str → Str → Str → Str → Str → Str → Str → Str → Str → Str → Str → Str → Program // g (tS "_sre") (tS "_wall") (tS "k") (tS "__name__") (tS "cpy313.imaplib") (tS "_quoted") (tS "compile") (tS "_paren_depth") (tS "data") (tS "depth") (tS "sub") (tS "count") (tS "cpy313.colorsys") (tS "ONE_THIRD") (tS "ONE_SIXTH") (tS "TWO_THIRD") (tS "rgb_to_hls") (tS "r") (tS "g") (tS "b") (tS "maxc") (tS "max") (tS "minc") (tS "min") (tS "sumc") (tS "rangec") (tS "l") (tS "s") (tS "rc") (tS "gc") (tS "bc") (tS "h") (tS "hls_to_rgb") (tS "m2") (tS "m1") (tS "_v") (tS "hue") (tS "cpy313.email.header") (tS "EMPTYSTRING") (tS "") (tS "_Accumulator") (tS "list") (tS "__init__") (tS "self") (tS "initial_size") (tS "_initial_size") (tS "super") (tS "__class__") (tS "push") (tS "fws") (tS "string") (tS "append") (tS "pop_from") (tS "i") (tS "pop") (tS "part_count") (tS "__len__") (tS "sum") (tS "len") (tS "part") (tS ".0") (tS "__str__") (tS "join") (tS "reset") (tS "startval") (tS "is_onlyws") (tS "cpy313.wave") (tS "_byteswap") (tS "width") (tS "swapped_data") (tS "bytearray") (tS "range") (tS "j") (tS "bytes") (tS "law_xp0005_01") (tS "_law_figures") (tS "number") (tS " ") (tS "012") (tS "level") (tS "fast") (tS "_law_pile") (tS "head") (tS "pile") (tS "figure") (tS "split") (tS "_law_crease") (tS "ways") (tS "blank") (tS "2") (tS "12") (tS "int") (tS "below") (tS "0") (tS "_law_text") (tS "written") (tS "labels") (tS "text") (tS "enumerate") (tS "pair") (tS "_law_place") (tS "heading") (tS "units") (tS "x") (tS "y") (tS "way") (tS "_law_told") (tS "pot") (tS "spread") (tS "light") (tS "share") (tS "side") (tS "corners") (tS "turn") (tS "rest") (tS "divmod") (tS "one") (tS "other") (tS "_law_read") (tS "spot") (tS "first") (tS "figures") (tS "law") (tS "script") (tS "cells") (tS "start") (tS "sent") (tS "dark") (tS "paints") (tS "third") (tS "white") (tS "str") (tS "row") (tS "step") (tS "due") (tS "had") (tS "more") (tS "zip") (tS "crease") (tS "back") (tS "again") (tS "octet") (tS "/claim/cut.py") = PySem.Challenge.pw_xp0005_01 } := by
  dsimp only [tS]
  apply Subtype.mk
  show ?l = ?r
  obtain h : ?l = ?r := by
    delta PySem.Challenge.pw_xp0005_01
    iterate 143 (generalize Str.ofString _ = x)
    exact rfl
  exact @rfl Program PySem.Challenge.pw_xp0005_01
noncomputable def teP.tw15555045856067036995 : Program := teG.1 (tL [95, 115, 114, 101]) (tL [95, 119, 97, 108, 108]) (tL [107]) (tL [95, 95, 110, 97, 109, 101, 95, 95]) (tL [99, 112, 121, 51, 49, 51, 46, 105, 109, 97, 112, 108, 105, 98]) (tL [95, 113, 117, 111, 116, 101, 100]) (tL [99, 111, 109, 112, 105, 108, 101]) (tL [95, 112, 97, 114, 101, 110, 95, 100, 101, 112, 116, 104]) (tL [100, 97, 116, 97]) (tL [100, 101, 112, 116, 104]) (tL [115, 117, 98]) (tL [99, 111, 117, 110, 116]) (tL [99, 112, 121, 51, 49, 51, 46, 99, 111, 108, 111, 114, 115, 121, 115]) (tL [79, 78, 69, 95, 84, 72, 73, 82, 68]) (tL [79, 78, 69, 95, 83, 73, 88, 84, 72]) (tL [84, 87, 79, 95, 84, 72, 73, 82, 68]) (tL [114, 103, 98, 95, 116, 111, 95, 104, 108, 115]) (tL [114]) (tL [103]) (tL [98]) (tL [109, 97, 120, 99]) (tL [109, 97, 120]) (tL [109, 105, 110, 99]) (tL [109, 105, 110]) (tL [115, 117, 109, 99]) (tL [114, 97, 110, 103, 101, 99]) (tL [108]) (tL [115]) (tL [114, 99]) (tL [103, 99]) (tL [98, 99]) (tL [104]) (tL [104, 108, 115, 95, 116, 111, 95, 114, 103, 98]) (tL [109, 50]) (tL [109, 49]) (tL [95, 118]) (tL [104, 117, 101]) (tL [99, 112, 121, 51, 49, 51, 46, 101, 109, 97, 105, 108, 46, 104, 101, 97, 100, 101, 114]) (tL [69, 77, 80, 84, 89, 83, 84, 82, 73, 78, 71]) (tL []) (tL [95, 65, 99, 99, 117, 109, 117, 108, 97, 116, 111, 114]) (tL [108, 105, 115, 116]) (tL [95, 95, 105, 110, 105, 116, 95, 95]) (tL [115, 101, 108, 102]) (tL [105, 110, 105, 116, 105, 97, 108, 95, 115, 105, 122, 101]) (tL [95, 105, 110, 105, 116, 105, 97, 108, 95, 115, 105, 122, 101]) (tL [115, 117, 112, 101, 114]) (tL [95, 95, 99, 108, 97, 115, 115, 95, 95]) (tL [112, 117, 115, 104]) (tL [102, 119, 115]) (tL [115, 116, 114, 105, 110, 103]) (tL [97, 112, 112, 101, 110, 100]) (tL [112, 111, 112, 95, 102, 114, 111, 109]) (tL [105]) (tL [112, 111, 112]) (tL [112, 97, 114, 116, 95, 99, 111, 117, 110, 116]) (tL [95, 95, 108, 101, 110, 95, 95]) (tL [115, 117, 109]) (tL [108, 101, 110]) (tL [112, 97, 114, 116]) (tL [46, 48]) (tL [95, 95, 115, 116, 114, 95, 95]) (tL [106, 111, 105, 110]) (tL [114, 101, 115, 101, 116]) (tL [115, 116, 97, 114, 116, 118, 97, 108]) (tL [105, 115, 95, 111, 110, 108, 121, 119, 115]) (tL [99, 112, 121, 51, 49, 51, 46, 119, 97, 118, 101]) (tL [95, 98, 121, 116, 101, 115, 119, 97, 112]) (tL [119, 105, 100, 116, 104]) (tL [115, 119, 97, 112, 112, 101, 100, 95, 100, 97, 116, 97]) (tL [98, 121, 116, 101, 97, 114, 114, 97, 121]) (tL [114, 97, 110, 103, 101]) (tL [106]) (tL [98, 121, 116, 101, 115]) (tL [108, 97, 119, 95, 120, 112, 48, 48, 48, 53, 95, 48, 49]) (tL [95, 108, 97, 119, 95, 102, 105, 103, 117, 114, 101, 115]) (tL [110, 117, 109, 98, 101, 114]) (tL [32]) (tL [48, 49, 50]) (tL [108, 101, 118, 101, 108]) (tL [102, 97, 115, 116]) (tL [95, 108, 97, 119, 95, 112, 105, 108, 101]) (tL [104, 101, 97, 100]) (tL [112, 105, 108, 101]) (tL [102, 105, 103, 117, 114, 101]) (tL [115, 112, 108, 105, 116]) (tL [95, 108, 97, 119, 95, 99, 114, 101, 97, 115, 101]) (tL [119, 97, 121, 115]) (tL [98, 108, 97, 110, 107]) (tL [50]) (tL [49, 50]) (tL [105, 110, 116]) (tL [98, 101, 108, 111, 119]) (tL [48]) (tL [95, 108, 97, 119, 95, 116, 101, 120, 116]) (tL [119, 114, 105, 116, 116, 101, 110]) (tL [108, 97, 98, 101, 108, 115]) (tL [116, 101, 120, 116]) (tL [101, 110, 117, 109, 101, 114, 97, 116, 101]) (tL [112, 97, 105, 114]) (tL [95, 108, 97, 119, 95, 112, 108, 97, 99, 101]) (tL [104, 101, 97, 100, 105, 110, 103]) (tL [117, 110, 105, 116, 115]) (tL [120]) (tL [121]) (tL [119, 97, 121]) (tL [95, 108, 97, 119, 95, 116, 111, 108, 100]) (tL [112, 111, 116]) (tL [115, 112, 114, 101, 97, 100]) (tL [108, 105, 103, 104, 116]) (tL [115, 104, 97, 114, 101]) (tL [115, 105, 100, 101]) (tL [99, 111, 114, 110, 101, 114, 115]) (tL [116, 117, 114, 110]) (tL [114, 101, 115, 116]) (tL [100, 105, 118, 109, 111, 100]) (tL [111, 110, 101]) (tL [111, 116, 104, 101, 114]) (tL [95, 108, 97, 119, 95, 114, 101, 97, 100]) (tL [115, 112, 111, 116]) (tL [102, 105, 114, 115, 116]) (tL [102, 105, 103, 117, 114, 101, 115]) (tL [108, 97, 119]) (tL [115, 99, 114, 105, 112, 116]) (tL [99, 101, 108, 108, 115]) (tL [115, 116, 97, 114, 116]) (tL [115, 101, 110, 116]) (tL [100, 97, 114, 107]) (tL [112, 97, 105, 110, 116, 115]) (tL [116, 104, 105, 114, 100]) (tL [119, 104, 105, 116, 101]) (tL [115, 116, 114]) (tL [114, 111, 119]) (tL [115, 116, 101, 112]) (tL [100, 117, 101]) (tL [104, 97, 100]) (tL [109, 111, 114, 101]) (tL [122, 105, 112]) (tL [99, 114, 101, 97, 115, 101]) (tL [98, 97, 99, 107]) (tL [97, 103, 97, 105, 110]) (tL [111, 99, 116, 101, 116]) (tL [47, 99, 108, 97, 105, 109, 47, 99, 117, 116, 46, 112, 121])
theorem tA0 : tS "_sre" = tL [95, 115, 114, 101] := tE ['_', 's', 'r', 'e']
theorem tA1 : tS "_wall" = tL [95, 119, 97, 108, 108] := tE ['_', 'w', 'a', 'l', 'l']
theorem tA2 : tS "k" = tL [107] := tE ['k']
theorem tA3 : tS "__name__" = tL [95, 95, 110, 97, 109, 101, 95, 95] := tE ['_', '_', 'n', 'a', 'm', 'e', '_', '_']
theorem tA4 : tS "cpy313.imaplib" = tL [99, 112, 121, 51, 49, 51, 46, 105, 109, 97, 112, 108, 105, 98] := tE ['c', 'p', 'y', '3', '1', '3', '.', 'i', 'm', 'a', 'p', 'l', 'i', 'b']
theorem tA5 : tS "_quoted" = tL [95, 113, 117, 111, 116, 101, 100] := tE ['_', 'q', 'u', 'o', 't', 'e', 'd']
theorem tA6 : tS "compile" = tL [99, 111, 109, 112, 105, 108, 101] := tE ['c', 'o', 'm', 'p', 'i', 'l', 'e']
theorem tA7 : tS "_paren_depth" = tL [95, 112, 97, 114, 101, 110, 95, 100, 101, 112, 116, 104] := tE ['_', 'p', 'a', 'r', 'e', 'n', '_', 'd', 'e', 'p', 't', 'h']
theorem tA8 : tS "data" = tL [100, 97, 116, 97] := tE ['d', 'a', 't', 'a']
theorem tA9 : tS "depth" = tL [100, 101, 112, 116, 104] := tE ['d', 'e', 'p', 't', 'h']
theorem tA10 : tS "sub" = tL [115, 117, 98] := tE ['s', 'u', 'b']
theorem tA11 : tS "count" = tL [99, 111, 117, 110, 116] := tE ['c', 'o', 'u', 'n', 't']
theorem tA12 : tS "cpy313.colorsys" = tL [99, 112, 121, 51, 49, 51, 46, 99, 111, 108, 111, 114, 115, 121, 115] := tE ['c', 'p', 'y', '3', '1', '3', '.', 'c', 'o', 'l', 'o', 'r', 's', 'y', 's']
theorem tA13 : tS "ONE_THIRD" = tL [79, 78, 69, 95, 84, 72, 73, 82, 68] := tE ['O', 'N', 'E', '_', 'T', 'H', 'I', 'R', 'D']
theorem tA14 : tS "ONE_SIXTH" = tL [79, 78, 69, 95, 83, 73, 88, 84, 72] := tE ['O', 'N', 'E', '_', 'S', 'I', 'X', 'T', 'H']
theorem tA15 : tS "TWO_THIRD" = tL [84, 87, 79, 95, 84, 72, 73, 82, 68] := tE ['T', 'W', 'O', '_', 'T', 'H', 'I', 'R', 'D']
theorem tA16 : tS "rgb_to_hls" = tL [114, 103, 98, 95, 116, 111, 95, 104, 108, 115] := tE ['r', 'g', 'b', '_', 't', 'o', '_', 'h', 'l', 's']
theorem tA17 : tS "r" = tL [114] := tE ['r']
theorem tA18 : tS "g" = tL [103] := tE ['g']
theorem tA19 : tS "b" = tL [98] := tE ['b']
theorem tA20 : tS "maxc" = tL [109, 97, 120, 99] := tE ['m', 'a', 'x', 'c']
theorem tA21 : tS "max" = tL [109, 97, 120] := tE ['m', 'a', 'x']
theorem tA22 : tS "minc" = tL [109, 105, 110, 99] := tE ['m', 'i', 'n', 'c']
theorem tA23 : tS "min" = tL [109, 105, 110] := tE ['m', 'i', 'n']
theorem tA24 : tS "sumc" = tL [115, 117, 109, 99] := tE ['s', 'u', 'm', 'c']
theorem tA25 : tS "rangec" = tL [114, 97, 110, 103, 101, 99] := tE ['r', 'a', 'n', 'g', 'e', 'c']
theorem tA26 : tS "l" = tL [108] := tE ['l']
theorem tA27 : tS "s" = tL [115] := tE ['s']
theorem tA28 : tS "rc" = tL [114, 99] := tE ['r', 'c']
theorem tA29 : tS "gc" = tL [103, 99] := tE ['g', 'c']
theorem tA30 : tS "bc" = tL [98, 99] := tE ['b', 'c']
theorem tA31 : tS "h" = tL [104] := tE ['h']
theorem tA32 : tS "hls_to_rgb" = tL [104, 108, 115, 95, 116, 111, 95, 114, 103, 98] := tE ['h', 'l', 's', '_', 't', 'o', '_', 'r', 'g', 'b']
theorem tA33 : tS "m2" = tL [109, 50] := tE ['m', '2']
theorem tA34 : tS "m1" = tL [109, 49] := tE ['m', '1']
theorem tA35 : tS "_v" = tL [95, 118] := tE ['_', 'v']
theorem tA36 : tS "hue" = tL [104, 117, 101] := tE ['h', 'u', 'e']
theorem tA37 : tS "cpy313.email.header" = tL [99, 112, 121, 51, 49, 51, 46, 101, 109, 97, 105, 108, 46, 104, 101, 97, 100, 101, 114] := tE ['c', 'p', 'y', '3', '1', '3', '.', 'e', 'm', 'a', 'i', 'l', '.', 'h', 'e', 'a', 'd', 'e', 'r']
theorem tA38 : tS "EMPTYSTRING" = tL [69, 77, 80, 84, 89, 83, 84, 82, 73, 78, 71] := tE ['E', 'M', 'P', 'T', 'Y', 'S', 'T', 'R', 'I', 'N', 'G']
theorem tA39 : tS "" = tL [] := tE []
theorem tA40 : tS "_Accumulator" = tL [95, 65, 99, 99, 117, 109, 117, 108, 97, 116, 111, 114] := tE ['_', 'A', 'c', 'c', 'u', 'm', 'u', 'l', 'a', 't', 'o', 'r']
theorem tA41 : tS "list" = tL [108, 105, 115, 116] := tE ['l', 'i', 's', 't']
theorem tA42 : tS "__init__" = tL [95, 95, 105, 110, 105, 116, 95, 95] := tE ['_', '_', 'i', 'n', 'i', 't', '_', '_']
theorem tA43 : tS "self" = tL [115, 101, 108, 102] := tE ['s', 'e', 'l', 'f']
theorem tA44 : tS "initial_size" = tL [105, 110, 105, 116, 105, 97, 108, 95, 115, 105, 122, 101] := tE ['i', 'n', 'i', 't', 'i', 'a', 'l', '_', 's', 'i', 'z', 'e']
theorem tA45 : tS "_initial_size" = tL [95, 105, 110, 105, 116, 105, 97, 108, 95, 115, 105, 122, 101] := tE ['_', 'i', 'n', 'i', 't', 'i', 'a', 'l', '_', 's', 'i', 'z', 'e']
theorem tA46 : tS "super" = tL [115, 117, 112, 101, 114] := tE ['s', 'u', 'p', 'e', 'r']
theorem tA47 : tS "__class__" = tL [95, 95, 99, 108, 97, 115, 115, 95, 95] := tE ['_', '_', 'c', 'l', 'a', 's', 's', '_', '_']
theorem tA48 : tS "push" = tL [112, 117, 115, 104] := tE ['p', 'u', 's', 'h']
theorem tA49 : tS "fws" = tL [102, 119, 115] := tE ['f', 'w', 's']
theorem tA50 : tS "string" = tL [115, 116, 114, 105, 110, 103] := tE ['s', 't', 'r', 'i', 'n', 'g']
theorem tA51 : tS "append" = tL [97, 112, 112, 101, 110, 100] := tE ['a', 'p', 'p', 'e', 'n', 'd']
theorem tA52 : tS "pop_from" = tL [112, 111, 112, 95, 102, 114, 111, 109] := tE ['p', 'o', 'p', '_', 'f', 'r', 'o', 'm']
theorem tA53 : tS "i" = tL [105] := tE ['i']
theorem tA54 : tS "pop" = tL [112, 111, 112] := tE ['p', 'o', 'p']
theorem tA55 : tS "part_count" = tL [112, 97, 114, 116, 95, 99, 111, 117, 110, 116] := tE ['p', 'a', 'r', 't', '_', 'c', 'o', 'u', 'n', 't']
theorem tA56 : tS "__len__" = tL [95, 95, 108, 101, 110, 95, 95] := tE ['_', '_', 'l', 'e', 'n', '_', '_']
theorem tA57 : tS "sum" = tL [115, 117, 109] := tE ['s', 'u', 'm']
theorem tA58 : tS "len" = tL [108, 101, 110] := tE ['l', 'e', 'n']
theorem tA59 : tS "part" = tL [112, 97, 114, 116] := tE ['p', 'a', 'r', 't']
theorem tA60 : tS ".0" = tL [46, 48] := tE ['.', '0']
theorem tA61 : tS "__str__" = tL [95, 95, 115, 116, 114, 95, 95] := tE ['_', '_', 's', 't', 'r', '_', '_']
theorem tA62 : tS "join" = tL [106, 111, 105, 110] := tE ['j', 'o', 'i', 'n']
theorem tA63 : tS "reset" = tL [114, 101, 115, 101, 116] := tE ['r', 'e', 's', 'e', 't']
theorem tA64 : tS "startval" = tL [115, 116, 97, 114, 116, 118, 97, 108] := tE ['s', 't', 'a', 'r', 't', 'v', 'a', 'l']
theorem tA65 : tS "is_onlyws" = tL [105, 115, 95, 111, 110, 108, 121, 119, 115] := tE ['i', 's', '_', 'o', 'n', 'l', 'y', 'w', 's']
theorem tA66 : tS "cpy313.wave" = tL [99, 112, 121, 51, 49, 51, 46, 119, 97, 118, 101] := tE ['c', 'p', 'y', '3', '1', '3', '.', 'w', 'a', 'v', 'e']
theorem tA67 : tS "_byteswap" = tL [95, 98, 121, 116, 101, 115, 119, 97, 112] := tE ['_', 'b', 'y', 't', 'e', 's', 'w', 'a', 'p']
theorem tA68 : tS "width" = tL [119, 105, 100, 116, 104] := tE ['w', 'i', 'd', 't', 'h']
theorem tA69 : tS "swapped_data" = tL [115, 119, 97, 112, 112, 101, 100, 95, 100, 97, 116, 97] := tE ['s', 'w', 'a', 'p', 'p', 'e', 'd', '_', 'd', 'a', 't', 'a']
theorem tA70 : tS "bytearray" = tL [98, 121, 116, 101, 97, 114, 114, 97, 121] := tE ['b', 'y', 't', 'e', 'a', 'r', 'r', 'a', 'y']
theorem tA71 : tS "range" = tL [114, 97, 110, 103, 101] := tE ['r', 'a', 'n', 'g', 'e']
theorem tA72 : tS "j" = tL [106] := tE ['j']
theorem tA73 : tS "bytes" = tL [98, 121, 116, 101, 115] := tE ['b', 'y', 't', 'e', 's']
theorem tA74 : tS "law_xp0005_01" = tL [108, 97, 119, 95, 120, 112, 48, 48, 48, 53, 95, 48, 49] := tE ['l', 'a', 'w', '_', 'x', 'p', '0', '0', '0', '5', '_', '0', '1']
theorem tA75 : tS "_law_figures" = tL [95, 108, 97, 119, 95, 102, 105, 103, 117, 114, 101, 115] := tE ['_', 'l', 'a', 'w', '_', 'f', 'i', 'g', 'u', 'r', 'e', 's']
theorem tA76 : tS "number" = tL [110, 117, 109, 98, 101, 114] := tE ['n', 'u', 'm', 'b', 'e', 'r']
theorem tA77 : tS " " = tL [32] := tE [' ']
theorem tA78 : tS "012" = tL [48, 49, 50] := tE ['0', '1', '2']
theorem tA79 : tS "level" = tL [108, 101, 118, 101, 108] := tE ['l', 'e', 'v', 'e', 'l']
theorem tA80 : tS "fast" = tL [102, 97, 115, 116] := tE ['f', 'a', 's', 't']
theorem tA81 : tS "_law_pile" = tL [95, 108, 97, 119, 95, 112, 105, 108, 101] := tE ['_', 'l', 'a', 'w', '_', 'p', 'i', 'l', 'e']
theorem tA82 : tS "head" = tL [104, 101, 97, 100] := tE ['h', 'e', 'a', 'd']
theorem tA83 : tS "pile" = tL [112, 105, 108, 101] := tE ['p', 'i', 'l', 'e']
theorem tA84 : tS "figure" = tL [102, 105, 103, 117, 114, 101] := tE ['f', 'i', 'g', 'u', 'r', 'e']
theorem tA85 : tS "split" = tL [115, 112, 108, 105, 116] := tE ['s', 'p', 'l', 'i', 't']
theorem tA86 : tS "_law_crease" = tL [95, 108, 97, 119, 95, 99, 114, 101, 97, 115, 101] := tE ['_', 'l', 'a', 'w', '_', 'c', 'r', 'e', 'a', 's', 'e']
theorem tA87 : tS "ways" = tL [119, 97, 121, 115] := tE ['w', 'a', 'y', 's']
theorem tA88 : tS "blank" = tL [98, 108, 97, 110, 107] := tE ['b', 'l', 'a', 'n', 'k']
theorem tA89 : tS "2" = tL [50] := tE ['2']
theorem tA90 : tS "12" = tL [49, 50] := tE ['1', '2']
theorem tA91 : tS "int" = tL [105, 110, 116] := tE ['i', 'n', 't']
theorem tA92 : tS "below" = tL [98, 101, 108, 111, 119] := tE ['b', 'e', 'l', 'o', 'w']
theorem tA93 : tS "0" = tL [48] := tE ['0']
theorem tA94 : tS "_law_text" = tL [95, 108, 97, 119, 95, 116, 101, 120, 116] := tE ['_', 'l', 'a', 'w', '_', 't', 'e', 'x', 't']
theorem tA95 : tS "written" = tL [119, 114, 105, 116, 116, 101, 110] := tE ['w', 'r', 'i', 't', 't', 'e', 'n']
theorem tA96 : tS "labels" = tL [108, 97, 98, 101, 108, 115] := tE ['l', 'a', 'b', 'e', 'l', 's']
theorem tA97 : tS "text" = tL [116, 101, 120, 116] := tE ['t', 'e', 'x', 't']
theorem tA98 : tS "enumerate" = tL [101, 110, 117, 109, 101, 114, 97, 116, 101] := tE ['e', 'n', 'u', 'm', 'e', 'r', 'a', 't', 'e']
theorem tA99 : tS "pair" = tL [112, 97, 105, 114] := tE ['p', 'a', 'i', 'r']
theorem tA100 : tS "_law_place" = tL [95, 108, 97, 119, 95, 112, 108, 97, 99, 101] := tE ['_', 'l', 'a', 'w', '_', 'p', 'l', 'a', 'c', 'e']
theorem tA101 : tS "heading" = tL [104, 101, 97, 100, 105, 110, 103] := tE ['h', 'e', 'a', 'd', 'i', 'n', 'g']
theorem tA102 : tS "units" = tL [117, 110, 105, 116, 115] := tE ['u', 'n', 'i', 't', 's']
theorem tA103 : tS "x" = tL [120] := tE ['x']
theorem tA104 : tS "y" = tL [121] := tE ['y']
theorem tA105 : tS "way" = tL [119, 97, 121] := tE ['w', 'a', 'y']
theorem tA106 : tS "_law_told" = tL [95, 108, 97, 119, 95, 116, 111, 108, 100] := tE ['_', 'l', 'a', 'w', '_', 't', 'o', 'l', 'd']
theorem tA107 : tS "pot" = tL [112, 111, 116] := tE ['p', 'o', 't']
theorem tA108 : tS "spread" = tL [115, 112, 114, 101, 97, 100] := tE ['s', 'p', 'r', 'e', 'a', 'd']
theorem tA109 : tS "light" = tL [108, 105, 103, 104, 116] := tE ['l', 'i', 'g', 'h', 't']
theorem tA110 : tS "share" = tL [115, 104, 97, 114, 101] := tE ['s', 'h', 'a', 'r', 'e']
theorem tA111 : tS "side" = tL [115, 105, 100, 101] := tE ['s', 'i', 'd', 'e']
theorem tA112 : tS "corners" = tL [99, 111, 114, 110, 101, 114, 115] := tE ['c', 'o', 'r', 'n', 'e', 'r', 's']
theorem tA113 : tS "turn" = tL [116, 117, 114, 110] := tE ['t', 'u', 'r', 'n']
theorem tA114 : tS "rest" = tL [114, 101, 115, 116] := tE ['r', 'e', 's', 't']
theorem tA115 : tS "divmod" = tL [100, 105, 118, 109, 111, 100] := tE ['d', 'i', 'v', 'm', 'o', 'd']
theorem tA116 : tS "one" = tL [111, 110, 101] := tE ['o', 'n', 'e']
theorem tA117 : tS "other" = tL [111, 116, 104, 101, 114] := tE ['o', 't', 'h', 'e', 'r']
theorem tA118 : tS "_law_read" = tL [95, 108, 97, 119, 95, 114, 101, 97, 100] := tE ['_', 'l', 'a', 'w', '_', 'r', 'e', 'a', 'd']
theorem tA119 : tS "spot" = tL [115, 112, 111, 116] := tE ['s', 'p', 'o', 't']
theorem tA120 : tS "first" = tL [102, 105, 114, 115, 116] := tE ['f', 'i', 'r', 's', 't']
theorem tA121 : tS "figures" = tL [102, 105, 103, 117, 114, 101, 115] := tE ['f', 'i', 'g', 'u', 'r', 'e', 's']
theorem tA122 : tS "law" = tL [108, 97, 119] := tE ['l', 'a', 'w']
theorem tA123 : tS "script" = tL [115, 99, 114, 105, 112, 116] := tE ['s', 'c', 'r', 'i', 'p', 't']
theorem tA124 : tS "cells" = tL [99, 101, 108, 108, 115] := tE ['c', 'e', 'l', 'l', 's']
theorem tA125 : tS "start" = tL [115, 116, 97, 114, 116] := tE ['s', 't', 'a', 'r', 't']
theorem tA126 : tS "sent" = tL [115, 101, 110, 116] := tE ['s', 'e', 'n', 't']
theorem tA127 : tS "dark" = tL [100, 97, 114, 107] := tE ['d', 'a', 'r', 'k']
theorem tA128 : tS "paints" = tL [112, 97, 105, 110, 116, 115] := tE ['p', 'a', 'i', 'n', 't', 's']
theorem tA129 : tS "third" = tL [116, 104, 105, 114, 100] := tE ['t', 'h', 'i', 'r', 'd']
theorem tA130 : tS "white" = tL [119, 104, 105, 116, 101] := tE ['w', 'h', 'i', 't', 'e']
theorem tA131 : tS "str" = tL [115, 116, 114] := tE ['s', 't', 'r']
theorem tA132 : tS "row" = tL [114, 111, 119] := tE ['r', 'o', 'w']
theorem tA133 : tS "step" = tL [115, 116, 101, 112] := tE ['s', 't', 'e', 'p']
theorem tA134 : tS "due" = tL [100, 117, 101] := tE ['d', 'u', 'e']
theorem tA135 : tS "had" = tL [104, 97, 100] := tE ['h', 'a', 'd']
theorem tA136 : tS "more" = tL [109, 111, 114, 101] := tE ['m', 'o', 'r', 'e']
theorem tA137 : tS "zip" = tL [122, 105, 112] := tE ['z', 'i', 'p']
theorem tA138 : tS "crease" = tL [99, 114, 101, 97, 115, 101] := tE ['c', 'r', 'e', 'a', 's', 'e']
theorem tA139 : tS "back" = tL [98, 97, 99, 107] := tE ['b', 'a', 'c', 'k']
theorem tA140 : tS "again" = tL [97, 103, 97, 105, 110] := tE ['a', 'g', 'a', 'i', 'n']
theorem tA141 : tS "octet" = tL [111, 99, 116, 101, 116] := tE ['o', 'c', 't', 'e', 't']
theorem tA142 : tS "/claim/cut.py" = tL [47, 99, 108, 97, 105, 109, 47, 99, 117, 116, 46, 112, 121] := tE ['/', 'c', 'l', 'a', 'i', 'm', '/', 'c', 'u', 't', '.', 'p', 'y']
theorem teP.te15555045856067036995 : PySem.Challenge.pw_xp0005_01 = teP.tw15555045856067036995 := teG.2.symm.trans (congr (congr (congr (congr (congr (congr (congr (congr (congr (congr (congr (congr (congr (congr (congr (congr (congr (congr (congr (congr (congr (congr (congr (congr (congr (congr (congr (congr (congr (congr (congr (congr (congr (congr (congr (congr (congr (congr (congr (congr (congr (congr (congr (congr (congr (congr (congr (congr (congr (congr (congr (congr (congr (congr (congr (congr (congr (congr (congr (congr (congr (congr (congr (congr (congr (congr (congr (congr (congr (congr (congr (congr (congr (congr (congr (congr (congr (congr (congr (congr (congr (congr (congr (congr (congr (congr (congr (congr (congr (congr (congr (congr (congr (congr (congr (congr (congr (congr (congr (congr (congr (congr (congr (congr (congr (congr (congr (congr (congr (congr (congr (congr (congr (congr (congr (congr (congr (congr (congr (congr (congr (congr (congr (congr (congr (congr (congr (congr (congr (congr (congr (congr (congr (congr (congr (congr (congr (congr (congr (congr (congr (congr (congrArg teG.1 tA0) tA1) tA2) tA3) tA4) tA5) tA6) tA7) tA8) tA9) tA10) tA11) tA12) tA13) tA14) tA15) tA16) tA17) tA18) tA19) tA20) tA21) tA22) tA23) tA24) tA25) tA26) tA27) tA28) tA29) tA30) tA31) tA32) tA33) tA34) tA35) tA36) tA37) tA38) tA39) tA40) tA41) tA42) tA43) tA44) tA45) tA46) tA47) tA48) tA49) tA50) tA51) tA52) tA53) tA54) tA55) tA56) tA57) tA58) tA59) tA60) tA61) tA62) tA63) tA64) tA65) tA66) tA67) tA68) tA69) tA70) tA71) tA72) tA73) tA74) tA75) tA76) tA77) tA78) tA79) tA80) tA81) tA82) tA83) tA84) tA85) tA86) tA87) tA88) tA89) tA90) tA91) tA92) tA93) tA94) tA95) tA96) tA97) tA98) tA99) tA100) tA101) tA102) tA103) tA104) tA105) tA106) tA107) tA108) tA109) tA110) tA111) tA112) tA113) tA114) tA115) tA116) tA117) tA118) tA119) tA120) tA121) tA122) tA123) tA124) tA125) tA126) tA127) tA128) tA129) tA130) tA131) tA132) tA133) tA134) tA135) tA136) tA137) tA138) tA139) tA140) tA141) tA142)

section
set_option Elab.async true in
theorem teP : (!PySem.Challenge.pw_xp0005_01.main.body.isEmpty) = true := by k_qdec
local macro_rules | `(tactic| o_head ($_f:ident $K:term $as:term $e:term)) => `(tactic| o_head (kmHook $K $as $e [121, 114]))
open_top hd for PySem.Challenge.rw_xp0005_01
noncomputable abbrev prg : Program := PySem.Challenge.rw_xp0005_01.row.prog
noncomputable def stAll (s : Stmt) : List Stmt × Scope × PySem.Expr × Pos := by
  cases s
  case FunctionDef _ _ b _ _ _ sc _ _ _ => exact (b, sc, default, default)
  case For _ it b _ _ => exact (b, default, it, default)
  case If t b _ p => exact (b, default, t, p)
  all_goals exact ([], default, default, default)
noncomputable abbrev Led := List (Addr × Obj)
noncomputable abbrev loose0 : List Str := [Str.ofString "_quoted", Str.ofString "_paren_depth", Str.ofString "ONE_THIRD", Str.ofString "ONE_SIXTH", Str.ofString "TWO_THIRD", Str.ofString "_Accumulator"]
noncomputable abbrev KH (w : World) : Frag := hd.heap_39 w.params
noncomputable abbrev VW : Program := { hd.view_39 with main := { hd.view_39.main with body := [] } }
noncomputable abbrev LW : List Str := looseW hd.view_39 loose0 ++ ((recsOf hd.view_39).map (·.name) ++ ((litsOf hd.view_39).map (·.1) ++ (clssOf hd.view_39 (looseW hd.view_39 loose0)).map (·.name)))
noncomputable abbrev Mean := ExcName → Option Value
noncomputable abbrev Nm := Str → Option Value
noncomputable abbrev Calls (w : World) (mean : Mean) (mg mb : Nm) (d : Nat) (news : Led) (t : Sem Value) (R : Heap → Addr → Nm → Shared → (Value → Shared → Prop) → Prop) : Prop :=
  ∀ (dp un : Nat) (gd : Option (List Code)) (cn : Str) (cs : Scope) (a : Addr) (ccd : Value) (cl : List (Str × Addr)) (outer : List Env) (A₀ : Around) (base h₀ : Heap) (L : Addr) (m : Str → Option Value) (s : Shared) (Q E : Value → Shared → Prop),
    Below A₀ base outer h₀ → Fr h₀ L s.heap m → (KH w).In h₀ → News h₀ L s.heap news → Top VW LW mean mg mb h₀ → cs.kind = .function →
    dp + d < recursionLimit → un + 8 * d < cLine → R h₀ L m s Q →
      wpAny (model prg w) (ktrTop dp un gd cn cs L a ccd cl outer) t Q E s
noncomputable abbrev Ret (news : Led) (V : Tok → Value) (h₀ : Heap) (L : Addr) (m : Nm) (s : Shared) (Q : Value → Shared → Prop) : Prop :=
  ∀ (t : Tok) (h' : Heap) (tk' : Nat), Fr h₀ L h' m → News h₀ L h' news → Q (V t) { s with heap := h', toks := tk' }
noncomputable abbrev RetNew (news : Led) (O : Obj → Prop) (h₀ : Heap) (L : Addr) (m : Nm) (s : Shared) (Q : Value → Shared → Prop) : Prop :=
  ∀ (T : Addr) (o : Obj) (h' : Heap) (tk' : Nat), Fr h₀ L h' m → News h₀ L h' ((T, o) :: news) → AllLt T news → O o → Q (.ref T) { s with heap := h', toks := tk' }
theorem newsSub {h₀ h : Heap} {L : Addr} {news news' : Led} (N : News h₀ L h news') (hs : ∀ p ∈ news, p ∈ news') : News h₀ L h news := fun p hp => N p (hs p hp)
section
variable {h₀ h' : Heap} {L : Addr} {m : Nm} {news : Led} {s : Shared} {Q : Value → Shared → Prop} {t : Tok} {tk' : Nat}
theorem ret_float {x y : UInt64} (hret : ∀ (t : Tok) (h' : Heap) (tk' : Nat), Fr h₀ L h' m → News h₀ L h' news → Q (.float x t) { s with heap := h', toks := tk' }) (e : y = x) (F : Fr h₀ L h' m) (N : News h₀ L h' news) : Q (.float y t) { s with heap := h', toks := tk' } := by
  subst e
  exact hret t h' tk' F N
theorem ret_int {x y : Int} (hret : ∀ (t : Tok) (h' : Heap) (tk' : Nat), Fr h₀ L h' m → News h₀ L h' news → Q (.int x t) { s with heap := h', toks := tk' }) (e : y = x) (F : Fr h₀ L h' m) (N : News h₀ L h' news) : Q (.int y t) { s with heap := h', toks := tk' } := by
  subst e
  exact hret t h' tk' F N
theorem ret_str {x y : Str} (hret : ∀ (t : Tok) (h' : Heap) (tk' : Nat), Fr h₀ L h' m → News h₀ L h' news → Q (.str x t) { s with heap := h', toks := tk' }) (e : y = x) (F : Fr h₀ L h' m) (N : News h₀ L h' news) : Q (.str y t) { s with heap := h', toks := tk' } := by
  subst e
  exact hret t h' tk' F N
end
section
variable {M : Model} {A : Around} {E : Value → Shared → Prop} {s : Shared} {Q : Unit → Shared → Prop} {h₀ : Heap} {L : Addr} {m : Nm} {news : Led} {x : Str} {cn : Str} {cs : Scope} {a : Addr} {ccd : Value} {cl : List (Str × Addr)} {t : Tok}
theorem storeT_F {v : UInt64} (F : Fr h₀ L s.heap m) (N : News h₀ L s.heap news) (h : ∀ h' t' tk', Fr h₀ L h' (fun y => if y = x then some (.float v t') else m y) → News h₀ L h' news → Q () { s with heap := h', toks := tk' })
    (hk : cs.kind = .function := by rfl) (hx : (envX cn cs L a ccd cl).kindOf x = some .local := by rfl) : wpAny M A (storeName (envX cn cs L a ccd cl) x (.float v t)) Q E s := storeX_L F N (fun h' F' N' => h h' t _ F' N') hk hx
theorem storeT_I {v : Int} (F : Fr h₀ L s.heap m) (N : News h₀ L s.heap news) (h : ∀ h' t' tk', Fr h₀ L h' (fun y => if y = x then some (.int v t') else m y) → News h₀ L h' news → Q () { s with heap := h', toks := tk' })
    (hk : cs.kind = .function := by rfl) (hx : (envX cn cs L a ccd cl).kindOf x = some .local := by rfl) : wpAny M A (storeName (envX cn cs L a ccd cl) x (.int v t)) Q E s := storeX_L F N (fun h' F' N' => h h' t _ F' N') hk hx
theorem storeT_S {v : Str} (F : Fr h₀ L s.heap m) (N : News h₀ L s.heap news) (h : ∀ h' t' tk', Fr h₀ L h' (fun y => if y = x then some (.str v t') else m y) → News h₀ L h' news → Q () { s with heap := h', toks := tk' })
    (hk : cs.kind = .function := by rfl) (hx : (envX cn cs L a ccd cl).kindOf x = some .local := by rfl) : wpAny M A (storeName (envX cn cs L a ccd cl) x (.str v t)) Q E s := storeX_L F N (fun h' F' N' => h h' t _ F' N') hk hx
theorem storeT_B {v : Array UInt8} (F : Fr h₀ L s.heap m) (N : News h₀ L s.heap news) (h : ∀ h' t' tk', Fr h₀ L h' (fun y => if y = x then some (.bytes v t') else m y) → News h₀ L h' news → Q () { s with heap := h', toks := tk' })
    (hk : cs.kind = .function := by rfl) (hx : (envX cn cs L a ccd cl).kindOf x = some .local := by rfl) : wpAny M A (storeName (envX cn cs L a ccd cl) x (.bytes v t)) Q E s := storeX_L F N (fun h' F' N' => h h' t _ F' N') hk hx
end
end

noncomputable def fnBody (i : Nat) : List Stmt := (stAll (prg.main.body.getD i (.Pass default))).1
noncomputable def fnScope (i : Nat) : Scope := (stAll (prg.main.body.getD i (.Pass default))).2.1
noncomputable def forBody (st : Stmt) : List Stmt := (stAll st).1
noncomputable abbrev pu (a : Str) (v : Value) (m : Nm) : Nm := fun y => if y = a then some v else m y
noncomputable abbrev KXC : Type := (Nat) × (Nat) × (Option (List Code)) × (Str) × (Scope) × (Addr) × (Value) × (List (Str × Addr)) × (List Env) × (Around) × (Heap) × (Heap) × (Addr) × (Nm) × (Shared) × (Value → Shared → Prop) × (Value → Shared → Prop)
noncomputable def dKXC : KXC := ((0 : Nat), (0 : Nat), (none : Option (List Code)), (⟨#[]⟩ : Str), (default : Scope), ((0 : Nat) : Addr), (.none : Value), ([] : List (Str × Addr)), ([] : List Env), ({} : Around), (default : Heap), (default : Heap), ((0 : Nat) : Addr), (fun _ => none : Nm), ({} : Shared), (fun _ _ => True : Value → Shared → Prop), (fun _ _ => True : Value → Shared → Prop))
noncomputable abbrev KXF : Type := (Nat) × (Nat) × (Option (List Code)) × (List Env) × (Around) × (Heap) × (Heap) × (Addr) × (Shared) × (Flow → Shared → Prop) × (Value → Shared → Prop)
noncomputable def dKXF : KXF := ((0 : Nat), (0 : Nat), (none : Option (List Code)), ([] : List Env), ({} : Around), (default : Heap), (default : Heap), ((0 : Nat) : Addr), ({} : Shared), (fun _ _ => True : Flow → Shared → Prop), (fun _ _ => True : Value → Shared → Prop))
noncomputable abbrev CallsAt (w : World) (mean : Mean) (mg mb : Nm) (d : Nat) (news : Led) (t : Sem Value) (R : Heap → Addr → Nm → Shared → (Value → Shared → Prop) → Prop)
    (dp un : Nat) (gd : Option (List Code)) (cn : Str) (cs : Scope) (a : Addr) (ccd : Value) (cl : List (Str × Addr)) (outer : List Env) (A₀ : Around) (base h₀ : Heap) (L : Addr) (m : Str → Option Value) (s : Shared) (Q E : Value → Shared → Prop) : Prop :=
    Below A₀ base outer h₀ → Fr h₀ L s.heap m → (KH w).In h₀ → News h₀ L s.heap news → Top VW LW mean mg mb h₀ → cs.kind = .function →
    dp + d < recursionLimit → un + 8 * d < cLine → R h₀ L m s Q →
      wpAny (model prg w) (ktrTop dp un gd cn cs L a ccd cl outer) t Q E s
noncomputable abbrev AtFAt (w : World) (mean : Mean) (mg mb : Nm) (cn : Str) (sc : Scope) (fa : Addr) (cd : Value) (d : Nat) (st : List Stmt) (news : Led) (m : Nm) (R : Heap → Addr → Shared → (Flow → Shared → Prop) → Prop)
    (dp un : Nat) (gd : Option (List Code)) (outer : List Env) (A₀ : Around) (base h₀ : Heap) (L : Addr) (s : Shared) (Q : Flow → Shared → Prop) (E : Value → Shared → Prop) : Prop :=
    Below A₀ base outer h₀ → Fr h₀ L s.heap m → (KH w).In h₀ → News h₀ L s.heap news → Top VW LW mean mg mb h₀ →
    dp + d < recursionLimit → un + 8 * d < cLine → R h₀ L s Q →
      wpAny (model prg w) (ktrTop dp un gd cn sc L fa cd [] outer) (execs st (envX cn sc L fa cd [])) Q E s
noncomputable abbrev AtF (w : World) (mean : Mean) (mg mb : Nm) (cn : Str) (sc : Scope) (fa : Addr) (cd : Value) (d : Nat) (st : List Stmt) (news : Led) (m : Nm) (R : Heap → Addr → Shared → (Flow → Shared → Prop) → Prop) : Prop :=
  ∀ (dp un : Nat) (gd : Option (List Code)) (outer : List Env) (A₀ : Around) (base h₀ : Heap) (L : Addr) (s : Shared) (Q : Flow → Shared → Prop) (E : Value → Shared → Prop),
    Below A₀ base outer h₀ → Fr h₀ L s.heap m → (KH w).In h₀ → News h₀ L s.heap news → Top VW LW mean mg mb h₀ →
    dp + d < recursionLimit → un + 8 * d < cLine → R h₀ L s Q →
      wpAny (model prg w) (ktrTop dp un gd cn sc L fa cd [] outer) (execs st (envX cn sc L fa cd [])) Q E s
theorem frSame {h₀ h : Heap} {L : Addr} {a : Str} {v : Value} {m : Nm} (F : Fr h₀ L h m) (e : m a = some v) : Fr h₀ L h (pu a v m) := by
  have : pu a v m = m := funext fun z => by
    show (if z = a then some v else m z) = m z
    split
    · subst z; exact e.symm
    · rfl
  rw [this]; exact F
theorem pu_ne {a b : Str} {v : Value} {m : Nm} (h : b ≠ a) : pu a v m b = m b := if_neg h
theorem pu_eq {a : Str} {v : Value} {m : Nm} : pu a v m a = some v := if_pos rfl
theorem seqF {prog : Program} {w : World} {A : Around} {E : Value → Shared → Prop} {s : Shared} {env : Env} {st : Stmt} {rest : List Stmt} {Q : Flow → Shared → Prop} (h : wpAny (model prog w) A (execs [st] env) (fun f s' => match f with | .next => wpAny (model prog w) A (execs rest env) Q E s' | f => Q f s') E s) : wpAny (model prog w) A (execs (st :: rest) env) Q E s := fun Γ p hΓ => by
  have h1 := h Γ p hΓ
  rw [execs_cons, Sem.wp_bind'] at h1 ⊢
  refine Sem.wp_mono _ Γ _ (fun f p' s' h' => ?_) (fun _ _ _ h' => h') _ _ h1
  cases f with
  | next => exact h' Γ p' hΓ
  | brk => exact h'
  | cont => exact h'
  | ret v => exact h'

theorem max_three_num {prog : Program} {w : World} {A : Around} {E : Value → Shared → Prop} {s : Shared} {Q : Value → Shared → Prop} {a b c : Value} (hh : A.handled = none) (ha : Flt.NumV a) (hb : Flt.NumV b) (hc : Flt.NumV c)
    (h : ∀ h' tk, (∀ d o, s.heap.get? d = some o → h'.get? d = some o) → Q (if Flt.ltV a b then (if Flt.ltV b c then c else b) else (if Flt.ltV a c then c else a)) { s with heap := h', toks := tk }) :
    wpAny (model prog w) A (call (.builtin "max") [a, b, c]) Q E s := by
  have hT : (s.heap.push { cls := .type "tuple", data := .seq #[a, b, c] }).IsTuple s.heap.objs.size #[a, b, c] := ⟨_, Heap.get?_push_size _ rfl, rfl, 0, rfl⟩
  refine call_max_three (wpAny_pyIter_tuple hT ?_)
  have hsz : (s.heap.push { cls := .type "tuple", data := .seq #[a, b, c] }).objs.size = s.heap.objs.size + 1 := Heap.size_push ..
  refine ⟨_, [_, s.heap.objs.size], [_], _, _, _, _, rfl, Walks.tuple (A := A.in1) hh _ s.heap.objs.size (by rw [hsz]; exact Nat.ne_of_lt (Nat.lt_succ_self _)) #[a, b, c],
    ⟨⟨_, Heap.get?_push_size _ rfl, rfl, rfl⟩, hT.push _⟩, fun d hd => ?_, by simp, Flt.cmpOf_gt #[a, b, c] (by simp [ha, hb, hc]), fun v h' tk hP hk => ?_⟩
  · show d < ((s.heap.push _).push _).objs.size
    rw [Heap.size_push, hsz]
    rcases List.mem_cons.mp hd with rfl | hd
    · rw [hsz]; exact Nat.lt_succ_self _
    · rcases List.mem_cons.mp hd with rfl | hd
      · exact Nat.lt_succ_of_lt (Nat.lt_succ_self _)
      · cases hd
  · have hold : ∀ d o, s.heap.get? d = some o → h'.get? d = some o := fun d o e => by
      refine hk d o (fun hm => ?_) (Heap.get?_push_of_some _ (Heap.get?_push_of_some _ e))
      rcases List.mem_cons.mp hm with e1 | hm
      · have := Heap.lt_size e; rw [e1, hsz] at this; exact Nat.lt_irrefl _ (Nat.lt_of_succ_lt this)
      · cases hm
    have := h h' tk hold
    have hv : v = if Flt.ltV a b then (if Flt.ltV b c then c else b) else (if Flt.ltV a c then c else a) := by
      cases h1 : Flt.ltV a b <;> cases h2 : Flt.ltV b c <;> cases h3 : Flt.ltV a c <;> simp [argBest, h1, h2, h3] at hP <;> simp [hP]
    rw [hv]; exact this
theorem min_three_num {prog : Program} {w : World} {A : Around} {E : Value → Shared → Prop} {s : Shared} {Q : Value → Shared → Prop} {a b c : Value} (hh : A.handled = none) (ha : Flt.NumV a) (hb : Flt.NumV b) (hc : Flt.NumV c)
    (h : ∀ h' tk, (∀ d o, s.heap.get? d = some o → h'.get? d = some o) → Q (if Flt.ltV b a then (if Flt.ltV c b then c else b) else (if Flt.ltV c a then c else a)) { s with heap := h', toks := tk }) :
    wpAny (model prog w) A (call (.builtin "min") [a, b, c]) Q E s := by
  have hT : (s.heap.push { cls := .type "tuple", data := .seq #[a, b, c] }).IsTuple s.heap.objs.size #[a, b, c] := ⟨_, Heap.get?_push_size _ rfl, rfl, 0, rfl⟩
  refine call_min_three (wpAny_pyIter_tuple hT ?_)
  have hsz : (s.heap.push { cls := .type "tuple", data := .seq #[a, b, c] }).objs.size = s.heap.objs.size + 1 := Heap.size_push ..
  refine ⟨_, [_, s.heap.objs.size], [_], _, _, _, _, rfl, Walks.tuple (A := A.in1) hh _ s.heap.objs.size (by rw [hsz]; exact Nat.ne_of_lt (Nat.lt_succ_self _)) #[a, b, c],
    ⟨⟨_, Heap.get?_push_size _ rfl, rfl, rfl⟩, hT.push _⟩, fun d hd => ?_, by simp, Flt.cmpOf_lt #[a, b, c] (by simp [ha, hb, hc]), fun v h' tk hP hk => ?_⟩
  · show d < ((s.heap.push _).push _).objs.size
    rw [Heap.size_push, hsz]
    rcases List.mem_cons.mp hd with rfl | hd
    · rw [hsz]; exact Nat.lt_succ_self _
    · rcases List.mem_cons.mp hd with rfl | hd
      · exact Nat.lt_succ_of_lt (Nat.lt_succ_self _)
      · cases hd
  · have hold : ∀ d o, s.heap.get? d = some o → h'.get? d = some o := fun d o e => by
      refine hk d o (fun hm => ?_) (Heap.get?_push_of_some _ (Heap.get?_push_of_some _ e))
      rcases List.mem_cons.mp hm with e1 | hm
      · have := Heap.lt_size e; rw [e1, hsz] at this; exact Nat.lt_irrefl _ (Nat.lt_of_succ_lt this)
      · cases hm
    have := h h' tk hold
    have hv : v = if Flt.ltV b a then (if Flt.ltV c b then c else b) else (if Flt.ltV c a then c else a) := by
      cases h1 : Flt.ltV b a <;> cases h2 : Flt.ltV c b <;> cases h3 : Flt.ltV c a <;> simp [argBest, h1, h2, h3] at hP <;> simp [hP]
    rw [hv]; exact this
noncomputable def flt (x y : UInt64) : Bool := Float64.cmp x y == some .lt
noncomputable def max3 (x y z : UInt64) : UInt64 := if flt x y then (if flt y z then z else y) else (if flt x z then z else x)
noncomputable def min3 (x y z : UInt64) : UInt64 := if flt y x then (if flt z y then z else y) else (if flt z x then z else x)
theorem max_three_fff {prog : Program} {w : World} {A : Around} {E : Value → Shared → Prop} {s : Shared} {Q : Value → Shared → Prop} {x y z : UInt64} {t u v : Tok} {h₀ : Heap} {L : Addr} {m : Str → Option Value} {news : List (Addr × Obj)}
    (hh : A.handled = none) (F : Fr h₀ L s.heap m) (N : News h₀ L s.heap news)
    (h : ∀ h' tk v, Fr h₀ L h' m → News h₀ L h' news → Q (.float (max3 x y z) v) { s with heap := h', toks := tk }) :
    wpAny (model prog w) A (call (.builtin "max") [.float x t, .float y u, .float z v]) Q E s :=
  max_three_num hh (.float x t) (.float y u) (.float z v) fun h' tk kp => by
    have H := fun v => h h' tk v (F.grownK kp) (N.grown kp)
    have e : ∀ a b (t u : Tok), Flt.ltV (.float a t) (.float b u) = flt a b := fun _ _ _ _ => rfl
    simp only [e, max3] at H ⊢
    cases h1 : flt x y <;> cases h2 : flt y z <;> cases h3 : flt x z <;> simp [h1, h2, h3] at H ⊢ <;> exact H _
theorem min_three_fff {prog : Program} {w : World} {A : Around} {E : Value → Shared → Prop} {s : Shared} {Q : Value → Shared → Prop} {x y z : UInt64} {t u v : Tok} {h₀ : Heap} {L : Addr} {m : Str → Option Value} {news : List (Addr × Obj)}
    (hh : A.handled = none) (F : Fr h₀ L s.heap m) (N : News h₀ L s.heap news)
    (h : ∀ h' tk v, Fr h₀ L h' m → News h₀ L h' news → Q (.float (min3 x y z) v) { s with heap := h', toks := tk }) :
    wpAny (model prog w) A (call (.builtin "min") [.float x t, .float y u, .float z v]) Q E s :=
  min_three_num hh (.float x t) (.float y u) (.float z v) fun h' tk kp => by
    have H := fun v => h h' tk v (F.grownK kp) (N.grown kp)
    have e : ∀ a b (t u : Tok), Flt.ltV (.float a t) (.float b u) = flt a b := fun _ _ _ _ => rfl
    simp only [e, min3] at H ⊢
    cases h1 : flt y x <;> cases h2 : flt z y <;> cases h3 : flt z x <;> simp [h1, h2, h3] at H ⊢ <;> exact H _

theorem fresh_C_flt : True := by
  k_with_none
  w_on
  w_top off
  (k_with "1 my enter" => (refine' code_def ?k1 ?k2 ?k3 ?k4 ?k5 ?kA ?kF ?kK ?k6 ?k7 ?k8 ?k9 ?kB ?_ ?c2 ?c3 ?c4 ?c5; walk_at "ce"; (case k9 => first | exact BindsTo.of_eq rfl | exact binds_K (by k_in) rfl (by k_is) rfl rfl rfl | fail "my enter: no rule for these arguments"); (case c5 => decide); (case kB => exact locs rfl); (case c2 => exact rfl); (case c3 => exact rfl); (case c4 => exact rfl); k_whole; intro g' L' h' FG' F' N' B' X' T'; (try dsimp only); (try k_lift B'); (try k_fold)))
  (k_with "1 my news" => (first | assumption | (refine Mine.newsSub (by assumption) ?_; kcj_all) | (refine Mine.newsSub (by assumption) ?_; intro _ hp; repeat (first | exact hp | refine List.Mem.tail _ ?_))))
  (k_with "1 my order" => (first | assumption | exact allLt_of (by assumption) | (simp only [AllLt, and_self, and_true, true_and, *]; done)))
  (k_with "1 ce" => ((case kA => first | assumption | exact rfl); (case kF => first | assumption | exact rfl); (case kK => first | assumption | exact rfl); (case k1 => k_asm); (case k2 => k_asm); (case k3 => k_asm); (case k4 => k_asm); (case k5 => k_asm); (case k6 => k_is); (case k7 => k_is); (case k8 => first | assumption | ktr_room)))
  (k_with "1 eval Name" => (k_here; k_dflt (refine' nameX_L ?F ?v ?_ ?a ?b ?c; (case F => k_asm); (case a => rfl); (case b => rfl); (case v => first | exact @rfl (Option Value) (some _) | assumption); (case c => decide); k_whole)))
  (k_with "1 storeName" => (k_here; k_dflt (first | (refine' Mine.storeT_F ?F ?N ?_ ?a ?b; (case F => k_asm); (case N => k_asm); (case a => rfl); (case b => rfl); k_whole; intro h' t' tk' F' N'; (try k_sweep)) | (refine' Mine.storeT_I ?F ?N ?_ ?a ?b; (case F => k_asm); (case N => k_asm); (case a => rfl); (case b => rfl); k_whole; intro h' t' tk' F' N'; (try k_sweep)) | (refine' Mine.storeT_S ?F ?N ?_ ?a ?b; (case F => k_asm); (case N => k_asm); (case a => rfl); (case b => rfl); k_whole; intro h' t' tk' F' N'; (try k_sweep)) | (refine' Mine.storeT_B ?F ?N ?_ ?a ?b; (case F => k_asm); (case N => k_asm); (case a => rfl); (case b => rfl); k_whole; intro h' t' tk' F' N'; (try k_sweep)))))
  (k_with "1 call builtin:max" => ((with_reducible show wpAny _ _ (call _ [Value.float _ _, Value.float _ _, Value.float _ _]) _ _ _); (rename News _ _ _ _ => N'); (rename Fr _ _ _ _ => F'); refine max_three_fff rfl F' N' ?_; clear N'; intro h' tk' v' F' N'; (try dsimp only)))
  (k_with "1 call builtin:min" => ((with_reducible show wpAny _ _ (call _ [Value.float _ _, Value.float _ _, Value.float _ _]) _ _ _); (rename News _ _ _ _ => N'); (rename Fr _ _ _ _ => F'); refine min_three_fff rfl F' N' ?_; clear N'; intro h' tk' v' F' N'; (try dsimp only)))
  trivial
noncomputable abbrev tupObj (vs : List Value) : Obj := { cls := .type "tuple", data := .seq vs.toArray }
noncomputable def feq (x y : UInt64) : Bool := Float64.cmp x y == some .eq
noncomputable def fle (x y : UInt64) : Bool := Float64.cmp x y == some .lt || Float64.cmp x y == some .eq
noncomputable def vF (m1 m2 hue : UInt64) : UInt64 :=
  if flt (Float64.divmod hue 4607182418800017408).2 4595172819793696085 then Float64.add m1 (Float64.mul (Float64.mul (Float64.sub m2 m1) (Float64.divmod hue 4607182418800017408).2) 4618441417868443648)
  else if flt (Float64.divmod hue 4607182418800017408).2 4602678819172646912 then m2
  else if flt (Float64.divmod hue 4607182418800017408).2 4604180019048437077 then Float64.add m1 (Float64.mul (Float64.mul (Float64.sub m2 m1) (Float64.sub 4604180019048437077 (Float64.divmod hue 4607182418800017408).2)) 4618441417868443648)
  else m1
theorem v_call (w : World) (mean : Mean) (mg mb : Nm) (news : Led) (x y z : UInt64) (t t2 t3 : Tok) :
    Calls w mean mg mb 1 news (call (.ref 72) [Value.float x t, .float y t2, .float z t3]) (Ret news (fun t => .float (vF x y z) t)) := by
  dsimp only [Calls, Ret, KH, VW, prg]
  k_fill
  intros; rename_i hret
  refine wpAny_call ?_
  walk_at "my enter"
  k_steps
  all_goals ((with_reducible refine ret_float hret ?_ (by assumption) (by assumption)); simp only [vF, flt, *, ↓reduceIte, Bool.false_eq_true])

noncomputable def hlsL (x y z : UInt64) : UInt64 := Float64.div (Float64.add (max3 x y z) (min3 x y z)) 4611686018427387904
noncomputable def hlsS (x y z : UInt64) : UInt64 :=
  if feq (min3 x y z) (max3 x y z) then 0
  else if fle (hlsL x y z) 4602678819172646912 then Float64.div (Float64.sub (max3 x y z) (min3 x y z)) (Float64.add (max3 x y z) (min3 x y z))
  else Float64.div (Float64.sub (max3 x y z) (min3 x y z)) (Float64.sub (Float64.sub 4611686018427387904 (max3 x y z)) (min3 x y z))
noncomputable def hlsC (x y z v : UInt64) : UInt64 := Float64.div (Float64.sub (max3 x y z) v) (Float64.sub (max3 x y z) (min3 x y z))
noncomputable def hlsH0 (x y z : UInt64) : UInt64 :=
  if feq x (max3 x y z) then Float64.sub (hlsC x y z z) (hlsC x y z y)
  else if feq y (max3 x y z) then Float64.sub (Float64.add 4611686018427387904 (hlsC x y z x)) (hlsC x y z z)
  else Float64.sub (Float64.add 4616189618054758400 (hlsC x y z y)) (hlsC x y z x)
noncomputable def hlsH (x y z : UInt64) : UInt64 :=
  if feq (min3 x y z) (max3 x y z) then 0 else (Float64.divmod (Float64.div (hlsH0 x y z) 4618441417868443648) 4607182418800017408).2
noncomputable def hlsOk (x y z : UInt64) : Prop := feq (min3 x y z) (max3 x y z) = false →
  Float64.isZero (Float64.sub (max3 x y z) (min3 x y z)) = false ∧ Float64.isZero (Float64.add (max3 x y z) (min3 x y z)) = false ∧
  Float64.isZero (Float64.sub (Float64.sub 4611686018427387904 (max3 x y z)) (min3 x y z)) = false
theorem mk3F {a b c a' b' c' : UInt64} {u1 u2 u3 : Tok} (e1 : a = a') (e2 : b = b') (e3 : c = c') : ∃ t1 t2 t3, tupObj [.float a u1, .float b u2, .float c u3] = tupObj [.float a' t1, .float b' t2, .float c' t3] := by
  subst e1 e2 e3
  exact ⟨_, _, _, rfl⟩
theorem noz {b : Bool} {P : Prop} (h : b = false) (h' : b = true) : P := by rw [h] at h'; cases h'
theorem absF {g h : Heap} {L : Addr} {m : Nm} {C : Prop} (F : Fr g L h m) (k : ∀ m₀ : Nm, (∀ x, m₀ x = m x) → Fr g L h m₀ → C) : C := k m (fun _ => rfl) F
noncomputable def rgSt (i : Nat) : Stmt := (fnBody 9).getD i (.Pass default)
noncomputable def rgScope : Scope := fnScope 9
noncomputable def hlsS1 (x y z : UInt64) : UInt64 := if fle (hlsL x y z) 4602678819172646912 then Float64.div (Float64.sub (max3 x y z) (min3 x y z)) (Float64.add (max3 x y z) (min3 x y z)) else Float64.div (Float64.sub (max3 x y z) (min3 x y z)) (Float64.sub (Float64.sub 4611686018427387904 (max3 x y z)) (min3 x y z))
theorem rg6 (w : World) (mean : Mean) (mg mb : Nm) (rest : Led) (m : Nm) (mx mn l su ra : UInt64) (t1 t2 t3 t4 t5 : Tok)
    (n1 : Float64.isZero su = false) (n2 : Float64.isZero (Float64.sub (Float64.sub 4611686018427387904 mx) mn) = false)
    (q1 : m "l" = some (.float l t1)) (q2 : m "rangec" = some (.float ra t2)) (q3 : m "sumc" = some (.float su t3)) (q4 : m "maxc" = some (.float mx t4)) (q5 : m "minc" = some (.float mn t5)) :
    AtF w mean mg mb "rgb_to_hls" rgScope 58 (.ref 57) 0 [rgSt 6] rest m (fun h₀ L s Q => ∀ t' h' tk', Fr h₀ L h' (pu "s" (.float (if fle l 4602678819172646912 then Float64.div ra su else Float64.div ra (Float64.sub (Float64.sub 4611686018427387904 mx) mn)) t') m) → News h₀ L h' rest → Q .next { s with heap := h', toks := tk' }) := by
  dsimp only [AtF, KH, VW, prg]
  k_fill
  intros; rename_i hret
  (conv in (occs := *) rgSt _ => all_goals whnf)
  (conv in (occs := *) rgScope => all_goals (whnf; dsimp only))
  (k_with "eval Name" => (k_here; (refine' nameX_L (by k_asm) (by assumption) ?_ ?a ?b ?c; (case a => rfl); (case b => rfl); (case c => decide)); (try dsimp only)))
  k_steps
  all_goals first
    | exact noz n1 (by assumption)
    | exact noz n2 (by assumption)
    | skip
  · have e : fle l 4602678819172646912 = true := by assumption
    rw [if_pos e] at hret
    exact hret _ _ _ (by assumption) (by assumption)
  · have e : fle l 4602678819172646912 = false := by assumption
    rw [if_neg (ne_true_of_eq_false e)] at hret
    exact hret _ _ _ (by assumption) (by assumption)
theorem rg10 (w : World) (mean : Mean) (mg mb : Nm) (rest : Led) (m : Nm) (x y mx rc gc bc : UInt64) (t1 t2 t3 t4 t5 t6 : Tok)
    (q1 : m "r" = some (.float x t1)) (q2 : m "g" = some (.float y t2)) (q3 : m "maxc" = some (.float mx t3)) (q4 : m "rc" = some (.float rc t4)) (q5 : m "gc" = some (.float gc t5)) (q6 : m "bc" = some (.float bc t6)) :
    AtF w mean mg mb "rgb_to_hls" rgScope 58 (.ref 57) 0 [rgSt 10] rest m (fun h₀ L s Q => ∀ t' h' tk', Fr h₀ L h' (pu "h" (.float (if feq x mx then Float64.sub bc gc else if feq y mx then Float64.sub (Float64.add 4611686018427387904 rc) bc else Float64.sub (Float64.add 4616189618054758400 gc) rc) t') m) → News h₀ L h' rest → Q .next { s with heap := h', toks := tk' }) := by
  dsimp only [AtF, KH, VW, prg]
  k_fill
  intros; rename_i hret
  (conv in (occs := *) rgSt _ => all_goals whnf)
  (conv in (occs := *) rgScope => all_goals (whnf; dsimp only))
  (k_with "eval Name" => (k_here; (refine' nameX_L (by k_asm) (by assumption) ?_ ?a ?b ?c; (case a => rfl); (case b => rfl); (case c => decide)); (try dsimp only)))
  k_steps
  · have e : feq x mx = true := by assumption
    rw [if_pos e] at hret
    exact hret _ _ _ (by assumption) (by assumption)
  · have e : feq x mx = false := by assumption
    have e2 : feq y mx = true := by assumption
    rw [if_neg (ne_true_of_eq_false e), if_pos e2] at hret
    exact hret _ _ _ (by assumption) (by assumption)
  · have e : feq x mx = false := by assumption
    have e2 : feq y mx = false := by assumption
    rw [if_neg (ne_true_of_eq_false e), if_neg (ne_true_of_eq_false e2)] at hret
    exact hret _ _ _ (by assumption) (by assumption)
theorem rgb_call (w : World) (mean : Mean) (mg mb : Nm) (news : Led) (x y z : UInt64) (t t2 t3 : Tok) (ok : hlsOk x y z) :
    Calls w mean mg mb 1 news (call (.ref 58) [Value.float x t, .float y t2, .float z t3])
      (RetNew news (fun o => ∃ t1 t2 t3, o = tupObj [.float (hlsH x y z) t1, .float (hlsL x y z) t2, .float (hlsS x y z) t3])) := by
  dsimp only [Calls, RetNew, KH, VW, prg]
  k_fill
  intros; rename_i hret
  refine wpAny_call ?_
  walk_at "my enter"
  (k_with "1 execs cons If" => refine hold ?_)
  k_steps
  dsimp only [Hold]
  rename Fr _ _ _ (fun y => _) => F5
  refine absF F5 fun m₀ em F₀ => ?_
  have q1 : m₀ (Str.ofString "l") = some (.float (hlsL x y z) _) := em _
  have q2 : m₀ (Str.ofString "rangec") = some (.float _ _) := em _
  have q3 : m₀ (Str.ofString "sumc") = some (.float _ _) := em _
  have q4 : m₀ (Str.ofString "maxc") = some (.float _ _) := em _
  have q5 : m₀ (Str.ofString "minc") = some (.float _ _) := em _
  have q6 : m₀ (Str.ofString "r") = some (.float _ _) := em _
  have q7 : m₀ (Str.ofString "g") = some (.float _ _) := em _
  have q8 : m₀ (Str.ofString "b") = some (.float _ _) := em _
  clear em F5
  refine wpAny_execs_cons ?_
  k_steps
  · refine hret _ _ _ _ (by assumption) (by walk_at "my news") (by walk_at "my order") (mk3F ?_ ?_ ?_) <;> simp only [hlsH, hlsL, hlsS, feq, fle, *, ↓reduceIte, Bool.false_eq_true]
  dsimp only [Hold]
  have nn := ok (by assumption)
  refine seqF (rg6 w mean mg mb _ _ _ _ _ _ _ _ _ _ _ _ nn.2.1 nn.2.2 q1 q2 q3 q4 q5 _ _ _ _ _ _ _ _ _ _ _ (by assumption) F₀ (by assumption) (by assumption) (by assumption) (by ktr_room) (by ktr_units) fun t6 h6 tk6 F6 N6 => ?_)
  k_steps
  all_goals first | exact noz nn.1 (by assumption) | skip
  dsimp only [Hold]
  rename Fr _ _ _ (fun y => _) => F5
  refine seqF (rg10 w mean mg mb _ _ _ _ _ _ _ _ _ _ _ _ _ _ (by assumption) (by assumption) (by assumption) (by rfl) (by rfl) (by rfl) _ _ _ _ _ _ _ _ _ _ _ (by assumption) F5 (by assumption) (by assumption) (by assumption) (by ktr_room) (by ktr_units) fun t10 h10 tk10 F10 N10 => ?_)
  k_steps
  have hne : ¬ feq (min3 x y z) (max3 x y z) = true := ne_true_of_eq_false (by assumption)
  refine hret _ _ _ _ (by assumption) (by walk_at "my news") (by walk_at "my order") (mk3F ?_ rfl ?_)
  · unfold hlsH
    rw [if_neg hne]
    rfl
  · unfold hlsS
    rw [if_neg hne]

theorem fresh_C_hls : True := by
  k_with_none
  w_on
  w_top off
  (k_with "1 my enter" => (refine' code_def ?k1 ?k2 ?k3 ?k4 ?k5 ?kA ?kF ?kK ?k6 ?k7 ?k8 ?k9 ?kB ?_ ?c2 ?c3 ?c4 ?c5; walk_at "ce"; (case k9 => first | exact BindsTo.of_eq rfl | exact binds_K (by k_in) rfl (by k_is) rfl rfl rfl | fail "my enter: no rule for these arguments"); (case c5 => decide); (case kB => exact locs rfl); (case c2 => exact rfl); (case c3 => exact rfl); (case c4 => exact rfl); k_whole; intro g' L' h' FG' F' N' B' X' T'; (try dsimp only); (try k_lift B'); (try k_fold)))
  (k_with "1 my news" => (first | assumption | (refine Mine.newsSub (by assumption) ?_; kcj_all) | (refine Mine.newsSub (by assumption) ?_; intro _ hp; repeat (first | exact hp | refine List.Mem.tail _ ?_))))
  (k_with "1 my order" => (first | assumption | exact allLt_of (by assumption) | (simp only [AllLt, and_self, and_true, true_and, *]; done)))
  (k_with "1 cd" => (dsimp only [Mine.Calls, Mine.Ret, Mine.RetNew, Mine.KH, Mine.VW, Mine.prg] at hC))
  (k_with "1 cc" => ((case k1 => k_asm); (case k2 => k_asm); (case k3 => k_asm); (case k4 => k_asm); (case k5 => k_asm); (case kK => first | exact rfl | assumption); (case kd => ktr_room); (case ku => ktr_units)))
  (k_with "1 ce" => ((case kA => first | assumption | exact rfl); (case kF => first | assumption | exact rfl); (case kK => first | assumption | exact rfl); (case k1 => k_asm); (case k2 => k_asm); (case k3 => k_asm); (case k4 => k_asm); (case k5 => k_asm); (case k6 => k_is); (case k7 => k_is); (case k8 => first | assumption | ktr_room)))
  (k_with "1 eval Name" => (k_here; k_dflt (refine' nameX_L ?F ?v ?_ ?a ?b ?c; (case F => k_asm); (case a => rfl); (case b => rfl); (case v => first | exact @rfl (Option Value) (some _) | assumption); (case c => decide); k_whole)))
  (k_with "1 storeName" => (k_here; k_dflt (first | (refine' Mine.storeT_F ?F ?N ?_ ?a ?b; (case F => k_asm); (case N => k_asm); (case a => rfl); (case b => rfl); k_whole; intro h' t' tk' F' N'; (try k_sweep)) | (refine' Mine.storeT_I ?F ?N ?_ ?a ?b; (case F => k_asm); (case N => k_asm); (case a => rfl); (case b => rfl); k_whole; intro h' t' tk' F' N'; (try k_sweep)) | (refine' Mine.storeT_S ?F ?N ?_ ?a ?b; (case F => k_asm); (case N => k_asm); (case a => rfl); (case b => rfl); k_whole; intro h' t' tk' F' N'; (try k_sweep)) | (refine' Mine.storeT_B ?F ?N ?_ ?a ?b; (case F => k_asm); (case N => k_asm); (case a => rfl); (case b => rfl); k_whole; intro h' t' tk' F' N'; (try k_sweep)))))
  (k_with "1 call ref" => ((with_reducible show wpAny _ _ (call (Value.ref 72) _) _ _ _); (have hC := @Mine.v_call); (walk_at "cd"); refine' hC _ _ _ _ _ _ _ _ _ _ _ _ _ _ _ _ _ _ _ _ _ _ _ _ _ _ _ _ ?k1 ?k2 ?k3 ?k4 ?k5 ?kK ?kd ?ku ?_; walk_at "cc"; clear hC; intro t9 h9 tk9 F9 N9; (try dsimp only); (try k_fold)))
  trivial
noncomputable def hlsM2 (l s : UInt64) : UInt64 := if fle l 4602678819172646912 then Float64.mul l (Float64.add 4607182418800017408 s) else Float64.sub (Float64.add l s) (Float64.mul l s)
noncomputable def hlsM1 (l s : UInt64) : UInt64 := Float64.sub (Float64.mul 4611686018427387904 l) (hlsM2 l s)
namespace hls_call_z
noncomputable def zS (zkk : KXC) (w : World) (mean : Mean) (mg : Nm) (mb : Nm) (news : Led) (x : UInt64) (y : UInt64) (z : UInt64) (t : Tok) (t2 : Tok) (t3 : Tok) : Prop := ∀ (h0 : feq z 0 = false), CallsAt w mean mg mb 2 news (call (.ref 65) [Value.float x t, .float y t2, .float z t3])
      (RetNew news (fun o => ∃ t1 t2 t3, o = tupObj [.float (vF (hlsM1 y z) (hlsM2 y z) (Float64.add x 4599676419421066581)) t1, .float (vF (hlsM1 y z) (hlsM2 y z) x) t2, .float (vF (hlsM1 y z) (hlsM2 y z) (Float64.sub x 4599676419421066581)) t3])) (zkk.1) (zkk.2.1) (zkk.2.2.1) (zkk.2.2.2.1) (zkk.2.2.2.2.1) (zkk.2.2.2.2.2.1) (zkk.2.2.2.2.2.2.1) (zkk.2.2.2.2.2.2.2.1) (zkk.2.2.2.2.2.2.2.2.1) (zkk.2.2.2.2.2.2.2.2.2.1) (zkk.2.2.2.2.2.2.2.2.2.2.1) (zkk.2.2.2.2.2.2.2.2.2.2.2.1) (zkk.2.2.2.2.2.2.2.2.2.2.2.2.1) (zkk.2.2.2.2.2.2.2.2.2.2.2.2.2.1) (zkk.2.2.2.2.2.2.2.2.2.2.2.2.2.2.1) (zkk.2.2.2.2.2.2.2.2.2.2.2.2.2.2.2.1) (zkk.2.2.2.2.2.2.2.2.2.2.2.2.2.2.2.2)
noncomputable abbrev zT : Type := (KXC) × (World) × (Mean) × (Nm) × (Nm) × (Led) × (UInt64) × (UInt64) × (UInt64) × (Tok) × (Tok) × (Tok)
noncomputable def zP (x : zT) : Prop := zS x.1 x.2.1 x.2.2.1 x.2.2.2.1 x.2.2.2.2.1 x.2.2.2.2.2.1 x.2.2.2.2.2.2.1 x.2.2.2.2.2.2.2.1 x.2.2.2.2.2.2.2.2.1 x.2.2.2.2.2.2.2.2.2.1 x.2.2.2.2.2.2.2.2.2.2.1 x.2.2.2.2.2.2.2.2.2.2.2
theorem zne : Nonempty zT := ⟨(dKXC, dW, fun _ => none, fun _ => none, fun _ => none, [], 0, 0, 0, (0 : Nat), (0 : Nat), (0 : Nat))⟩
noncomputable def zc : zT := @Classical.epsilon _ zne fun x => ¬ zP x
@[irreducible] noncomputable def zkk : KXC := zc.1
@[irreducible] noncomputable def w : World := zc.2.1
@[irreducible] noncomputable def mean : Mean := zc.2.2.1
@[irreducible] noncomputable def mg : Nm := zc.2.2.2.1
@[irreducible] noncomputable def mb : Nm := zc.2.2.2.2.1
@[irreducible] noncomputable def news : Led := zc.2.2.2.2.2.1
@[irreducible] noncomputable def x : UInt64 := zc.2.2.2.2.2.2.1
@[irreducible] noncomputable def y : UInt64 := zc.2.2.2.2.2.2.2.1
@[irreducible] noncomputable def z : UInt64 := zc.2.2.2.2.2.2.2.2.1
@[irreducible] noncomputable def t : Tok := zc.2.2.2.2.2.2.2.2.2.1
@[irreducible] noncomputable def t2 : Tok := zc.2.2.2.2.2.2.2.2.2.2.1
@[irreducible] noncomputable def t3 : Tok := zc.2.2.2.2.2.2.2.2.2.2.2
theorem zmain : zS zkk w mean mg mb news x y z t t2 t3 := by
  unfold zS
  intro h0
  dsimp only [CallsAt, RetNew, KH, VW, prg]
  k_fill
  intros; rename_i hret
  refine wpAny_call ?_
  walk_at "my enter"
  k_steps
  all_goals first
    | exact noz h0 (by assumption)
    | (refine hret _ _ _ _ (by assumption) (by walk_at "my news") (by walk_at "my order") (mk3F ?_ ?_ ?_) <;> simp only [hlsM2, hlsM1, fle, *, ↓reduceIte, Bool.false_eq_true])
end hls_call_z
theorem hls_call (w : World) (mean : Mean) (mg mb : Nm) (news : Led) (x y z : UInt64) (t t2 t3 : Tok) (h0 : feq z 0 = false) : Calls w mean mg mb 2 news (call (.ref 65) [Value.float x t, .float y t2, .float z t3])
      (RetNew news (fun o => ∃ t1 t2 t3, o = tupObj [.float (vF (hlsM1 y z) (hlsM2 y z) (Float64.add x 4599676419421066581)) t1, .float (vF (hlsM1 y z) (hlsM2 y z) x) t2, .float (vF (hlsM1 y z) (hlsM2 y z) (Float64.sub x 4599676419421066581)) t3])) := by
  intro kdp kun kgd kcn kcs ka kccd kcl kouter kA kbase kh kL km ks kQ kE
  exact @clz _ hls_call_z.zP hls_call_z.zne (by with_unfolding_all exact hls_call_z.zmain) ((kdp, kun, kgd, kcn, kcs, ka, kccd, kcl, kouter, kA, kbase, kh, kL, km, ks, kQ, kE), w, mean, mg, mb, news, x, y, z, t, t2, t3) h0

noncomputable def uX (i : Int) : Int := if i = 0 then 1 else if i = 1 then 0 else -1
noncomputable def uY (i : Int) : Int := if i = 0 then 0 else if i = 1 then 1 else -1
noncomputable def dX (way f h : Int) : Int := (if 0 < f then uX (h.fmod 3) else 0) + (if f = 2 then uX ((h + way).fmod 3) else 0)
noncomputable def dY (way f h : Int) : Int := (if 0 < f then uY (h.fmod 3) else 0) + (if f = 2 then uY ((h + way).fmod 3) else 0)
noncomputable def placeStep (way f : Int) (s : Int × Int × Int) : Int × Int × Int :=
  ((if way = 1 then 2 * s.1 - s.2.1 else s.1 + s.2.1) + dX way f s.2.2, (if way = 1 then s.1 + s.2.1 else 2 * s.2.1 - s.1) + dY way f s.2.2, s.2.2 + if f = 1 then way else 0)
noncomputable def fig (k : Int) (l : Nat) : Int := (k.fdiv (3 ^ l)).fmod 3
noncomputable def stN (ws : List Int) (k hd : Int) : Nat → Int × Int × Int
  | 0 => (0, 0, hd)
  | j + 1 => placeStep (ws.getD (7 - j) 0) (fig k (7 - j)) (stN ws k hd j)
theorem fmod3_cases (h : Int) : h.fmod 3 = 0 ∨ h.fmod 3 = 1 ∨ h.fmod 3 = 2 := by
  rw [Int.fmod_eq_emod_of_nonneg _ (by decide)]; lia
theorem fmod3_add (h c : Int) : (h + c).fmod 3 = (h.fmod 3 + c).fmod 3 := by
  rw [Int.fmod_eq_emod_of_nonneg _ (by decide), Int.fmod_eq_emod_of_nonneg _ (by decide), Int.fmod_eq_emod_of_nonneg _ (by decide)]; lia
theorem fig_cases (k : Int) (l : Nat) : fig k l = 0 ∨ fig k l = 1 ∨ fig k l = 2 := fmod3_cases _
noncomputable def nrm (x y : Int) : Int := x * x - x * y + y * y
theorem nrm_nonneg (x y : Int) : 0 ≤ nrm x y := by
  have h1 : 0 ≤ (2 * x - y) * (2 * x - y) := PyProof.Rows.square_nonneg _
  have h2 : 0 ≤ y * y := PyProof.Rows.square_nonneg _
  have e : 4 * nrm x y = (2 * x - y) * (2 * x - y) + 3 * (y * y) := by unfold nrm; grind
  lia
theorem nrm_add (x y u v : Int) : 4 * nrm (x + u) (y + v) ≤ 5 * nrm x y + 20 * nrm u v := by
  have h := nrm_nonneg (x - 4 * u) (y - 4 * v)
  have e : 5 * nrm x y + 20 * nrm u v - 4 * nrm (x + u) (y + v) = nrm (x - 4 * u) (y - 4 * v) := by unfold nrm; grind
  lia
theorem nrm_turn1 (x y : Int) : nrm (2 * x - y) (x + y) = 3 * nrm x y := by unfold nrm; grind
theorem nrm_turn2 (x y : Int) : nrm (x + y) (2 * y - x) = 3 * nrm x y := by unfold nrm; grind
theorem uX0 : uX 0 = 1 := rfl
theorem uX1 : uX 1 = 0 := rfl
theorem uX2 : uX 2 = -1 := rfl
theorem uY0 : uY 0 = 0 := rfl
theorem uY1 : uY 1 = 1 := rfl
theorem uY2 : uY 2 = -1 := rfl
theorem nrm_d {way f h : Int} (hw : way = 1 ∨ way = -1) (hf : f = 0 ∨ f = 1 ∨ f = 2) : nrm (dX way f h) (dY way f h) ≤ 1 := by
  unfold dX dY
  rw [fmod3_add]
  rcases fmod3_cases h with e | e | e <;> rw [e] <;> rcases hw with rfl | rfl <;> rcases hf with rfl | rfl | rfl <;> decide
noncomputable def nB : Nat → Int
  | 0 => 0
  | 1 => 1
  | j + 2 => (15 * nB (j + 1) + 20) / 4
theorem way_pm {ws : List Int} (hl : ws.length = 8) (hw : ∀ x ∈ ws, x = 1 ∨ x = -1) {i : Nat} (hi : i < 8) : ws.getD i 0 = 1 ∨ ws.getD i 0 = -1 := hw _ (by
  have hlt : i < ws.length := by lia
  rw [List.getD_eq_getElem?_getD, List.getElem?_eq_getElem hlt]
  exact List.getElem_mem hlt)
theorem stN_nrm {ws : List Int} {k hd : Int} (hl : ws.length = 8) (hw : ∀ x ∈ ws, x = 1 ∨ x = -1) : ∀ j, j ≤ 8 → nrm (stN ws k hd j).1 (stN ws k hd j).2.1 ≤ nB j
  | 0, _ => by simp [stN, nrm, nB]
  | 1, _ => by
    have hd' := nrm_d (h := hd) (way_pm hl hw (i := 7) (by lia)) (fig_cases k 7)
    show nrm (placeStep (ws.getD 7 0) (fig k 7) (0, 0, hd)).1 (placeStep (ws.getD 7 0) (fig k 7) (0, 0, hd)).2.1 ≤ 1
    simpa [placeStep] using hd'
  | j + 2, h => by
    have ih := stN_nrm (k := k) (hd := hd) hl hw (j + 1) (by lia)
    have hm := way_pm hl hw (i := 7 - (j + 1)) (by lia)
    have hd' := nrm_d (h := (stN ws k hd (j + 1)).2.2) hm (fig_cases k (7 - (j + 1)))
    show nrm (placeStep (ws.getD (7 - (j + 1)) 0) (fig k (7 - (j + 1))) (stN ws k hd (j + 1))).1 (placeStep (ws.getD (7 - (j + 1)) 0) (fig k (7 - (j + 1))) (stN ws k hd (j + 1))).2.1 ≤ (15 * nB (j + 1) + 20) / 4
    generalize stN ws k hd (j + 1) = s at ih hd' ⊢
    obtain ⟨x, y, h'⟩ := s
    generalize ws.getD (7 - (j + 1)) 0 = way at hm hd' ⊢
    generalize fig k (7 - (j + 1)) = f at hd' ⊢
    simp only [placeStep] at ih hd' ⊢
    rcases hm with rfl | rfl
    · have a := nrm_add (2 * x - y) (x + y) (dX 1 f h') (dY 1 f h')
      rw [nrm_turn1] at a
      simp only [if_true]
      lia
    · have a := nrm_add (x + y) (2 * y - x) (dX (-1) f h') (dY (-1) f h')
      rw [nrm_turn2] at a
      simp only [show ((-1 : Int) = 1) = False from by decide, if_false]
      lia
theorem sq_lt {a b : Int} (hb : 0 ≤ b) (h : a * a < b * b) : -b < a ∧ a < b := by
  constructor
  · rcases Int.lt_or_le (-b) a with h1 | h1
    · exact h1
    · exfalso
      have : b * b ≤ (-a) * (-a) := Int.mul_le_mul (by lia) (by lia) hb (by lia)
      rw [Int.neg_mul_neg] at this
      lia
  · rcases Int.lt_or_le a b with h1 | h1
    · exact h1
    · exfalso
      have : b * b ≤ a * a := Int.mul_le_mul h1 h1 hb (by lia)
      lia
theorem nrm_bound {x y b : Int} (hb : 0 ≤ b) (h : 4 * nrm x y < 3 * (b * b)) : (-b < x ∧ x < b) ∧ (-b < y ∧ y < b) ∧ (-b < x - y ∧ x - y < b) := by
  have e1 : 4 * nrm x y = (x - 2 * y) * (x - 2 * y) + 3 * (x * x) := by unfold nrm; grind
  have e2 : 4 * nrm x y = (2 * x - y) * (2 * x - y) + 3 * (y * y) := by unfold nrm; grind
  have e3 : 4 * nrm x y = (x + y) * (x + y) + 3 * ((x - y) * (x - y)) := by unfold nrm; grind
  have p1 := PyProof.Rows.square_nonneg (x - 2 * y)
  have p2 := PyProof.Rows.square_nonneg (2 * x - y)
  have p3 := PyProof.Rows.square_nonneg (x + y)
  exact ⟨sq_lt hb (by lia), sq_lt hb (by lia), sq_lt hb (by lia)⟩
theorem nB_le : ∀ j, j ≤ 8 → nB j ≤ 29500 := by decide
theorem stN_bound {ws : List Int} {k hd : Int} (hl : ws.length = 8) (hw : ∀ x ∈ ws, x = 1 ∨ x = -1) {j : Nat} (hj : j ≤ 8) :
    (-200 < (stN ws k hd j).1 ∧ (stN ws k hd j).1 < 200) ∧ (-200 < (stN ws k hd j).2.1 ∧ (stN ws k hd j).2.1 < 200) ∧ (-200 < (stN ws k hd j).1 - (stN ws k hd j).2.1 ∧ (stN ws k hd j).1 - (stN ws k hd j).2.1 < 200) := by
  have h := stN_nrm (k := k) (hd := hd) hl hw j hj
  have b := nB_le j hj
  exact nrm_bound (by decide) (by lia)
theorem stN_head {ws : List Int} {k hd : Int} (hl : ws.length = 8) (hw : ∀ x ∈ ws, x = 1 ∨ x = -1) : ∀ j : Nat, j ≤ 8 → hd - j ≤ (stN ws k hd j).2.2 ∧ (stN ws k hd j).2.2 ≤ hd + j
  | 0, _ => by simp [stN]
  | j + 1, h => by
    have ih := stN_head (k := k) (hd := hd) hl hw j (by lia)
    have hm := way_pm hl hw (i := 7 - j) (by lia)
    have e : (stN ws k hd (j + 1)).2.2 = (stN ws k hd j).2.2 + if fig k (7 - j) = 1 then ws.getD (7 - j) 0 else 0 := rfl
    rw [e]
    split <;> lia
noncomputable def place (ws : List Int) (k hd : Int) : Int × Int × Int := stN ws k hd 8

noncomputable def piece (f : Int) : Str := Str.ofString " " ++ Txt.item (Str.ofString "012") f
noncomputable abbrev RSt := Int × Int × Int × Str
noncomputable def rdD (way f d : Int) : Int := if f = 1 then d - way else d
noncomputable def rdStep (way : Int) (s : RSt) : RSt :=
  let f := (s.1 + s.2.1).fmod 3
  let d := rdD way f s.2.2.1
  let x := s.1 - dX way f d
  let y := s.2.1 - dY way f d
  (if way = 1 then (x + y).fdiv 3 else (2 * x - y).fdiv 3, if way = 1 then (2 * y - x).fdiv 3 else (x + y).fdiv 3, d, piece f ++ s.2.2.2)
noncomputable def rdN (ws : List Int) (s : RSt) : Nat → RSt
  | 0 => s
  | j + 1 => rdStep (ws.getD j 0) (rdN ws s j)
noncomputable def readF (ws : List Int) (x y d first : Int) : Str :=
  let s := rdN ws (x, y, d, Str.ofString "") 8
  if (s.1 == 0 && (s.2.1 == 0 && s.2.2.1 == first)) = true then s.2.2.2 else Str.ofString ""
theorem uX_abs (i : Int) : -1 ≤ uX i ∧ uX i ≤ 1 := by unfold uX; split <;> (try split) <;> lia
theorem uY_abs (i : Int) : -1 ≤ uY i ∧ uY i ≤ 1 := by unfold uY; split <;> (try split) <;> lia
theorem dX_abs (way f h : Int) : -2 ≤ dX way f h ∧ dX way f h ≤ 2 := by
  have a := uX_abs (h.fmod 3)
  have b := uX_abs ((h + way).fmod 3)
  unfold dX; split <;> split <;> lia
theorem dY_abs (way f h : Int) : -2 ≤ dY way f h ∧ dY way f h ≤ 2 := by
  have a := uY_abs (h.fmod 3)
  have b := uY_abs ((h + way).fmod 3)
  unfold dY; split <;> split <;> lia
theorem third {u b : Int} (h1 : -(3 * b) ≤ u) (h2 : u ≤ 3 * b + 2) : -b ≤ u / 3 ∧ u / 3 ≤ b := by lia
theorem rdStep_bound {way x y d b c : Int} {f : Str} (hw : way = 1 ∨ way = -1) (hx : -b ≤ x ∧ x ≤ b) (hy : -b ≤ y ∧ y ≤ b) (hd : -c ≤ d ∧ d ≤ c) :
    (-(b + 2) ≤ (rdStep way (x, y, d, f)).1 ∧ (rdStep way (x, y, d, f)).1 ≤ b + 2) ∧ (-(b + 2) ≤ (rdStep way (x, y, d, f)).2.1 ∧ (rdStep way (x, y, d, f)).2.1 ≤ b + 2) ∧
      (-(c + 1) ≤ (rdStep way (x, y, d, f)).2.2.1 ∧ (rdStep way (x, y, d, f)).2.2.1 ≤ c + 1) := by
  simp only [rdStep]
  have a1 := dX_abs way ((x + y).fmod 3) (rdD way ((x + y).fmod 3) d)
  have a2 := dY_abs way ((x + y).fmod 3) (rdD way ((x + y).fmod 3) d)
  have a3 : -(c + 1) ≤ rdD way ((x + y).fmod 3) d ∧ rdD way ((x + y).fmod 3) d ≤ c + 1 := by unfold rdD; split <;> lia
  generalize rdD way ((x + y).fmod 3) d = e at a1 a2 a3 ⊢
  generalize dX way ((x + y).fmod 3) e = p at a1 ⊢
  generalize dY way ((x + y).fmod 3) e = q at a2 ⊢
  have fd : ∀ z : Int, z.fdiv 3 = z / 3 := fun z => Int.fdiv_eq_ediv_of_nonneg z (by decide)
  simp only [fd]
  rcases hw with rfl | rfl
  · simp only [if_true]; exact ⟨third (by lia) (by lia), third (by lia) (by lia), a3⟩
  · simp only [show ((-1 : Int) = 1) = False from by decide, if_false]; exact ⟨third (by lia) (by lia), third (by lia) (by lia), a3⟩
theorem rdN_bound {ws : List Int} {x y d : Int} {f : Str} (hl : ws.length = 8) (hw : ∀ x ∈ ws, x = 1 ∨ x = -1) (hx : -1000 < x ∧ x < 1000) (hy : -1000 < y ∧ y < 1000) (hd : -1000 < d ∧ d < 1000) : ∀ j : Nat, j ≤ 8 →
    (-(1000 + 2 * (j : Int)) ≤ (rdN ws (x, y, d, f) j).1 ∧ (rdN ws (x, y, d, f) j).1 ≤ 1000 + 2 * (j : Int)) ∧ (-(1000 + 2 * (j : Int)) ≤ (rdN ws (x, y, d, f) j).2.1 ∧ (rdN ws (x, y, d, f) j).2.1 ≤ 1000 + 2 * (j : Int)) ∧
      (-(1000 + (j : Int)) ≤ (rdN ws (x, y, d, f) j).2.2.1 ∧ (rdN ws (x, y, d, f) j).2.2.1 ≤ 1000 + (j : Int))
  | 0, _ => by simp only [rdN]; exact ⟨⟨Int.le_of_lt hx.1, Int.le_of_lt hx.2⟩, ⟨Int.le_of_lt hy.1, Int.le_of_lt hy.2⟩, Int.le_of_lt hd.1, Int.le_of_lt hd.2⟩
  | j + 1, h => by
    have ih := rdN_bound (f := f) hl hw hx hy hd j (by lia)
    have b := rdStep_bound (f := (rdN ws (x, y, d, f) j).2.2.2) (way_pm hl hw (i := j) (by lia)) ih.1 ih.2.1 ih.2.2
    simp only [rdN]
    push_cast
    have e : rdN ws (x, y, d, f) j = ((rdN ws (x, y, d, f) j).1, (rdN ws (x, y, d, f) j).2.1, (rdN ws (x, y, d, f) j).2.2.1, (rdN ws (x, y, d, f) j).2.2.2) := rfl
    rw [e]
    have e1 : 1000 + 2 * ((j : Int) + 1) = 1000 + 2 * (j : Int) + 2 := by lia
    have e2 : 1000 + ((j : Int) + 1) = 1000 + (j : Int) + 1 := by lia
    rw [e1, e2]
    exact b
theorem piece_len (f : Int) : (piece f).length = 2 := by
  unfold piece
  rw [Str.length_append, PyProof.Rows.len_item]
  rfl
theorem rdN_len {ws : List Int} {s : RSt} : ∀ j, (rdN ws s j).2.2.2.length = s.2.2.2.length + 2 * j
  | 0 => rfl
  | j + 1 => by
    show (piece _ ++ (rdN ws s j).2.2.2).length = _
    rw [Str.length_append, piece_len, rdN_len j]
    lia
noncomputable def figsText (k : Int) : Str := Txt.join (Str.ofString "") ((List.range' 0 8).map fun i => piece (fig k (7 - i)))

noncomputable def digS (f : Int) : Str := Txt.item (Str.ofString "012") f
noncomputable def textOf : List Int → Str
  | [] => Str.ofString ""
  | d :: ds => piece d ++ textOf ds
theorem dig0 : digS 0 = ⟨#[48]⟩ := by decide
theorem dig1 : digS 1 = ⟨#[49]⟩ := by decide
theorem dig2 : digS 2 = ⟨#[50]⟩ := by decide
noncomputable def dcode (f : Int) : Nat := if f = 0 then 48 else if f = 1 then 49 else 50
theorem digS_eq {f : Int} (h : f = 0 ∨ f = 1 ∨ f = 2) : digS f = ⟨#[dcode f]⟩ := by
  rcases h with rfl | rfl | rfl <;> decide
theorem piece_cps {f : Int} (h : f = 0 ∨ f = 1 ∨ f = 2) : (piece f).cps.toList = [32, dcode f] := by
  show (Str.ofString " " ++ digS f).cps.toList = _
  rw [Str.cps_append, PySem.W.KCtr.blank_mk, digS_eq h]
  rfl
noncomputable def IsFig (f : Int) : Prop := f = 0 ∨ f = 1 ∨ f = 2
theorem textOf_cps : ∀ {ds : List Int}, (∀ d ∈ ds, IsFig d) → (textOf ds).cps.toList = ds.flatMap fun d => [32, dcode d]
  | [], _ => by simp [textOf]; decide
  | d :: ds, h => by
    have ih := textOf_cps (ds := ds) fun x hx => h x (.tail _ hx)
    show (piece d ++ textOf ds).cps.toList = _
    rw [Str.cps_append, Array.toList_append, piece_cps (h d (.head _)), ih]
    rfl
theorem dcode_nosp {f : Int} (h : IsFig f) : Unicode.isSpace (dcode f) = false := by
  rcases h with rfl | rfl | rfl <;> decide
theorem step_blank (ws : List Str) (r : Str) (hr : r.length ≠ 0) : KWd.step (ws, r) 32 = (ws ++ [r], Str.empty) := by
  unfold KWd.step
  rw [if_pos (by decide), if_neg hr]
theorem step_dig (ws : List Str) (r : Str) {f : Int} (h : IsFig f) : KWd.step (ws, r) (dcode f) = (ws, r ++ digS f) := by
  unfold KWd.step
  rw [if_neg (by rw [dcode_nosp h]; decide), digS_eq h]
theorem scan_run : ∀ (ds : List Int) (ws : List Str) (e : Int), IsFig e → (∀ d ∈ ds, IsFig d) → KWd.fin ((ds.flatMap fun d => [32, dcode d]).foldl KWd.step (ws, digS e)) = ws ++ (e :: ds).map digS
  | [], ws, e, he, _ => by
    show KWd.fin (ws, digS e) = _
    unfold KWd.fin
    rw [if_neg (by simp [digS_eq he, Str.length])]
    rfl
  | d :: ds, ws, e, he, h => by
    have hd := h d (.head _)
    show KWd.fin ((ds.flatMap fun d => [32, dcode d]).foldl KWd.step (KWd.step (KWd.step (ws, digS e) 32) (dcode d))) = _
    rw [step_blank _ _ (by simp [digS_eq he, Str.length]), step_dig _ _ hd, PySem.W.KPc.empty_app, scan_run ds _ d hd fun x hx => h x (.tail _ hx)]
    simp
theorem words_text {ds : List Int} (h : ∀ d ∈ ds, IsFig d) : Txt.words (textOf ds) = ds.map digS := by
  rw [KWd.words_scan]
  unfold KWd.scan
  rw [textOf_cps h]
  cases ds with
  | nil => rfl
  | cons d ds =>
    have hd := h d (.head _)
    show KWd.fin ((ds.flatMap fun d => [32, dcode d]).foldl KWd.step (KWd.step (KWd.step ([], Str.empty) 32) (dcode d))) = _
    have e : KWd.step ([], Str.empty) 32 = ([], Str.empty) := by
      unfold KWd.step
      rw [if_pos (by decide), if_pos (by decide)]
    rw [e, step_dig _ _ hd, PySem.W.KPc.empty_app, scan_run ds _ d hd fun x hx => h x (.tail _ hx)]
    rfl
theorem textOf_len : ∀ ds : List Int, (textOf ds).length = 2 * ds.length
  | [] => rfl
  | d :: ds => by
    show (piece d ++ textOf ds).length = _
    rw [Str.length_append, piece_len, textOf_len ds, List.length_cons]
    lia
noncomputable def figs (k : Int) : List Int := (List.range' 0 8).map fun i => fig k (7 - i)
theorem figs_fig (k : Int) : ∀ d ∈ figs k, IsFig d := fun d hd => by
  obtain ⟨i, _, rfl⟩ := List.mem_map.mp hd
  exact fig_cases k _
theorem app_empty (a : Str) : Str.ofString "" ++ a = a := Str.ext' (by rw [Str.cps_append]; rw [show (Str.ofString "").cps = #[] from by decide]; simp)
theorem joinS_none : ∀ ys : List Str, Str.join (Str.ofString "") ys = ys.foldr (· ++ ·) (Str.ofString "")
  | [] => by show (Str.join (Str.ofString "") [] : Str) = Str.ofString ""; decide
  | [x] => by show x = x ++ Str.ofString ""; rw [PySem.W.KFm.cat_t]
  | x :: y :: r => by
    have ih := joinS_none (y :: r)
    show x ++ Str.ofString "" ++ Str.join (Str.ofString "") (y :: r) = x ++ (y :: r).foldr (· ++ ·) (Str.ofString "")
    rw [PySem.W.KFm.cat_t, ih]
theorem join_none (ys : List Str) : Txt.join (Str.ofString "") ys = ys.foldr (· ++ ·) (Str.ofString "") := (StrLaws.glued_eq_join _ _).trans (joinS_none ys)
theorem textOf_foldr : ∀ ds : List Int, textOf ds = (ds.map piece).foldr (· ++ ·) (Str.ofString "")
  | [] => rfl
  | d :: ds => by
    show piece d ++ textOf ds = piece d ++ _
    rw [textOf_foldr ds]
theorem figsText_eq (k : Int) : figsText k = textOf (figs k) := by
  unfold figsText figs
  rw [join_none, textOf_foldr, List.map_map]
  rfl

theorem three_pow_ne (n : Nat) : (3 : Int) ^ n ≠ 0 := Int.pow_ne_zero (by decide)
theorem three_small {n : Nat} (h : n ≤ 15) : ((3 : Int) ^ n).natAbs < 1073741824 := by
  have : ∀ n ∈ List.range 16, ((3 : Int) ^ n).natAbs < 1073741824 := by decide
  exact this n (List.mem_range.mpr (by lia))
theorem floordiv_three {prog : Program} {w : World} {A : Around} {E : Value → Shared → Prop} {s : Shared} {a : Int} {n : Nat} {t u : Tok} {Q : Value → Shared → Prop} (hn : n ≤ 15) (h : Q (.int (a.fdiv (3 ^ n)) s.toks) { s with toks := s.toks + 1 }) :
    wpAny (model prog w) A (binaryOp .FloorDiv (.int a t) (.int (3 ^ n) u)) Q E s := floordiv_int (three_pow_ne n) h (Or.inl (PyProof.noPylong_small (three_small hn)))
theorem units_item {prog : Program} {w : World} {A : Around} {E : Value → Shared → Prop} {s : Shared} {Q : Value → Shared → Prop} {h₀ : Heap} {L : Addr} {m : Str → Option Value} {news : List (Addr × Obj)}
    {value slice : PySem.Expr} {l a0 a1 a2 : Addr} {n : Nat} {i : Int} {u t0 t1 t2 t3 t4 t5 : Tok}
    (F : Fr h₀ L s.heap m) (N : News h₀ L s.heap news) (hl : (l, listOf #[.ref a0, .ref a1, .ref a2] n) ∈ news)
    (h0 : (a0, ({ cls := .type "tuple", data := .seq #[.int 1 t0, .int 0 t1] } : Obj)) ∈ news) (h1 : (a1, ({ cls := .type "tuple", data := .seq #[.int 0 t2, .int 1 t3] } : Obj)) ∈ news) (h2 : (a2, ({ cls := .type "tuple", data := .seq #[.int (-1) t4, .int (-1) t5] } : Obj)) ∈ news)
    (hi0 : 0 ≤ i) (hi3 : i < 3)
    (h : ∀ a t t', News h₀ L s.heap ((a, ({ cls := .type "tuple", data := .seq #[.int (uX i) t, .int (uY i) t'] } : Obj)) :: news) → Q (.ref a) s)
    (hs : subscripted slice false (.ref l) (.int i u) = operate [.ref l, .int i u] (getItem (.ref l) (.int i u)) := by with_unfolding_all rfl) (hg : ∀ r, letTemporaryGo value (.ref l) r = pure () := by intro _; with_unfolding_all rfl) :
    wpAny (model prog w) A (subscriptTail value slice (.ref l) (.int i u)) Q E s := by
  have hL : s.heap.IsList l [Value.ref a0, .ref a1, .ref a2].toArray := ⟨_, (N _ hl).1, rfl, n, rfl⟩
  have add : ∀ a o, (a, o) ∈ news → News h₀ L s.heap ((a, o) :: news) := fun a o hm p hp => by
    rcases List.mem_cons.mp hp with rfl | hp
    · exact N _ hm
    · exact N _ hp
  have c : i = 0 ∨ i = 1 ∨ i = 2 := by lia
  rcases c with rfl | rfl | rfl
  · exact item_listL hL (by decide) (by decide) (x := .ref a0) rfl (h a0 _ _ (add _ _ h0)) hs hg
  · exact item_listL hL (by decide) (by decide) (x := .ref a1) rfl (h a1 _ _ (add _ _ h1)) hs hg
  · exact item_listL hL (by decide) (by decide) (x := .ref a2) rfl (h a2 _ _ (add _ _ h2)) hs hg
theorem fmod3 (i : Int) : 0 ≤ i.fmod 3 ∧ i.fmod 3 < 3 := by
  rw [Int.fmod_eq_emod_of_nonneg _ (by decide)]
  lia

theorem cmp_rest {prog : Program} {w : World} {A : Around} {h₀ : Heap} {L : Addr} {m : Nm} {env : Env} {elt : PySem.Expr} {x : Str} {scope : Scope} {cl : List (Str × Addr)} {s : Shared} {S : Led → Prop} {P : Nat → Value → Prop} {Fin : List Value → Led → Prop} {news : Led} {n : Nat} (El : Nat → Value → Prop)
    (turn : ∀ i v I oI C oC D m₂ ys h tk (E' : Value → Shared → Prop), i < n → P i v → LCg.NsObj oC m₂ → m₂ x = some v → Fr h₀ L h m → News h₀ L h ((I, oI) :: (C, oC) :: (D, LCg.lst ys) :: news) → LCg.Off3 I C D news → ((@Ne Nat I C) ∧ (@Ne Nat I D) ∧ (@Ne Nat C D)) →
      wpAny (model prog w) A (eval elt (compEnvC scope cl C env)) (LCg.CompEnd h₀ L m { s with heap := h, toks := tk } I oI C oC D (LCg.lst ys) S (fun y news' => news' = news ∧ El i y)) E' { s with heap := h, toks := tk })
    (fin : ∀ ys, ys.length = n → (∀ i y, ys[i]? = some y → El i y) → Fin ys news) : LCg.CompRest prog w A h₀ L m env elt x scope cl s S P Fin n 0 [] news := by
  have key : ∀ (j i : Nat) (ys : List Value), i + j = n → ys.length = i → (∀ i y, ys[i]? = some y → El i y) → LCg.CompRest prog w A h₀ L m env elt x scope cl s S P Fin j i ys news := by
    intro j
    induction j with
    | zero =>
      intro i ys hi hl hy
      exact LCg.CompRest.zero (fin ys (hl.trans hi) hy)
    | succ j ih =>
      intro i ys hi hl hy
      refine LCg.CompRest.succ ?_
      intro v I oI C oC D m₂ h tk E' hv hC hx F N off ne
      refine wpAny_mono (turn i v I oI C oC D m₂ ys h tk E' (hi ▸ Nat.lt_add_of_pos_right (Nat.succ_pos j)) hv hC hx F N off ne) (fun y s₂ hq => ?_) fun _ _ e => e
      refine exE3 hq fun h' tk' nw hq => ?_
      refine anE6 hq fun e F' N' off' hS hq => ?_
      refine exI3 h' tk' nw ⟨e, F', N', off', hS, ?_⟩
      have hel := hq.2
      rw [hq.1]
      refine ih (i + 1) _ ((Nat.succ_add_eq_add_succ i j).trans hi) (by rw [List.length_append, hl]; rfl) ?_
      exact snoc_at hy (hl.symm ▸ hel)
  exact key n 0 [] (Nat.zero_add n) rfl fun _ _ h => nomatch (show none = some _ from h)

noncomputable def SrcD (prog : Program) (w : World) (A : Around) (h₀ : Heap) (L : Addr) (m : Nm) (env : Env) (elt : PySem.Expr) (x : Str) (scope : Scope) (cl : List (Str × Addr)) (Fin : Shared → List Value → Led → Prop) (xv : Value) (s₁ : Shared) : Prop :=
  ∃ r a b t u v n news, xv = .ref r ∧ A.handled = none ∧ Fr h₀ L s₁.heap m ∧ News h₀ L s₁.heap news ∧ IsRange s₁.heap r a b (-1) t u v ∧ Builtin.Range.small a b (-1) = true ∧ Builtin.Range.rangeSize a b (-1) = ((n : Nat) : Int) ∧ n ≤ sizeLine ∧
    ∀ s₂ : Shared, (∃ h, s₂ = { s₁ with heap := h }) → LCg.CompRest prog w A h₀ L m env elt x scope cl s₂ (fun _ => True) (fun i v => ∃ t, v = .int (a + (i : Int) * (-1)) t) (Fin s₂) n 0 [] news
section
variable {prog : Program} {w : World} {A : Around} {E : Value → Shared → Prop} {s : Shared} {h₀ : Heap} {L : Addr} {m : Nm} {env : Env}
theorem downSt {I : Addr} {a : Int} {n : Nat} : ∀ i (h h' : Heap) (o : Obj) (nw : Led), IsRangeIter h I (a + (i : Nat) * (-1)) ((n : Int) - (i : Nat)) (-1) → h.get? I = some o → h'.get? I = some o → (∀ b o, h₀.get? b = some o → h'.get? b = some o) → News h₀ L h' nw → True → IsRangeIter h' I (a + (i : Nat) * (-1)) ((n : Int) - (i : Nat)) (-1) :=
  fun i h h' o nw st e e' _ _ _ => by
    have st' : h.get? I = some _ := st
    show h'.get? I = some _
    rw [e', ← e]; exact st'
theorem ListComp_D {elt iter : PySem.Expr} {x : Str} {px : Pos} {scope : Scope} {cl : List (Str × Addr)} {pos : Pos} {Q : Value → Shared → Prop} (F₀ : Fr h₀ L s.heap m)
    (hclos : closureFor scope env = pure cl) (hcell : ∀ y ∈ scope.names, y.2 ≠ .cell) (hkind : scope.kind = .function)
    (hnames : ∀ y ∈ scope.names, y.2 = .local → scope.names.lookup y.1 = some .local) (hx : scope.names.lookup x = some .local)
    (h : wpAny (model prog w) A (eval iter env) (SrcD prog w A h₀ L m env elt x scope cl (fun s₂ => LCg.FinE h₀ L m s₂ Q)) E s)
    (hs : ∀ x, foldedSetIterable iter env x = pure x := by intro _; rfl) :
    wpAny (model prog w) A (eval (.ListComp elt [⟨.Name x px, iter, [], 0⟩] scope pos) env) Q E s := by
  rw [eval_ListComp]
  refine wpAny_comprehension_free (use := none) rfl hs hclos hkind hnames (wpAny_mono h (fun xv s₁ h₁ => ?_) fun _ _ e => e)
  refine exE8 h₁ fun r a b t u v n news h₁ => ?_
  refine anE9 h₁ fun e hh F N hr hsm hn hsz R => ?_
  clear h₁
  subst e
  refine wpAny_pyIter_range hr hsm ?_
  refine LCg.block_U (Walks.range hh s₁.heap.objs.size a (-1) n) hsz (fun i h st => ⟨_, st⟩) downSt hcell hkind hx (by show IsRangeIter _ _ _ _ _; rw [hn]; simpa using Heap.get?_push_size _ rfl) (fun b hb => ?_)
    (F.keeps fun _ _ e => Heap.get?_push_of_some _ e) (N.grown fun _ _ e => Heap.get?_push_of_some _ e) (Nat.ne_of_lt F.ns.lt) (next_is_new F) (fun p hp => Nat.ne_of_lt (Heap.lt_size (N p hp).1)) trivial (R _ ⟨_, rfl⟩) ?_
  · rw [List.mem_singleton.mp hb]
    show s₁.heap.objs.size < (s₁.heap.push _).objs.size
    rw [Heap.size_push]; exact Nat.lt_succ_self _
  · intro D C h tk m' ys news' F' N' o1 hn hC₀ hD₀ hCL hDL hCD offC fin
    refine ⟨m', hn, fun h'' hs'' => fin D h'' tk (F'.change hs'' hCL hC₀) (fun p hp => ?_) o1⟩
    refine ⟨hs''.extBut _ _ ?_ (N' p hp).1, (N' p hp).2⟩
    rcases List.mem_cons.mp hp with rfl | hp
    · exact Ne.symm hCD
    · exact offC p hp
end
theorem strs_of (f : Nat → Str) : ∀ (ys : List Value) (j : Nat), (∀ (i : Nat) (y : Value), ys[i]? = some y → ∃ t, y = Value.str (f (j + i)) t) → StrsAre ys ((List.range' j ys.length).map f)
  | [], _, _ => .nil
  | y :: ys, j, h => by
    obtain ⟨t, rfl⟩ := h 0 y rfl
    have ih := strs_of f ys (j + 1) (fun i y hy => by
      have := h (i + 1) y (by simpa using hy)
      rwa [show j + (i + 1) = j + 1 + i by lia] at this)
    exact .cons _ _ ih
theorem el_str {x y : Str} {t : Tok} (e : x = y) : ∃ t', Value.str x t = Value.str y t' := ⟨t, by rw [e]⟩

theorem fresh_G_figs : True := by
  k_with_none
  w_on
  w_top off
  (k_with "1 my enterC" => (refine' code_defC ?k1 ?k2 ?k3 ?k4 ?k5 ?kA ?kF ?kK ?k6 ?k7 ?k8 ?k9 ?kB ?kD ?_ ?c2 ?c3 ?c4; walk_at "ce"; (case k9 => first | exact BindsTo.of_eq rfl | exact binds_K (by k_in) rfl (by k_is) rfl rfl rfl | fail "my enter: no rule for these arguments"); (case kB => exact rfl); (case kD => decide +kernel); (case c2 => exact rfl); (case c3 => exact rfl); (case c4 => exact rfl); k_whole; intro g' L' h' tk' cells' FG' F' N' Y' B' X' T' lE9; (try k_lt lE9); k_cells Y'; (try simp only [List.cons_append, List.nil_append] at N'); (try dsimp only); (try k_lift B'); (try k_fold)))
  (k_with "1 my news" => (first | assumption | (refine Mine.newsSub (by assumption) ?_; kcj_all) | (refine Mine.newsSub (by assumption) ?_; intro _ hp; repeat (first | exact hp | refine List.Mem.tail _ ?_))))
  (k_with "1 ce" => ((case kA => first | assumption | exact rfl); (case kF => first | assumption | exact rfl); (case kK => first | assumption | exact rfl); (case k1 => k_asm); (case k2 => k_asm); (case k3 => k_asm); (case k4 => k_asm); (case k5 => k_asm); (case k6 => k_is); (case k7 => k_is); (case k8 => first | assumption | ktr_room)))
  (k_with "1 eval Name" => (k_here; k_dflt (refine' nameX_L ?F ?v ?_ ?a ?b ?c; (case F => k_asm); (case a => rfl); (case b => rfl); (case v => first | exact @rfl (Option Value) (some _) | assumption); (case c => decide); k_whole)))
  (k_with "1 binaryOp FloorDiv int int" => ((with_reducible show wpAny _ _ (binaryOp _ (Value.int _ _) (Value.int (3 ^ _) _)) _ _ _); refine Mine.floordiv_three (by lia) ?_; (try dsimp only)))
  (k_with "1 eval ListComp BinOp" => k_extra "my comp")
  trivial
namespace figs_call_z
noncomputable def zS (zkk : KXC) (w : World) (mean : Mean) (mg : Nm) (mb : Nm) (news : Led) (k : Int) (t : Tok) : Prop := ∀ (h0 : 0 ≤ k) (h1 : k < 10000), CallsAt w mean mg mb 12 news (call (.ref 168) [Value.int k t]) (Ret news (fun t => .str (figsText k) t)) (zkk.1) (zkk.2.1) (zkk.2.2.1) (zkk.2.2.2.1) (zkk.2.2.2.2.1) (zkk.2.2.2.2.2.1) (zkk.2.2.2.2.2.2.1) (zkk.2.2.2.2.2.2.2.1) (zkk.2.2.2.2.2.2.2.2.1) (zkk.2.2.2.2.2.2.2.2.2.1) (zkk.2.2.2.2.2.2.2.2.2.2.1) (zkk.2.2.2.2.2.2.2.2.2.2.2.1) (zkk.2.2.2.2.2.2.2.2.2.2.2.2.1) (zkk.2.2.2.2.2.2.2.2.2.2.2.2.2.1) (zkk.2.2.2.2.2.2.2.2.2.2.2.2.2.2.1) (zkk.2.2.2.2.2.2.2.2.2.2.2.2.2.2.2.1) (zkk.2.2.2.2.2.2.2.2.2.2.2.2.2.2.2.2)
noncomputable abbrev zT : Type := (KXC) × (World) × (Mean) × (Nm) × (Nm) × (Led) × (Int) × (Tok)
noncomputable def zP (x : zT) : Prop := zS x.1 x.2.1 x.2.2.1 x.2.2.2.1 x.2.2.2.2.1 x.2.2.2.2.2.1 x.2.2.2.2.2.2.1 x.2.2.2.2.2.2.2
theorem zne : Nonempty zT := ⟨(dKXC, dW, fun _ => none, fun _ => none, fun _ => none, [], 0, (0 : Nat))⟩
noncomputable def zc : zT := @Classical.epsilon _ zne fun x => ¬ zP x
@[irreducible] noncomputable def zkk : KXC := zc.1
@[irreducible] noncomputable def w : World := zc.2.1
@[irreducible] noncomputable def mean : Mean := zc.2.2.1
@[irreducible] noncomputable def mg : Nm := zc.2.2.2.1
@[irreducible] noncomputable def mb : Nm := zc.2.2.2.2.1
@[irreducible] noncomputable def news : Led := zc.2.2.2.2.2.1
@[irreducible] noncomputable def k : Int := zc.2.2.2.2.2.2.1
@[irreducible] noncomputable def t : Tok := zc.2.2.2.2.2.2.2
theorem zmain : zS zkk w mean mg mb news k t := by
  unfold zS
  intro h0 h1
  dsimp only [CallsAt, Ret, KH, VW, prg]
  k_fill
  intros; rename_i hret
  refine wpAny_call ?_
  walk_at "my enterC"
  (k_with "my comp" => (k_dflt (refine Mine.ListComp_D (F₀ := by k_asm) (by rfl) (by decide) (by rfl) (by decide) (by rfl) ?_)))
  k_steps
  refine ⟨_, 7, -1, _, _, _, 8, _, rfl, rfl, by k_asm, by k_asm, by assumption, by decide, by decide, by decide, fun s₂ hs₂ => ?_⟩
  obtain ⟨g9, rfl⟩ := hs₂
  refine cmp_rest (El := fun i y => ∃ t, y = .str (piece (fig k (7 - i))) t) ?_ ?_
  · intro i v I oI C oC D m₂ ys h tk E' hi hv hC hx F N off ne
    obtain ⟨t9, rfl⟩ := hv
    k_steps
    refine ⟨_, _, _, rfl, by assumption, by assumption, off, trivial, rfl, el_str ?_⟩
    rw [show (7 + (i : Int) * -1).toNat = 7 - i by lia]
    rfl
  · intro ys hl hy
    k_steps
    refine join_listW (by is_list) (ys := (List.range' 0 8).map fun i => piece (fig k (7 - i))) ?_ (by decide) ?_ ?_
    · have := strs_of (fun i => piece (fig k (7 - i))) ys 0 (by simpa using hy)
      rwa [hl] at this
    · simp [piece_len, List.range']
    · intro t9 k9
      k_steps
      exact ret_str hret rfl (by assumption) (by walk_at "my news")
end figs_call_z
theorem figs_call (w : World) (mean : Mean) (mg mb : Nm) (news : Led) (k : Int) (t : Tok) (h0 : 0 ≤ k) (h1 : k < 10000) : Calls w mean mg mb 12 news (call (.ref 168) [Value.int k t]) (Ret news (fun t => .str (figsText k) t)) := by
  intro kdp kun kgd kcn kcs ka kccd kcl kouter kA kbase kh kL km ks kQ kE
  exact @clz _ figs_call_z.zP figs_call_z.zne (by with_unfolding_all exact figs_call_z.zmain) ((kdp, kun, kgd, kcn, kcs, ka, kccd, kcl, kouter, kA, kbase, kh, kL, km, ks, kQ, kE), w, mean, mg, mb, news, k, t) h0 h1

noncomputable def EnPost (h₀ : Heap) (L : Addr) (its news : Led) (J : Nm → Prop) (s : Shared) (Q : Flow → Shared → Prop) (f : Flow) (s' : Shared) : Prop :=
  match f with
  | .ret v => Q (.ret v) s'
  | .brk => Q .next s'
  | _ => ∃ h' tk m', s' = { s with heap := h', toks := tk } ∧ Fr h₀ L h' m' ∧ News h₀ L h' (its ++ news) ∧ J m'
section
variable {prog : Program} {w : World} {A : Around} {E : Value → Shared → Prop} {s : Shared} {env : Env} {h₀ : Heap} {target : PySem.Expr} {body : List Stmt} {Q : Flow → Shared → Prop}
theorem objs_mem {ws : List (Addr × String)} {its : Led} (h : Objs ws its) : ∀ q ∈ its, ∃ x ∈ ws, q.1 = x.1 := fun q hq => by
  have e := h.map
  have : q.1 ∈ ws.map (·.1) := by rw [← e]; exact List.mem_map.mpr ⟨q, hq, rfl⟩
  obtain ⟨x, hx, hxe⟩ := List.mem_map.mp this
  exact ⟨x, hx, hxe.symm⟩
theorem objs2 {a b : Addr} {x y : String} {its : Led} (h : Objs [(a, x), (b, y)] its) : ∃ oa ob, its = [(a, oa), (b, ob)] := by
  cases its with
  | nil => exact (show False from h).elim
  | cons p r =>
    cases r with
    | nil => exact (show False from h.2).elim
    | cons q r =>
      cases r with
      | nil =>
        obtain ⟨pa, po⟩ := p
        obtain ⟨qa, qo⟩ := q
        have e1 : pa = a := h.1.1
        have e2 : qa = b := h.2.1.1
        subst e1 e2
        exact ⟨po, qo, rfl⟩
      | cons z r => exact (show False from h.2.2).elim
theorem allObj_of {ws : List (Addr × String)} {k : Led → Prop} (h : ∀ its, Objs ws its → k its) : AllObj ws k := by
  induction ws generalizing k with
  | nil => exact h [] trivial
  | cons w r ih =>
    intro o ho
    exact ih fun its hits => h _ ⟨⟨rfl, ho⟩, hits⟩
theorem items_inv {ws : List (Addr × String)} {keep news : Led} {J : Nat → Nm → Prop} (hk : SubL keep news) (hoff : ∀ p ∈ news, ∀ x ∈ ws, p.1 ≠ x.1) : ∀ (xs : List Itm) (j : Nat) (m₁ : Nm), J j m₁ →
    (∀ i a m₁ v h tk its, xs[i]? = some a → J (j + i) m₁ → a.Is v h → Fr h₀ env.locals h m₁ → Objs ws its → News h₀ env.locals h (its ++ news) →
      wpAny (model prog w) A (assign target env v) (fun _ s₂ => wpAny (model prog w) A (execs body env) (EnPost h₀ env.locals its news (J (j + i + 1)) { s with heap := h, toks := tk } Q) E s₂) E { s with heap := h, toks := tk }) →
    (∀ n m' h tk, n = j + xs.length → J n m' → Fr h₀ env.locals h m' → News h₀ env.locals h news → Q .next { s with heap := h, toks := tk }) →
    ItemsRest prog w A E h₀ env target body Q s ws keep xs m₁ news := by
  intro xs
  induction xs with
  | nil => exact fun j m₁ hJ _ fin h tk F N => fin j m₁ h tk rfl hJ F N
  | cons a r ih =>
    intro j m₁ hJ turn fin v h tk hv F
    refine allObj_of fun its hits N => ?_
    refine wpAny_mono (turn 0 a m₁ v h tk its rfl hJ hv F hits N) (fun _ s₂ h₂ => wpAny_mono h₂ (fun f s₃ p => ?_) fun _ _ e => e) fun _ _ e => e
    have go : (∃ h' tk' m', s₃ = { s with heap := h', toks := tk' } ∧ Fr h₀ env.locals h' m' ∧ News h₀ env.locals h' (its ++ news) ∧ J (j + 0 + 1) m') →
        UnrEndW h₀ env.locals { s with heap := h, toks := tk } its (fun m' n' => SubL keep n' ∧ ItemsRest prog w A E h₀ env target body Q s ws keep r m' n') s₃ := by
      rintro ⟨h', tk', m', e, F', N', hJ'⟩
      refine ⟨h', tk', m', news, e, F', N', fun p hp q hq => ?_, hk, ?_⟩
      · obtain ⟨x, hx, hxe⟩ := objs_mem hits q hq
        rw [hxe]
        exact hoff p hp x hx
      · refine ih (j + 1) m' hJ' (fun i a' m₂ v' h₂ tk₂ its₂ hi' hJ₂ => ?_) (fun n m₂ h₂ tk₂ hn => fin n m₂ h₂ tk₂ (by rw [hn, List.length_cons]; lia))
        have := turn (i + 1) a' m₂ v' h₂ tk₂ its₂ (by simpa using hi')
        rw [show j + (i + 1) = j + 1 + i by lia] at this
        exact this hJ₂
    cases f with
    | ret v => exact p
    | brk => exact p
    | next => exact go p
    | cont => exact go p
theorem enum_loop {elts : List PySem.Expr} {k : Nat} {pos : Pos} {l : Addr} {lo : Obj} {vs : List Value} {n : Nat} {m₀ : Nm} {news : Led} (J : Nat → Nm → Prop)
    (hh : A.handled = none) (F : Fr h₀ env.locals s.heap m₀) (N : News h₀ env.locals s.heap news) (hm : (l, lo) ∈ news) (hc : lo.cls = .type "list") (hd : lo.data = .seq vs.toArray n) (hJ : J 0 m₀)
    (turn : ∀ i x T t I oe oi m₁ h tk, vs[i]? = some x → J i m₁ → IsTup h T #[.int (i : Int) t, x] → Fr h₀ env.locals h m₁ → News h₀ env.locals h ((I + 1, oe) :: (I, oi) :: news) → (∀ p ∈ news, p.1 < I) →
      wpAny (model prog w) A (assign (.Tuple elts k pos) env (.ref T)) (fun _ s₂ => wpAny (model prog w) A (execs body env) (EnPost h₀ env.locals [(I + 1, oe), (I, oi)] news (J (i + 1)) { s with heap := h, toks := tk } Q) E s₂) E { s with heap := h, toks := tk })
    (done : ∀ m' h tk, J vs.length m' → Fr h₀ env.locals h m' → News h₀ env.locals h news → Q .next { s with heap := h, toks := tk }) :
    wpAny (model prog w) A (call (.type "enumerate") [.ref l]) (fun xv s₁ => wpAny (model prog w) A (pyIter xv) (fun it s₂ => TurnsAt prog w A h₀ env (.Tuple elts k pos) body Q E it s₂) E s₁) E s := by
  refine ktu_enum hh F N hm hc hd rfl fun I hI => ?_
  refine items_inv (J := J) (show SubL [(l, lo)] news from And.intro hm trivial) (fun p hp x hx => ?_) (enumItems 0 vs) 0 m₀ hJ ?_ ?_
  · have hlt := hI p hp
    rcases List.mem_cons.mp hx with rfl | hx
    · exact Nat.ne_of_lt (Nat.lt_succ_of_lt hlt)
    · rw [List.mem_singleton.mp hx]; exact Nat.ne_of_lt hlt
  · intro i a m₁ v h tk its hi hJ₁ hv F₁ hits N₁
    have hlt : i < vs.length := by
      rcases Nat.lt_or_ge i vs.length with h1 | h1
      · exact h1
      · rw [List.getElem?_eq_none (by rw [enumItems_length]; exact h1)] at hi; cases hi
    have hx : vs[i]? = some vs[i] := List.getElem?_eq_getElem hlt
    have e := enumItems_get vs 0 i hx
    obtain rfl := Option.some.inj (hi.symm.trans e)
    obtain ⟨T, t, rfl, hT⟩ := hv
    simp only [Nat.zero_add] at hT hJ₁
    obtain ⟨oe, oi, rfl⟩ := objs2 hits
    have := turn i vs[i] T t I oe oi m₁ h tk hx hJ₁ hT F₁ N₁ hI
    rw [Nat.zero_add]
    exact this
  · intro n m' h tk hn hJ' F' N'
    rw [enumItems_length] at hn
    obtain rfl : n = vs.length := by lia
    exact done m' h tk hJ' F' N'
end
noncomputable def Turned (names : List Str) (x : Str) (V : Tok → Value) (m₀ m : Nm) : Prop := (∃ t, m x = some (V t)) ∧ ∀ z, names.contains z = false → m z = m₀ z
theorem Turned.fr {names : List Str} {x : Str} {V : Tok → Value} {m₀ m : Nm} {h₀ h : Heap} {L : Addr} (J : Turned names x V m₀ m) (F : Fr h₀ L h m) : ∃ t, Fr h₀ L h (fun z => if z = x then some (V t) else if names.contains z then m z else m₀ z) := by
  obtain ⟨⟨t, ht⟩, hz⟩ := J
  refine ⟨t, ?_⟩
  have e : (fun z => if z = x then some (V t) else if names.contains z then m z else m₀ z) = m := by
    funext z
    by_cases h1 : z = x
    · rw [if_pos h1, h1, ht]
    · rw [if_neg h1]
      cases h2 : names.contains z with
      | true => simp
      | false => simp only [Bool.false_eq_true, if_false]; exact (hz z h2).symm
  rw [e]; exact F
section
variable {prog : Program} {w : World} {A : Around} {E : Value → Shared → Prop} {s : Shared} {env : Env} {h₀ : Heap} {body : List Stmt} {Q : Flow → Shared → Prop}
theorem enum_turned {elts : List PySem.Expr} {k : Nat} {pos : Pos} {l : Addr} {lo : Obj} {vs : List Value} {n : Nat} {m₀ : Nm} {news : Led} (names : List Str) (x : Str) (V : Nat → Tok → Value)
    (hh : A.handled = none) (F : Fr h₀ env.locals s.heap m₀) (N : News h₀ env.locals s.heap news) (hm : (l, lo) ∈ news) (hc : lo.cls = .type "list") (hd : lo.data = .seq vs.toArray n) (hx : ∃ t, m₀ x = some (V 0 t))
    (turn : ∀ (i : Nat) y T t I oe oi (u : Nm) tx h tk, vs[i]? = some y → IsTup h T #[.int (i : Int) t, y] → Fr h₀ env.locals h (fun z => if z = x then some (V i tx) else if names.contains z then u z else m₀ z) → News h₀ env.locals h ((I + 1, oe) :: (I, oi) :: news) → (∀ p ∈ news, p.1 < I) →
      wpAny (model prog w) A (assign (.Tuple elts k pos) env (.ref T)) (fun _ s₂ => wpAny (model prog w) A (execs body env) (EnPost h₀ env.locals [(I + 1, oe), (I, oi)] news (Turned names x (V (i + 1)) m₀) { s with heap := h, toks := tk } Q) E s₂) E { s with heap := h, toks := tk })
    (done : ∀ (u : Nm) tx h tk, Fr h₀ env.locals h (fun z => if z = x then some (V vs.length tx) else if names.contains z then u z else m₀ z) → News h₀ env.locals h news → Q .next { s with heap := h, toks := tk }) :
    wpAny (model prog w) A (call (.type "enumerate") [.ref l]) (fun xv s₁ => wpAny (model prog w) A (pyIter xv) (fun it s₂ => TurnsAt prog w A h₀ env (.Tuple elts k pos) body Q E it s₂) E s₁) E s :=
  enum_loop (J := fun i m => Turned names x (V i) m₀ m) hh F N hm hc hd ⟨hx, fun _ _ => rfl⟩
    (fun i y T t I oe oi m₁ h tk hy hJ hT F₁ N₁ hI => by
      obtain ⟨tx, F'⟩ := hJ.fr F₁
      exact turn i y T t I oe oi m₁ tx h tk hy hT F' N₁ hI)
    (fun m' h tk hJ F₁ N₁ => by
      obtain ⟨tx, F'⟩ := hJ.fr F₁
      exact done m' tx h tk F' N₁)
end
theorem EnPost.mk {h₀ : Heap} {L : Addr} {its news : Led} {J : Nm → Prop} {s : Shared} {Q : Flow → Shared → Prop} {h' : Heap} {tk : Nat} {m' : Nm} (F : Fr h₀ L h' m') (N : News h₀ L h' (its ++ news)) (hJ : J m') : EnPost h₀ L its news J s Q .next { s with heap := h', toks := tk } :=
  ⟨h', tk, m', rfl, F, N, hJ⟩
theorem Turned.mk {names : List Str} {x : Str} {V : Tok → Value} {m₀ m : Nm} {v : Value} (h1 : m x = some v) (e : ∃ t, v = V t) (h2 : ∀ z, names.contains z = false → m z = m₀ z) : Turned names x V m₀ m := by
  obtain ⟨t, rfl⟩ := e
  exact ⟨⟨t, h1⟩, h2⟩
theorem el_bytes {x y : Array UInt8} {t : Tok} (e : x = y) : ∃ t', Value.bytes x t = Value.bytes y t' := ⟨t, by rw [e]⟩
theorem ret_bytes {h₀ h' : Heap} {L : Addr} {m : Nm} {news : Led} {s : Shared} {Q : Value → Shared → Prop} {t : Tok} {tk' : Nat} {x y : Array UInt8} (hret : ∀ (t : Tok) (h' : Heap) (tk' : Nat), Fr h₀ L h' m → News h₀ L h' news → Q (.bytes x t) { s with heap := h', toks := tk' }) (e : y = x) (F : Fr h₀ L h' m) (N : News h₀ L h' news) : Q (.bytes y t) { s with heap := h', toks := tk' } := by
  subst e
  exact hret t h' tk' F N

noncomputable abbrev dv (f : Int) (u : Tok) : Value := .str (digS f) u
theorem strsAre_map : ∀ {vs : List Value} {ds : List Int}, StrsAre vs (ds.map digS) → ∃ us : List Tok, us.length = ds.length ∧ vs = List.zipWith dv ds us
  | _, [], h => by cases h; exact ⟨[], rfl, rfl⟩
  | _, d :: ds, h => by
    cases h with
    | cons _ t h =>
      obtain ⟨us, hl, rfl⟩ := strsAre_map h
      exact ⟨t :: us, by simp [hl], rfl⟩
theorem split8 {prog : Program} {w : World} {A : Around} {E : Value → Shared → Prop} {s : Shared} {h₀ : Heap} {L : Addr} {m : Nm} {news : Led} {d7 d6 d5 d4 d3 d2 d1 d0 : Int} {t : Tok} {Q : Value → Shared → Prop} (hF : Fr h₀ L s.heap m) (hN : News h₀ L s.heap news)
    (hd : ∀ d ∈ [d7, d6, d5, d4, d3, d2, d1, d0], IsFig d)
    (h : ∀ D u7 u6 u5 u4 u3 u2 u1 u0 h' k, Fr h₀ L h' m → News h₀ L h' ((D, listOf #[.str (digS d7) u7, .str (digS d6) u6, .str (digS d5) u5, .str (digS d4) u4, .str (digS d3) u3, .str (digS d2) u2, .str (digS d1) u1, .str (digS d0) u0] 0) :: news) → (∀ p ∈ news, @LT.lt Nat _ p.1 D) → Q (.ref D) { s with heap := h', toks := k }) :
    wpAny (model prog w) A (call (.builtin "str.split") [.str (textOf [d7, d6, d5, d4, d3, d2, d1, d0]) t]) Q E s := by
  refine KSpl.split0 hF hN (fun D l h' k e a F N o => ?_) (by rw [textOf_len]; exact Nat.le_of_ble_eq_true rfl)
  rw [words_text hd] at e
  rw [e] at a
  obtain ⟨us, hl, ev⟩ := strsAre_map a
  rw [ev] at N
  obtain ⟨u7, u6, u5, u4, u3, u2, u1, u0, rfl⟩ := list8 hl
  exact h D u7 u6 u5 u4 u3 u2 u1 u0 h' k F N o
noncomputable def labB (b0 b1 b2 b3 : Array UInt8) (i : Int) : Array UInt8 := if i = 0 then b0 else if i = 1 then b1 else if i = 2 then b2 else b3
theorem lab_item {prog : Program} {w : World} {A : Around} {E : Value → Shared → Prop} {s : Shared} {Q : Value → Shared → Prop} {h₀ : Heap} {L : Addr} {news : List (Addr × Obj)}
    {value slice : PySem.Expr} {l : Addr} {b0 b1 b2 b3 : Array UInt8} {n : Nat} {i : Int} {u t0 t1 t2 t3 : Tok}
    (N : News h₀ L s.heap news) (hl : (l, listOf #[.bytes b0 t0, .bytes b1 t1, .bytes b2 t2, .bytes b3 t3] n) ∈ news) (hi0 : 0 ≤ i) (hi4 : i < 4)
    (h : ∀ t, Q (.bytes (labB b0 b1 b2 b3 i) t) s)
    (hs : subscripted slice false (.ref l) (.int i u) = operate [.ref l, .int i u] (getItem (.ref l) (.int i u)) := by with_unfolding_all rfl) (hg : ∀ r, letTemporaryGo value (.ref l) r = pure () := by intro _; with_unfolding_all rfl) :
    wpAny (model prog w) A (subscriptTail value slice (.ref l) (.int i u)) Q E s := by
  have hL : s.heap.IsList l [Value.bytes b0 t0, .bytes b1 t1, .bytes b2 t2, .bytes b3 t3].toArray := ⟨_, (N _ hl).1, rfl, n, rfl⟩
  have c : i = 0 ∨ i = 1 ∨ i = 2 ∨ i = 3 := by lia
  rcases c with rfl | rfl | rfl | rfl
  · exact item_listL hL (by decide) (by decide) (x := .bytes b0 t0) rfl (h t0) hs hg
  · exact item_listL hL (by decide) (by decide) (x := .bytes b1 t1) rfl (h t1) hs hg
  · exact item_listL hL (by decide) (by decide) (x := .bytes b2 t2) rfl (h t2) hs hg
  · exact item_listL hL (by decide) (by decide) (x := .bytes b3 t3) rfl (h t3) hs hg
theorem fmod4 (i : Int) : 0 ≤ i.fmod 4 ∧ i.fmod 4 < 4 := by
  rw [Int.fmod_eq_emod_of_nonneg _ (by decide)]
  lia
theorem digS_reads {d : Int} (h : IsFig d) : PySem.intText? (digS d) = some d := by
  rcases h with rfl | rfl | rfl <;> decide +kernel
theorem int_dig {prog : Program} {w : World} {A : Around} {E : Value → Shared → Prop} {s : Shared} {Q : Value → Shared → Prop} {d : Int} {t : Tok} (hd : IsFig d) (h : Q (.int d s.toks) { s with toks := s.toks + 1 }) :
    wpAny (model prog w) A (call (.type "int") [.str (digS d) t]) Q E s := KIN.call_text (digS_reads hd) (by show 1 ≤ 640; decide) h

theorem fresh_I_text : True := by
  k_with_none
  w_on
  w_top off
  (k_with "1 my enter" => (refine' code_def ?k1 ?k2 ?k3 ?k4 ?k5 ?kA ?kF ?kK ?k6 ?k7 ?k8 ?k9 ?kB ?_ ?c2 ?c3 ?c4 ?c5; walk_at "ce"; (case k9 => first | exact BindsTo.of_eq rfl | exact binds_K (by k_in) rfl (by k_is) rfl rfl rfl | fail "my enter: no rule for these arguments"); (case c5 => decide); (case kB => exact locs rfl); (case c2 => exact rfl); (case c3 => exact rfl); (case c4 => exact rfl); k_whole; intro g' L' h' FG' F' N' B' X' T'; (try dsimp only); (try k_lift B'); (try k_fold)))
  (k_with "1 my news" => (first | assumption | (refine Mine.newsSub (by assumption) ?_; kcj_all) | (refine Mine.newsSub (by assumption) ?_; intro _ hp; repeat (first | exact hp | refine List.Mem.tail _ ?_))))
  (k_with "1 my rest" => (intro z hz; have hz' := hz; simp only [List.contains_cons, Bool.or_eq_false_iff, beq_eq_false_iff_ne, ne_eq, List.contains_nil, and_true] at hz'; simp only [hz', hz, if_false, Bool.false_eq_true, ↓reduceIte]))
  (k_with "1 ce" => ((case kA => first | assumption | exact rfl); (case kF => first | assumption | exact rfl); (case kK => first | assumption | exact rfl); (case k1 => k_asm); (case k2 => k_asm); (case k3 => k_asm); (case k4 => k_asm); (case k5 => k_asm); (case k6 => k_is); (case k7 => k_is); (case k8 => first | assumption | ktr_room)))
  (k_with "1 eval Name" => (k_here; k_dflt (refine' nameX_L ?F ?v ?_ ?a ?b ?c; (case F => k_asm); (case a => rfl); (case b => rfl); (case v => first | exact @rfl (Option Value) (some _) | assumption); (case c => decide); k_whole)))
  (k_with "1 storeName" => (k_here; k_dflt (first | (refine' Mine.storeT_F ?F ?N ?_ ?a ?b; (case F => k_asm); (case N => k_asm); (case a => rfl); (case b => rfl); k_whole; intro h' t' tk' F' N'; (try k_sweep)) | (refine' Mine.storeT_I ?F ?N ?_ ?a ?b; (case F => k_asm); (case N => k_asm); (case a => rfl); (case b => rfl); k_whole; intro h' t' tk' F' N'; (try k_sweep)) | (refine' Mine.storeT_S ?F ?N ?_ ?a ?b; (case F => k_asm); (case N => k_asm); (case a => rfl); (case b => rfl); k_whole; intro h' t' tk' F' N'; (try k_sweep)) | (refine' Mine.storeT_B ?F ?N ?_ ?a ?b; (case F => k_asm); (case N => k_asm); (case a => rfl); (case b => rfl); k_whole; intro h' t' tk' F' N'; (try k_sweep)))))
  (k_with "1 call builtin:str.split cons nil" => ((with_reducible show wpAny _ _ (call (Value.builtin "str.split") [Value.str (Mine.textOf _) _]) _ _ _); refine Mine.split8 (by k_asm) (by k_asm) (by first | assumption | exact Mine.figs_fig _) ?_; intro D' u7' u6' u5' u4' u3' u2' u1' u0' h' k' F' N' l1; (try k_lt l1); (try dsimp only)))
  (k_with "1 subscriptTail Name BinOp ref int" => ((with_reducible show wpAny _ _ (subscriptTail _ _ (Value.ref _) (Value.int (Int.fmod _ 4) _)) _ _ _); (refine' Mine.lab_item ?k2 ?k3 ?k7 ?k8 ?_; (case k2 => k_asm); (case k3 => k_mem); (case k7 => exact (Mine.fmod4 _).1); (case k8 => exact (Mine.fmod4 _).2)); intro t91; (try dsimp only)))
  (k_with "1 call type:int cons nil" => ((with_reducible show wpAny _ _ (call (Value.type "int") [Value.str (Mine.digS _) _]) _ _ _); refine Mine.int_dig (by assumption) ?_; (try dsimp only)))
  (k_with "1 binaryOp Add bytes bytes" => ((with_reducible show wpAny _ _ (binaryOp Operator.Add (Value.bytes _ _) (Value.bytes _ _)) _ _ _); (refine KBy.add_bytes (by k_extra "my size") ?_); intro t9' k9'; (try dsimp only)))
  (k_with "1 subscriptTail Name Slice bytes ref" => ((with_reducible show wpAny _ _ (subscriptTail _ (Expr.Slice _ _ none _) (Value.bytes _ _) (Value.ref _)) _ _ _); (with_reducible rename Fr _ _ _ _ => F'); (with_reducible rename News _ _ _ _ => N'); (refine KBc.slice_K (s := ⟨_, _, _, _, _⟩) F' N' rfl (by constructor) (by constructor) (by decide) ?_); intro h' t9' k9' F' N' e9'; clear e9'; (try dsimp only)))
  (k_with "1 exec For Tuple Call cons nil" => ((with_reducible show wpAny _ _ (exec (Stmt.For (Expr.Tuple _ _ _) (Expr.Call (Expr.Name (Str.ofString "enumerate") _) _ _ _) _ _ _) _) _ _ _); (rename Fr _ _ _ _ => lF'); (with_unfolding_all refine' For_turns lF' ?_; k_whole)))
  trivial
theorem dv_at {ds : List Int} {us : List Tok} {x : Value} {i : Nat} (h : (List.zipWith dv ds us)[i]? = some x) : ∃ d u, ds[i]? = some d ∧ x = .str (digS d) u := by
  rw [List.getElem?_zipWith] at h
  revert h
  cases ds[i]? with
  | none => intro h; cases h
  | some d =>
    cases us[i]? with
    | none => intro h; cases h
    | some u => intro h; exact ⟨d, u, rfl, (Option.some.inj h).symm⟩
noncomputable def pairB (w : Int) : Array UInt8 := if w = 1 then #[40, 41] else #[41, 40]
noncomputable def txtB (ws : List Int) (b0 b1 b2 b3 : Array UInt8) (ds : List Int) : Nat → Array UInt8
  | 0 => #[]
  | i + 1 => txtB ws b0 b1 b2 b3 ds i ++ labB b0 b1 b2 b3 ((i : Int).fmod 4) ++ KBy.picked (pairB (ws.getD i 0)) none (some (ds.getD i 0))
theorem labB_size {b0 b1 b2 b3 : Array UInt8} (hb0 : b0.size ≤ 10) (hb1 : b1.size ≤ 10) (hb2 : b2.size ≤ 10) (hb3 : b3.size ≤ 10) (i : Int) : (labB b0 b1 b2 b3 i).size ≤ 10 := by
  unfold labB; split <;> (try split) <;> (try split) <;> assumption
theorem txtB_size {ws ds : List Int} {b0 b1 b2 b3 : Array UInt8} (hb0 : b0.size ≤ 10) (hb1 : b1.size ≤ 10) (hb2 : b2.size ≤ 10) (hb3 : b3.size ≤ 10) : ∀ i, (txtB ws b0 b1 b2 b3 ds i).size ≤ 12 * i
  | 0 => Nat.le_refl _
  | i + 1 => by
    have ih := txtB_size (ws := ws) (ds := ds) hb0 hb1 hb2 hb3 i
    have a := labB_size hb0 hb1 hb2 hb3 ((i : Int).fmod 4)
    have b : (KBy.picked (pairB (ws.getD i 0)) none (some (ds.getD i 0))).size ≤ 2 := Nat.le_trans (KBc.size_picked_le _ _ _) (by unfold pairB; split <;> decide)
    simp only [txtB, Array.size_append]
    lia
namespace text_call_z
noncomputable def zS (zkk : KXC) (w : World) (mean : Mean) (mg : Nm) (mb : Nm) (news : Led) (l : Addr) (q : Addr) (vs : List Value) (nn : Nat) (ws : List Int) (d7 : Int) (d6 : Int) (d5 : Int) (d4 : Int) (d3 : Int) (d2 : Int) (d1 : Int) (d0 : Int) (b0 : Array UInt8) (b1 : Array UInt8) (b2 : Array UInt8) (b3 : Array UInt8) (n2 : Nat) (t : Tok) (t0 : Tok) (t1 : Tok) (t2 : Tok) (t3 : Tok) : Prop := ∀ (hi : IntsAre vs ws) (hl : ws.length = 8) (hw : ∀ x ∈ ws, x = 1 ∨ x = -1) (hd : ∀ d ∈ [d7, d6, d5, d4, d3, d2, d1, d0], IsFig d) (hb0 : b0.size ≤ 10) (hb1 : b1.size ≤ 10) (hb2 : b2.size ≤ 10) (hb3 : b3.size ≤ 10), CallsAt w mean mg mb 12 ((q, listOf #[.bytes b0 t0, .bytes b1 t1, .bytes b2 t2, .bytes b3 t3] n2) :: (l, listOf vs.toArray nn) :: news) (call (.ref 189) [Value.str (textOf [d7, d6, d5, d4, d3, d2, d1, d0]) t, .ref l, .ref q])
      (Ret ((q, listOf #[.bytes b0 t0, .bytes b1 t1, .bytes b2 t2, .bytes b3 t3] n2) :: (l, listOf vs.toArray nn) :: news) (fun t => .bytes (txtB ws b0 b1 b2 b3 [d0, d1, d2, d3, d4, d5, d6, d7] 8) t)) (zkk.1) (zkk.2.1) (zkk.2.2.1) (zkk.2.2.2.1) (zkk.2.2.2.2.1) (zkk.2.2.2.2.2.1) (zkk.2.2.2.2.2.2.1) (zkk.2.2.2.2.2.2.2.1) (zkk.2.2.2.2.2.2.2.2.1) (zkk.2.2.2.2.2.2.2.2.2.1) (zkk.2.2.2.2.2.2.2.2.2.2.1) (zkk.2.2.2.2.2.2.2.2.2.2.2.1) (zkk.2.2.2.2.2.2.2.2.2.2.2.2.1) (zkk.2.2.2.2.2.2.2.2.2.2.2.2.2.1) (zkk.2.2.2.2.2.2.2.2.2.2.2.2.2.2.1) (zkk.2.2.2.2.2.2.2.2.2.2.2.2.2.2.2.1) (zkk.2.2.2.2.2.2.2.2.2.2.2.2.2.2.2.2)
noncomputable abbrev zT : Type := (KXC) × (World) × (Mean) × (Nm) × (Nm) × (Led) × (Addr) × (Addr) × (List Value) × (Nat) × (List Int) × (Int) × (Int) × (Int) × (Int) × (Int) × (Int) × (Int) × (Int) × (Array UInt8) × (Array UInt8) × (Array UInt8) × (Array UInt8) × (Nat) × (Tok) × (Tok) × (Tok) × (Tok) × (Tok)
noncomputable def zP (x : zT) : Prop := zS x.1 x.2.1 x.2.2.1 x.2.2.2.1 x.2.2.2.2.1 x.2.2.2.2.2.1 x.2.2.2.2.2.2.1 x.2.2.2.2.2.2.2.1 x.2.2.2.2.2.2.2.2.1 x.2.2.2.2.2.2.2.2.2.1 x.2.2.2.2.2.2.2.2.2.2.1 x.2.2.2.2.2.2.2.2.2.2.2.1 x.2.2.2.2.2.2.2.2.2.2.2.2.1 x.2.2.2.2.2.2.2.2.2.2.2.2.2.1 x.2.2.2.2.2.2.2.2.2.2.2.2.2.2.1 x.2.2.2.2.2.2.2.2.2.2.2.2.2.2.2.1 x.2.2.2.2.2.2.2.2.2.2.2.2.2.2.2.2.1 x.2.2.2.2.2.2.2.2.2.2.2.2.2.2.2.2.2.1 x.2.2.2.2.2.2.2.2.2.2.2.2.2.2.2.2.2.2.1 x.2.2.2.2.2.2.2.2.2.2.2.2.2.2.2.2.2.2.2.1 x.2.2.2.2.2.2.2.2.2.2.2.2.2.2.2.2.2.2.2.2.1 x.2.2.2.2.2.2.2.2.2.2.2.2.2.2.2.2.2.2.2.2.2.1 x.2.2.2.2.2.2.2.2.2.2.2.2.2.2.2.2.2.2.2.2.2.2.1 x.2.2.2.2.2.2.2.2.2.2.2.2.2.2.2.2.2.2.2.2.2.2.2.1 x.2.2.2.2.2.2.2.2.2.2.2.2.2.2.2.2.2.2.2.2.2.2.2.2.1 x.2.2.2.2.2.2.2.2.2.2.2.2.2.2.2.2.2.2.2.2.2.2.2.2.2.1 x.2.2.2.2.2.2.2.2.2.2.2.2.2.2.2.2.2.2.2.2.2.2.2.2.2.2.1 x.2.2.2.2.2.2.2.2.2.2.2.2.2.2.2.2.2.2.2.2.2.2.2.2.2.2.2.1 x.2.2.2.2.2.2.2.2.2.2.2.2.2.2.2.2.2.2.2.2.2.2.2.2.2.2.2.2
theorem zne : Nonempty zT := ⟨(dKXC, dW, fun _ => none, fun _ => none, fun _ => none, [], (0 : Nat), (0 : Nat), [], 0, [], 0, 0, 0, 0, 0, 0, 0, 0, #[], #[], #[], #[], 0, (0 : Nat), (0 : Nat), (0 : Nat), (0 : Nat), (0 : Nat))⟩
noncomputable def zc : zT := @Classical.epsilon _ zne fun x => ¬ zP x
@[irreducible] noncomputable def zkk : KXC := zc.1
@[irreducible] noncomputable def w : World := zc.2.1
@[irreducible] noncomputable def mean : Mean := zc.2.2.1
@[irreducible] noncomputable def mg : Nm := zc.2.2.2.1
@[irreducible] noncomputable def mb : Nm := zc.2.2.2.2.1
@[irreducible] noncomputable def news : Led := zc.2.2.2.2.2.1
@[irreducible] noncomputable def l : Addr := zc.2.2.2.2.2.2.1
@[irreducible] noncomputable def q : Addr := zc.2.2.2.2.2.2.2.1
@[irreducible] noncomputable def vs : List Value := zc.2.2.2.2.2.2.2.2.1
@[irreducible] noncomputable def nn : Nat := zc.2.2.2.2.2.2.2.2.2.1
@[irreducible] noncomputable def ws : List Int := zc.2.2.2.2.2.2.2.2.2.2.1
@[irreducible] noncomputable def d7 : Int := zc.2.2.2.2.2.2.2.2.2.2.2.1
@[irreducible] noncomputable def d6 : Int := zc.2.2.2.2.2.2.2.2.2.2.2.2.1
@[irreducible] noncomputable def d5 : Int := zc.2.2.2.2.2.2.2.2.2.2.2.2.2.1
@[irreducible] noncomputable def d4 : Int := zc.2.2.2.2.2.2.2.2.2.2.2.2.2.2.1
@[irreducible] noncomputable def d3 : Int := zc.2.2.2.2.2.2.2.2.2.2.2.2.2.2.2.1
@[irreducible] noncomputable def d2 : Int := zc.2.2.2.2.2.2.2.2.2.2.2.2.2.2.2.2.1
@[irreducible] noncomputable def d1 : Int := zc.2.2.2.2.2.2.2.2.2.2.2.2.2.2.2.2.2.1
@[irreducible] noncomputable def d0 : Int := zc.2.2.2.2.2.2.2.2.2.2.2.2.2.2.2.2.2.2.1
@[irreducible] noncomputable def b0 : Array UInt8 := zc.2.2.2.2.2.2.2.2.2.2.2.2.2.2.2.2.2.2.2.1
@[irreducible] noncomputable def b1 : Array UInt8 := zc.2.2.2.2.2.2.2.2.2.2.2.2.2.2.2.2.2.2.2.2.1
@[irreducible] noncomputable def b2 : Array UInt8 := zc.2.2.2.2.2.2.2.2.2.2.2.2.2.2.2.2.2.2.2.2.2.1
@[irreducible] noncomputable def b3 : Array UInt8 := zc.2.2.2.2.2.2.2.2.2.2.2.2.2.2.2.2.2.2.2.2.2.2.1
@[irreducible] noncomputable def n2 : Nat := zc.2.2.2.2.2.2.2.2.2.2.2.2.2.2.2.2.2.2.2.2.2.2.2.1
@[irreducible] noncomputable def t : Tok := zc.2.2.2.2.2.2.2.2.2.2.2.2.2.2.2.2.2.2.2.2.2.2.2.2.1
@[irreducible] noncomputable def t0 : Tok := zc.2.2.2.2.2.2.2.2.2.2.2.2.2.2.2.2.2.2.2.2.2.2.2.2.2.1
@[irreducible] noncomputable def t1 : Tok := zc.2.2.2.2.2.2.2.2.2.2.2.2.2.2.2.2.2.2.2.2.2.2.2.2.2.2.1
@[irreducible] noncomputable def t2 : Tok := zc.2.2.2.2.2.2.2.2.2.2.2.2.2.2.2.2.2.2.2.2.2.2.2.2.2.2.2.1
@[irreducible] noncomputable def t3 : Tok := zc.2.2.2.2.2.2.2.2.2.2.2.2.2.2.2.2.2.2.2.2.2.2.2.2.2.2.2.2
theorem zmain : zS zkk w mean mg mb news l q vs nn ws d7 d6 d5 d4 d3 d2 d1 d0 b0 b1 b2 b3 n2 t t0 t1 t2 t3 := by
  unfold zS
  intro hi hl hw hd hb0 hb1 hb2 hb3
  dsimp only [CallsAt, Ret, KH, VW, prg]
  k_fill
  intros; rename_i hret
  refine wpAny_call ?_
  walk_at "my enter"
  (k_with "my size" => ((try simp only [Array.size_append, Array.size_empty]); lia))
  k_steps
  refine' enum_turned (vs := List.zipWith dv [d0, d1, d2, d3, d4, d5, d6, d7] [_, _, _, _, _, _, _, _]) (["text", "level", "figure", "pair"] : List Str) "text" (fun i t => .bytes (txtB ws b0 b1 b2 b3 [d0, d1, d2, d3, d4, d5, d6, d7] i) t) ?h ?F ?N ?m ?c ?d ?x ?_ ?_
  case h => rfl
  case F => k_asm
  case N => k_asm
  case m => k_mem
  case c => rfl
  case d => rfl
  case x => exact ⟨_, rfl⟩
  · intro i y T t I oe oi u tx h tk hy hT F N hI
    obtain ⟨d, u', hdi, rfl⟩ := dv_at hy
    have hi8 : i < 8 := (List.getElem?_eq_some_iff.mp hdi).1
    have hA := txtB_size (ws := ws) (ds := [d0, d1, d2, d3, d4, d5, d6, d7]) hb0 hb1 hb2 hb3 i
    have hB := labB_size hb0 hb1 hb2 hb3 ((i : Int).fmod 4)
    have hC1 : (KBy.picked #[40, 41] none (some d)).size ≤ 2 := KBc.size_picked_le _ _ _
    have hC2 : (KBy.picked #[41, 40] none (some d)).size ≤ 2 := KBc.size_picked_le _ _ _
    have hfd : IsFig d := hd d (by
      have := List.mem_of_getElem? hdi
      simp only [List.mem_cons, List.not_mem_nil, or_false] at this ⊢
      lia)
    have hi8' : (0 : Int) ≤ (i : Int) ∧ (i : Int) < 8 := by lia
    k_steps
    all_goals
      refine EnPost.mk (by k_asm) (by walk_at "my news") (Turned.mk rfl (el_bytes ?_) (by walk_at "my rest"))
      have e1 : [d0, d1, d2, d3, d4, d5, d6, d7].getD i 0 = d := by rw [List.getD_eq_getElem?_getD, hdi]; rfl
      have e2 : (i : Int).toNat = i := rfl
      simp only [txtB, e1, pairB]
    · rw [if_pos (by assumption)]
    · rw [if_neg (by assumption)]
  · intro u tx h tk F N
    k_steps
    exact ret_bytes hret rfl (by assumption) (by walk_at "my news")
end text_call_z
theorem text_call (w : World) (mean : Mean) (mg mb : Nm) (news : Led) (l q : Addr) (vs : List Value) (nn : Nat) (ws : List Int) (d7 d6 d5 d4 d3 d2 d1 d0 : Int) (b0 b1 b2 b3 : Array UInt8) (n2 : Nat) (t t0 t1 t2 t3 : Tok) (hi : IntsAre vs ws) (hl : ws.length = 8) (hw : ∀ x ∈ ws, x = 1 ∨ x = -1) (hd : ∀ d ∈ [d7, d6, d5, d4, d3, d2, d1, d0], IsFig d) (hb0 : b0.size ≤ 10) (hb1 : b1.size ≤ 10) (hb2 : b2.size ≤ 10) (hb3 : b3.size ≤ 10) : Calls w mean mg mb 12 ((q, listOf #[.bytes b0 t0, .bytes b1 t1, .bytes b2 t2, .bytes b3 t3] n2) :: (l, listOf vs.toArray nn) :: news) (call (.ref 189) [Value.str (textOf [d7, d6, d5, d4, d3, d2, d1, d0]) t, .ref l, .ref q])
      (Ret ((q, listOf #[.bytes b0 t0, .bytes b1 t1, .bytes b2 t2, .bytes b3 t3] n2) :: (l, listOf vs.toArray nn) :: news) (fun t => .bytes (txtB ws b0 b1 b2 b3 [d0, d1, d2, d3, d4, d5, d6, d7] 8) t)) := by
  intro kdp kun kgd kcn kcs ka kccd kcl kouter kA kbase kh kL km ks kQ kE
  exact @clz _ text_call_z.zP text_call_z.zne (by with_unfolding_all exact text_call_z.zmain) ((kdp, kun, kgd, kcn, kcs, ka, kccd, kcl, kouter, kA, kbase, kh, kL, km, ks, kQ, kE), w, mean, mg, mb, news, l, q, vs, nn, ws, d7, d6, d5, d4, d3, d2, d1, d0, b0, b1, b2, b3, n2, t, t0, t1, t2, t3) hi hl hw hd hb0 hb1 hb2 hb3

noncomputable abbrev accObj (dx : Addr) (its : List Value) (n : Nat) : Obj := { cls := .ref 152, dict := some dx, data := .seq its.toArray n }
theorem acc_ga (p : Params) : findIn (hd.heap_39 p) (.ref 152) "__getattribute__" = some (some (.builtin "list.__getattribute__")) := by kernel_rfl
theorem acc_gattr (p : Params) : findIn (hd.heap_39 p) (.ref 152) "__getattr__" = some none := by kernel_rfl
theorem acc_push (p : Params) : findIn (hd.heap_39 p) (.ref 152) "push" = some (some (.ref 96)) := by kernel_rfl
theorem acc_pop (p : Params) : findIn (hd.heap_39 p) (.ref 152) "pop" = some (some (.ref 112)) := by kernel_rfl
theorem acc_count (p : Params) : findIn (hd.heap_39 p) (.ref 152) "part_count" = some (some (.ref 149)) := by kernel_rfl
theorem acc_append (p : Params) : findIn (hd.heap_39 p) (.ref 152) "append" = some (some (.builtin "list.append")) := by kernel_rfl
theorem acc_sub (p : Params) : mroIn (hd.heap_39 p) 152 (.type "list") = some true := by kernel_rfl
theorem acc_canon : (Manifest.canonical "list.__getattribute__" != "object.__getattribute__") = false := by decide +kernel
theorem acc_fn (p : Params) : typeIn (hd.heap_39 p) (.ref 96) = some (.type "function") ∧ typeIn (hd.heap_39 p) (.ref 112) = some (.type "function") ∧ typeIn (hd.heap_39 p) (.ref 149) = some (.type "function") := ⟨by kernel_rfl, by kernel_rfl, by kernel_rfl⟩
theorem acc_check {M : Model} {A : Around} {E : Value → Shared → Prop} {s : Shared} {i owner n : String} {self : Value} {rest : List Value} {kw : List (Str × Value)} {Q : Unit → Shared → Prop}
    (hk : builtinKind i = some .slot ∨ builtinKind i = some .method) (hs : splitId i = some (owner, n)) (hi : Looks M s.heap (isInstance self (.type owner)) true) (ha : argsOk i ⟨self :: rest, kw⟩) (q : Q () s) :
    wpAny M A (checkBuiltinCall i ⟨self :: rest, kw⟩) Q E s := by
  rcases hk with hk | hk <;>
    (delta checkBuiltinCall
     rw [hk, hs]
     repeat lk
     cases hsig : Manifest.signature? i with
     | none => exact wpAny_pure q
     | some sig => exact wpAny_of_eq (by unfold argsOk at ha; rw [hsig] at ha; exact ha) q)
section
variable {prog : Program} {w : World} {A : Around} {E : Value → Shared → Prop} {s : Shared} {h₀ : Heap} {L x dx : Addr} {m : Nm} {ox : Obj} {od : Option Obj} {name : Str} {pl : Sem Bool} {Q : Value × List Value → Shared → Prop}
theorem acc_method {f : Value} (F : Fr h₀ L s.heap m) (X₀ : (hd.heap_39 w.params).In h₀) (I : InstAt s.heap x ox 152 od) (hf : findIn (hd.heap_39 w.params) (.ref 152) name = some (some f))
    (ht : typeIn (hd.heap_39 w.params) f = some (.type "function") ∨ typeIn (hd.heap_39 w.params) f = some (.type "method_descriptor")) (hs : shadowIn od name = some false) (h : Q (f, [.ref x]) s) :
    wpAny (model prog w) A (getMethod (.ref x) name pl) Q E s := by
  have X := X₀.keeps F.keep
  have hcan := acc_canon
  have tail : wpAny (model prog w) A (do
      if let .ref a := Value.ref x then
        if let some d := (← loadPart a (some headPart)).dict then
          if (← nsGet d name).isSome then return (← getAttr (.ref x) name, ([] : List Value))
      rule "call.method-form"
      return (f, [Value.ref x])) Q E s := by
    refine wpAny_bind (wpAny_loadPart I.at_ ?_)
    have hd := I.dict
    cases e : ox.dict with
    | none => exact wpAny_bind (wpAny_rule (wpAny_pure h))
    | some dx =>
      cases od with
      | none => rw [e] at hd; exact hd.elim
      | some o =>
        rw [e] at hd
        obtain ⟨r, a, b⟩ := Option.map_eq_some_iff.mp hs
        refine wpAny_bind (wpAny_bind (wpAny_loadPart hd ?_))
        rw [nsLook_of a]
        refine wpAny_pure ?_
        rw [b]
        exact wpAny_bind (wpAny_rule (wpAny_pure h))
  unfold getMethod specialOf
  refine wpAny_bind (wpAny_bind (I.type.here ((looks_findIn X (acc_ga _)).here ?_)))
  dsimp only
  rw [hcan, if_neg (by decide)]
  refine wpAny_bind (wpAny_bind (I.type.here ((looks_findIn X (acc_gattr _)).here ?_)))
  refine wpAny_bind (wpAny_bind (I.type.here ((looks_findIn X hf).here ?_)))
  rcases ht with ht | ht
  · refine wpAny_bind ((looks_typeIn X ht).here ?_)
    rw [if_neg (by decide +kernel)]
    exact tail
  · refine wpAny_bind ((looks_typeIn X ht).here ?_)
    rw [if_neg (by decide +kernel)]
    exact tail
end
section
variable {w : World} {A : Around} {E : Value → Shared → Prop} {s : Shared} {h₀ : Heap} {L x dx : Addr} {m : Nm} {its : List Value} {n : Nat} {rest : Led} {Q : Value → Shared → Prop}
theorem acc_inst {M : Model} {h : Heap} {p : Params} (X : (hd.heap_39 p).In h) (hx : h.get? x = some (accObj dx its n)) : Looks M h (isInstance (.ref x) (.type "list")) true :=
  ((Looks.ld (part := some headPart) hx).andThen .now : Looks M h (typeOf (.ref x)) (.ref 152)).andThen (looks_mroIn X (acc_sub p))
theorem acc_kind : builtinKind "list.append" = some .method ∧ builtinKind "list.pop" = some .method ∧ builtinKind "list.__len__" = some .slot := ⟨by decide +kernel, by decide +kernel, by decide +kernel⟩
theorem acc_split : splitId "list.append" = some ("list", "append") ∧ splitId "list.pop" = some ("list", "pop") ∧ splitId "list.__len__" = some ("list", "__len__") := ⟨by decide +kernel, by decide +kernel, by decide +kernel⟩
theorem acc_newsSet {h h' : Heap} {o o' : Obj} (N : News h₀ L h ((x, o) :: rest)) (ap : ∀ p ∈ rest, p.1 ≠ x) (hs : Heap.SameBut x h h') (ho : h'.get? x = some o') : News h₀ L h' ((x, o') :: rest) :=
  news_set (pre := []) N (fun _ hp => by cases hp) ap hs ho
theorem acc_app {v : Value} (F : Fr h₀ L s.heap m) (X₀ : (hd.heap_39 w.params).In h₀) (N : News h₀ L s.heap ((x, accObj dx its n) :: rest)) (ap : ∀ p ∈ rest, p.1 ≠ x) (hz : its.length ≤ 1000)
    (h : ∀ h', Fr h₀ L h' m → News h₀ L h' ((x, accObj dx (its ++ [v]) (n + 1)) :: rest) → Q .none { s with heap := h' }) : wpAny (model prg w) A (call (.builtin "list.append") [.ref x, v]) Q E s := by
  have X := X₀.keeps F.keep
  have hx := (N _ (.head _)).1
  have hz' : its.toArray.size ≤ sizeLine := by rw [List.size_toArray, sizeLine_eq]; lia
  refine wpAny_call (codeAny_call_builtin PySem.F.slot_list_append.plain PySem.F.entry_list_append (acc_check (.inr acc_kind.1) acc_split.1 (acc_inst X hx) (PySem.F.args_list_append_2 _ _) ?_))
  show wpAny _ _ (updateSeq x (·.push v) >>= fun _ => ret .none) _ _ s
  refine wpAny_bind (wpAny_updateSeq hx rfl (wpAny_pure (h _ (F.change (Heap.SameBut.update ..) (N _ (.head _)).2.1 (N _ (.head _)).2.2) (acc_newsSet N ap (Heap.SameBut.update ..) ?_))) hz' (by rw [Array.size_push]; lia))
  rw [Heap.get?_update_self _ hx (by simp [Obj.mapSeq]; rfl)]
  simp [Obj.mapSeq]
theorem acc_pop_run {v : Value} {Q : PySem.Fin → Shared → Prop} (F : Fr h₀ L s.heap m) (N : News h₀ L s.heap ((x, accObj dx (its ++ [v]) n) :: rest)) (ap : ∀ p ∈ rest, p.1 ≠ x) (hz : its.length ≤ 1000)
    (h : ∀ h', Fr h₀ L h' m → News h₀ L h' ((x, accObj dx its (n + 1)) :: rest) → Q (.done (.ret v)) { s with heap := h' }) : wpAny (model prg w) A (Builtin.«list.pop» ⟨[.ref x], []⟩) Q E s := by
  have hx := (N _ (.head _)).1
  have hz' : (its ++ [v]).toArray.size ≤ sizeLine := by rw [List.size_toArray, List.length_append, sizeLine_eq]; simp only [List.length_cons, List.length_nil]; lia
  have hsz : (its ++ [v]).toArray.size = its.length + 1 := by simp
  have hk : seqIndex? (-1) (its ++ [v]).toArray.size = some its.length := by
    rw [hsz, seqIndex_neg (by lia) (by lia)]; congr 1; lia
  have hy : (its ++ [v]).toArray[its.length]? = some v := by simp
  have hne : (its ++ [v]).toArray.isEmpty = false := by simp
  have he : (its ++ [v]).toArray.eraseIdxIfInBounds its.length = its.toArray := by
    have := kl_erase its [] v
    simpa using this
  unfold Builtin.«list.pop»
  refine wpAny_bind (m := selfAndSome _ _ _ _ _) (wpAny_pure (wpAny_bind (wpAny_pure ?_)))
  dsimp only
  rw [if_neg (by decide +kernel)]
  refine wpAny_bind (wpAny_listItems hx rfl ?_)
  rw [hne, if_neg (by decide)]
  simp only [hk, hy, Option.bind_some, Option.map_some]
  refine wpAny_bind (m := updateSeq x _) (wpAny_updateSeq hx rfl (wpAny_pure (h _ (F.change (Heap.SameBut.update ..) (N _ (.head _)).2.1 (N _ (.head _)).2.2) (acc_newsSet N ap (Heap.SameBut.update ..) ?_))) hz' (by show Array.size ((its ++ [v]).toArray.eraseIdxIfInBounds its.length) ≤ _; rw [he, List.size_toArray, sizeLine_eq]; lia))
  rw [Heap.get?_update_self _ hx (by simp [Obj.mapSeq]; rfl)]
  simp only [Obj.mapSeq, he]
  simp
end

theorem acc_slot_mget : Slot "method_descriptor" "__get__" "method_descriptor.__get__" := .of (owner := "method_descriptor") (n := "__get__") (by rw [typeLookup_type, builtinLookup_eq_fast]; kernel_rfl) (by decide +kernel) (by decide +kernel) (by decide +kernel)
  (by first | exact .inl (by decide +kernel) | exact .inr (by decide +kernel)) (by rw [isSubtype_type]; kernel_rfl)
theorem acc_slot_wget : Slot "wrapper_descriptor" "__get__" "wrapper_descriptor.__get__" := .of (owner := "wrapper_descriptor") (n := "__get__") (by rw [typeLookup_type, builtinLookup_eq_fast]; kernel_rfl) (by decide +kernel) (by decide +kernel) (by decide +kernel)
  (by first | exact .inl (by decide +kernel) | exact .inr (by decide +kernel)) (by rw [isSubtype_type]; kernel_rfl)
theorem acc_entry_mget : entryFor table "method_descriptor.__get__" = some Builtin.«method_descriptor.__get__» := entryFor_of_tree (by kernel_rfl)
theorem acc_entry_wget : entryFor table "wrapper_descriptor.__get__" = some Builtin.«wrapper_descriptor.__get__» := entryFor_of_tree (by kernel_rfl)
theorem acc_args_mget (a b c : Value) : argsOk "method_descriptor.__get__" ⟨[a, b, c], []⟩ := by unfold argsOk; kernel_rfl
theorem acc_args_wget (a b c : Value) : argsOk "wrapper_descriptor.__get__" ⟨[a, b, c], []⟩ := by unfold argsOk; kernel_rfl
theorem acc_type_len : typeOf (.builtin "list.__len__") = pure (.type "wrapper_descriptor") := by show builtinType _ = _; rw [builtinType_eq_fast]; kernel_rfl
noncomputable abbrev boundObj (bt id : String) (x : Addr) : Obj := { cls := .type bt, data := .fields #[.builtin id, .ref x] }
section
variable {prog : Program} {w : World} {A : Around} {E : Value → Shared → Prop} {h : Heap} {g : Array GenState} {d : Drawn} {t : Nat} {os : OsState} {x so : Addr}
theorem acc_wget {Q : PySem.Fin → Shared → Prop} (hi : Looks (model prog w) h (isInstance (.ref x) (.type "list")) true)
    (hq : Q (.done (.ret (.ref h.objs.size))) ⟨h.push (boundObj "method-wrapper" "list.__len__" x), g, d, t, os⟩) :
    wpAny (model prog w) A (Builtin.«wrapper_descriptor.__get__» ⟨[.builtin "list.__len__", .ref x, .ref 152], []⟩) Q E ⟨h, g, d, t, os⟩ := by
  unfold Builtin.«wrapper_descriptor.__get__»
  refine wpAny_bind (wpAny_pure (wpAny_bind (wpAny_bind (wpAny_pure ?_))))
  refine wpAny_bind (Looks.at (r := true) ?_ ?_)
  · have e : (⟨"__len__", Value.type "list"⟩ : Str × Value).2 = .type "list" := rfl
    refine cast ?_ hi
    kernel_rfl
  · refine wpAny_pure (wpAny_bind ?_)
    exact wpAny_newObj_type (wpAny_pure hq) (by size_fits)
theorem acc_mget {Q : PySem.Fin → Shared → Prop} (hi : Looks (model prog w) h (isInstance (.ref x) (.type "list")) true)
    (hq : Q (.done (.ret (.ref h.objs.size))) ⟨h.push (boundObj "builtin_function_or_method" "list.pop" x), g, d, t, os⟩) :
    wpAny (model prog w) A (Builtin.«method_descriptor.__get__» ⟨[.builtin "list.pop", .ref x, .ref 152], []⟩) Q E ⟨h, g, d, t, os⟩ := by
  unfold Builtin.«method_descriptor.__get__»
  refine wpAny_bind (wpAny_pure ?_)
  have e1 : (Value.ref x == Value.none) = false := rfl
  have e2 : (Value.ref 152 == Value.none) = false := rfl
  have e3 : Manifest.toldItsClass.contains "list.pop" = false := by decide +kernel
  simp only [e1, e2, e3, Bool.false_eq_true, if_false]
  refine wpAny_bind (wpAny_bind (wpAny_pure ?_))
  refine wpAny_bind (Looks.at (r := true) ?_ ?_)
  · refine cast ?_ hi
    kernel_rfl
  · refine wpAny_pure (wpAny_bind ?_)
    exact wpAny_newObj_type (wpAny_pure hq) (by size_fits)
end
section
variable {prog : Program} {w : World} {A : Around} {E : Value → Shared → Prop} {h : Heap} {g : Array GenState} {d : Drawn} {t : Nat} {os : OsState} {x so : Addr}
theorem acc_super_ga {id dt gid bt : String} {B : Builtin} {l₀ l : List Value} {K : Frag} {name : Str} {tk : Tok} {Q : PySem.Fin → Shared → Prop}
    (hso : h.get? so = some (ks_superObj 152 x 152)) (hno : Looks (model prog w) h (opaqueClassAbove (.ref 152)) none)
    (hC : Looks (model prog w) h (mroOf (.ref 152)) l₀) (hl : (l₀.dropWhile (· != .ref 152)).drop 1 = l) (X : K.In h)
    (hf : alongIn K name l = some (some (.builtin id))) (hxC : x ≠ 152) (hn : (name == ("__class__" : Str)) = false)
    (hdt : typeOf (.builtin id) = pure (.type dt)) (slot : Slot dt "__get__" gid) (entry : entryFor table gid = some B) (args : argsOk gid ⟨[.builtin id, .ref x, .ref 152], []⟩)
    (hB : ∀ A (Q : PySem.Fin → Shared → Prop), Q (.done (.ret (.ref h.objs.size))) ⟨h.push (boundObj bt id x), g, d, t, os⟩ → wpAny (model prog w) A (B ⟨[.builtin id, .ref x, .ref 152], []⟩) Q E ⟨h, g, d, t, os⟩)
    (hq : Q (.done (.ret (.ref h.objs.size))) ⟨h.push (boundObj bt id x), g, d, t, os⟩) :
    wpAny (model prog w) A (Builtin.«super.__getattribute__» ⟨[.ref so, .str name tk], []⟩) Q E ⟨h, g, d, t, os⟩ := by
  have hlk := slot.lookup
  have hne : (Value.ref x == Value.ref 152) = false := by simp [hxC]
  have hT : (⟨h, g, d, t, os⟩ : Shared).TypeIs (.builtin id) dt := hdt
  have hdta : (ks_superObj 152 x 152).data = .fields #[.ref 152, .ref x, .ref 152] := rfl
  have f0 : (#[.ref 152, .ref x, .ref 152] : Array Value)[0]? = some (.ref 152) := rfl
  have f1 : (#[.ref 152, .ref x, .ref 152] : Array Value)[1]? = some (.ref x) := rfl
  have f2 : (#[.ref 152, .ref x, .ref 152] : Array Value)[2]? = some (.ref 152) := rfl
  unfold Builtin.«super.__getattribute__»
  repeat (first
    | (with_reducible refine wpAny_field hso hdta f0 ?_) | (with_reducible refine wpAny_field hso hdta f1 ?_) | (with_reducible refine wpAny_field hso hdta f2 ?_)
    | (with_reducible refine ks_wpAny_notOpaque hno ?_)
    | (with_reducible refine Looks.at hC ?_; rw [hl])
    | (refine ks_forIn_along X (fun _ _ => rfl) rfl ?_ hf)
    | (with_reducible refine wpAny_of_eq hdt ?_)
    | (with_reducible refine wpAny_call_entry slot hT entry ?_ args)
    | (with_reducible refine hB _ _ ?_)
    | (with_reducible refine ⟨_, rfl, ?_⟩)
    | (with_reducible refine wpAny_ite_false (decide_eq_false (ne_true_of_eq_false hn)) ?_) | (with_reducible refine wpAny_ite_false (decide_eq_false (ne_true_of_eq_false (Bool.or_eq_false_iff.mpr ⟨hn, rfl⟩))) ?_) | rw [if_neg (ne_true_of_eq_false hne)]
    | wp_step
    | dsimp only)
  all_goals exact hq
theorem acc_super_method {id dt gid bt : String} {B : Builtin} {l₀ l : List Value} {K : Frag} {name : Str} {pl : Sem Bool} {Q : Value × List Value → Shared → Prop}
    (hso : h.get? so = some (ks_superObj 152 x 152)) (hno : Looks (model prog w) h (opaqueClassAbove (.ref 152)) none)
    (hC : Looks (model prog w) h (mroOf (.ref 152)) l₀) (hl : (l₀.dropWhile (· != .ref 152)).drop 1 = l) (X : K.In h)
    (hf : alongIn K name l = some (some (.builtin id))) (hxC : x ≠ 152) (hn : (name == ("__class__" : Str)) = false)
    (hdt : typeOf (.builtin id) = pure (.type dt)) (slot : Slot dt "__get__" gid) (entry : entryFor table gid = some B) (args : argsOk gid ⟨[.builtin id, .ref x, .ref 152], []⟩)
    (hB : ∀ t A E (Q : PySem.Fin → Shared → Prop), Q (.done (.ret (.ref h.objs.size))) ⟨h.push (boundObj bt id x), g, d, t, os⟩ → wpAny (model prog w) A (B ⟨[.builtin id, .ref x, .ref 152], []⟩) Q E ⟨h, g, d, t, os⟩)
    (hq : Q (.ref h.objs.size, []) ⟨h.push (boundObj bt id x), g, d, t + 1, os⟩) :
    wpAny (model prog w) A (getMethod (.ref so) name pl) Q E ⟨h, g, d, t, os⟩ := by
  have hlk := F.ks_slot_super_ga.lookup
  have hcan := F.ks_canon_super_ga
  have hT : ∀ t', (⟨h, g, d, t', os⟩ : Shared).TypeIs (.ref so) "super" := fun _ => ⟨_, hso, rfl⟩
  unfold getMethod
  refine wpAny_bind (wpAny_specialOf (hT _) hlk ?_)
  show wpAny _ _ (if (Manifest.canonical "super.__getattribute__" != "object.__getattribute__") = true then _ else _) _ _ _
  rw [if_pos hcan]
  unfold getAttr getAttrBy
  refine wpAny_bind (wpAny_bind (wpAny_mkText (wpAny_holding (wpAny_bind (wpAny_typeOf (hT _) (wpAny_bind (wpAny_of_eq hlk ?_)))))))
  show wpAny _ _ (getAttrByItsOwn (.ref so) (.str name t) (.type "super") (.builtin "super.__getattribute__") true false) _ _ _
  unfold getAttrByItsOwn hookBefore callGetattribute boundAndCalled
  refine wpAny_bind (wpAny_of_eq (show (if onTheHeap (.type "super") then typeLookup (.type "super") "__getattr__" else pure none) = pure none from rfl) ?_)
  refine wpAny_bind (wpAny_attempt (wpAny_holding ?_))
  show wpAny _ _ (bindSpecial (.builtin "super.__getattribute__") (.ref so) >>= _) _ _ _
  refine wpAny_bind (wpAny_of_eq (F.ks_slot_super_ga.bind _) ?_)
  refine wpAny_mono (Q := fun v s' => v = .ref h.objs.size ∧ s' = ⟨h.push (boundObj bt id x), g, d, t + 1, os⟩) (E := fun _ _ => False)
    (wpAny_call_entry F.ks_slot_super_ga (hT _) F.ks_entry_super_ga (acc_super_ga hso hno hC hl X hf hxC hn hdt slot entry args (fun A Q => hB _ A _ Q) ⟨_, rfl, rfl, rfl⟩) (F.ks_gaArgs_super _ _)) (fun v s' hv => ?_) fun _ _ z => z.elim
  obtain ⟨rfl, rfl⟩ := hv
  exact wpAny_pure (wpAny_pure hq)
end
section
variable {w : World} {A : Around} {E : Value → Shared → Prop} {s : Shared} {h₀ : Heap} {L x dx so b : Addr} {m : Nm} {its : List Value} {n : Nat} {news rest : Led}
theorem acc_cls (p : Params) : ∃ cd, clsIn (hd.heap_39 p) 152 = some cd ∧ cd.mro = [.ref 152, .type "list", .type "object"] :=
  Option.map_eq_some_iff.mp (show (clsIn (hd.heap_39 p) 152).map (·.mro) = some [.ref 152, .type "list", .type "object"] by kernel_rfl)
theorem acc_ne {h : Heap} {p : Params} (X : (hd.heap_39 p).In h) (hx : h.get? x = some (accObj dx its n)) : x ≠ 152 := by
  rintro rfl
  obtain ⟨cd, hc, _⟩ := acc_cls p
  cases ho : (hd.heap_39 p).lookup 152 with
  | none => unfold clsIn at hc; rw [ho] at hc; cases hc
  | some o =>
    have e := X _ _ ho
    rw [hx] at e
    cases e
    unfold clsIn at hc
    rw [ho] at hc
    cases hc
theorem acc_any (p : Params) : nsIn (hd.heap_39 p) cStatics "thirdparty.any" = some none := by kernel_rfl
theorem acc_along (p : Params) : alongIn (hd.heap_39 p) "pop" [.type "list", .type "object"] = some (some (.builtin "list.pop")) ∧ alongIn (hd.heap_39 p) "__len__" [.type "list", .type "object"] = some (some (.builtin "list.__len__")) := ⟨by kernel_rfl, by kernel_rfl⟩
theorem acc_mro {M : Model} {h : Heap} {p : Params} (X : (hd.heap_39 p).In h) : Looks M h (mroOf (.ref 152)) [.ref 152, .type "list", .type "object"] := by
  obtain ⟨cd, hc, e⟩ := acc_cls p
  rw [← e]
  exact (looks_clsIn X hc).andThen .now
theorem acc_super_len {pl : Sem Bool} {Q : Value × List Value → Shared → Prop} (F : Fr h₀ L s.heap m) (X₀ : (hd.heap_39 w.params).In h₀) (N : News h₀ L s.heap news) (hso : (so, ks_superObj 152 x 152) ∈ news) (hx : (x, accObj dx its n) ∈ news)
    (h : ∀ q h', Fr h₀ L h' m → News h₀ L h' ((q, boundObj "method-wrapper" "list.__len__" x) :: news) → (∀ p ∈ news, p.1 < q) → Q (.ref q, []) { s with heap := h', toks := s.toks + 1 }) : wpAny (model prg w) A (getMethod (.ref so) "__len__" pl) Q E s := by
  have X := X₀.keeps F.keep
  obtain ⟨hh, g, d, t, os⟩ := s
  have hi := acc_inst (M := model prg w) X (N _ hx).1
  refine acc_super_method (N _ hso).1 (looks_opaque X (acc_any _)) (acc_mro X) rfl X (acc_along _).2 (acc_ne X (N _ hx).1) (by decide) acc_type_len acc_slot_wget acc_entry_wget (acc_args_wget _ _ _) (fun t A E Q hq => acc_wget hi hq) ?_
  obtain ⟨F', N', l'⟩ := ks_newsPush (s := ⟨hh, g, d, t, os⟩) (o := boundObj "method-wrapper" "list.__len__" x) F N rfl (Heap.get?_push_at rfl rfl) (fun b o e => Heap.get?_push_of_some _ e)
  exact h _ _ F' N' l'
theorem acc_super_pop {pl : Sem Bool} {Q : Value × List Value → Shared → Prop} (F : Fr h₀ L s.heap m) (X₀ : (hd.heap_39 w.params).In h₀) (N : News h₀ L s.heap news) (hso : (so, ks_superObj 152 x 152) ∈ news) (hx : (x, accObj dx its n) ∈ news)
    (h : ∀ q h', Fr h₀ L h' m → News h₀ L h' ((q, boundObj "builtin_function_or_method" "list.pop" x) :: news) → (∀ p ∈ news, p.1 < q) → Q (.ref q, []) { s with heap := h', toks := s.toks + 1 }) : wpAny (model prg w) A (getMethod (.ref so) "pop" pl) Q E s := by
  have X := X₀.keeps F.keep
  obtain ⟨hh, g, d, t, os⟩ := s
  have hi := acc_inst (M := model prg w) X (N _ hx).1
  refine acc_super_method (N _ hso).1 (looks_opaque X (acc_any _)) (acc_mro X) rfl X (acc_along _).1 (acc_ne X (N _ hx).1) (by decide) PySem.F.type_list_pop acc_slot_mget acc_entry_mget (acc_args_mget _ _ _) (fun t A E Q hq => acc_mget hi hq) ?_
  obtain ⟨F', N', l'⟩ := ks_newsPush (s := ⟨hh, g, d, t, os⟩) (o := boundObj "builtin_function_or_method" "list.pop" x) F N rfl (Heap.get?_push_at rfl rfl) (fun b o e => Heap.get?_push_of_some _ e)
  exact h _ _ F' N' l'
end
section
variable {w : World} {A : Around} {E : Value → Shared → Prop} {s : Shared} {h₀ : Heap} {L x dx so b : Addr} {m : Nm} {its : List Value} {n : Nat} {news rest : Led} {Q : Value → Shared → Prop}
theorem acc_bound_len (F : Fr h₀ L s.heap m) (N : News h₀ L s.heap news) (hb : (b, boundObj "method-wrapper" "list.__len__" x) ∈ news) (hx : (x, accObj dx its n) ∈ news)
    (h : Q (.int its.length s.toks) { s with toks := s.toks + 1 }) : wpAny (model prg w) A (call (.ref b) []) Q E s := by
  have hbb := (N _ hb).1
  have hxx := (N _ hx).1
  have F' := F
  refine wpAny_call (codeAny_of_tree ?_)
  show wpAny _ A.in1 (callAny (.ref b) _) _ _ _
  unfold callAny
  refine wpAny_bind (wpAny_load hbb ?_)
  have e1 : ((Value.type "method-wrapper" == Value.type "method" || Value.type "method-wrapper" == Value.type "builtin_function_or_method" || Value.type "method-wrapper" == Value.type "method-wrapper") = true) := by decide +kernel
  have e2 : (Value.type "method-wrapper" != Value.type "method") = true := by decide +kernel
  have e3 : checkBoundCall "list.__len__" ⟨[.ref x], []⟩ = pure () := by kernel_rfl
  refine wpAny_ite_true e1 ?_
  lk
  refine wpAny_ite_true e2 ?_
  refine wpAny_bind (wpAny_of_eq e3 ?_)
  refine wpAny_bind (wpAny_pure (a := Fin.again _) (wpAny_pure ⟨Code.quiet_builtin _ (by decide +kernel), codeAny_builtin PySem.F.entry_list_len ?_⟩))
  unfold Builtin.«list.__len__»
  refine wpAny_bind (m := slotArgs _ _ _) (wpAny_pure ?_)
  refine wpAny_bind (m := seqSize x) (wpAny_bind (wpAny_loadPart hxx (wpAny_pure ?_)))
  refine wpAny_bind (wpAny_mkInt (wpAny_pure ?_))
  rw [List.size_toArray]
  exact h
theorem acc_varargs : Manifest.varargsMethods.contains "list.pop" = false := by decide +kernel
theorem acc_notmod (p : Params) : mroIn (hd.heap_39 p) 152 (.type "module") = some false := by kernel_rfl
theorem acc_meta (p : Params) : typeIn (hd.heap_39 p) (.ref 152) = some (.type "type") := by kernel_rfl
theorem acc_bound_pop {v : Value} (F : Fr h₀ L s.heap m) (X₀ : (hd.heap_39 w.params).In h₀) (N : News h₀ L s.heap news) (hb : (b, boundObj "builtin_function_or_method" "list.pop" x) ∈ news) (hx : (x, accObj dx (its ++ [v]) n) ∈ news)
    (ap : ∀ p ∈ rest, p.1 ≠ x) (hr : ∀ p ∈ rest, p ∈ news) (hz : its.length ≤ 1000)
    (h : ∀ h', Fr h₀ L h' m → News h₀ L h' ((x, accObj dx its (n + 1)) :: rest) → Q v { s with heap := h' }) : wpAny (model prg w) A (call (.ref b) []) Q E s := by
  have X := X₀.keeps F.keep
  have hbb := (N _ hb).1
  have hxx := (N _ hx).1
  have N' : News h₀ L s.heap ((x, accObj dx (its ++ [v]) n) :: rest) := newsSub N fun p hp => (List.mem_cons.mp hp).elim (fun e => e ▸ hx) (hr p)
  refine wpAny_call (codeAny_of_tree ?_)
  show wpAny _ A.in1 (callAny (.ref b) _) _ _ _
  unfold callAny
  refine wpAny_bind (wpAny_load hbb ?_)
  have e1 : ((Value.type "builtin_function_or_method" == Value.type "method" || Value.type "builtin_function_or_method" == Value.type "builtin_function_or_method" || Value.type "builtin_function_or_method" == Value.type "method-wrapper") = true) := by decide +kernel
  have e2 : (Value.type "builtin_function_or_method" != Value.type "method") = true := by decide +kernel
  refine wpAny_ite_true e1 ?_
  lk
  refine wpAny_ite_true e2 ?_
  have L1 : Looks (model prg w) s.heap (typeOf (.ref x)) (.ref 152) := (Looks.ld (part := some headPart) hxx).andThen .now
  have L2 : Looks (model prg w) s.heap (isInstance (.ref x) (.type "module")) false := L1.andThen (looks_mroIn X (acc_notmod _))
  obtain ⟨cd, hcd, hqn⟩ := Option.map_eq_some_iff.mp (show (clsIn (hd.heap_39 w.params) 152).map (·.qualname) = some "_Accumulator" by kernel_rfl)
  have L3 : Looks (model prg w) s.heap (classData 152) cd := looks_clsIn X hcd
  have L4 : Looks (model prg w) s.heap (typeOf (.ref 152)) (.type "type") := looks_typeIn X (acc_meta _)
  have chk : ∀ (A : Around) (Q : Unit → Shared → Prop) (E : Value → Shared → Prop), Q () s → wpAny (model prg w) A (checkBoundCall "list.pop" ⟨[.ref x], []⟩) Q E s := by
    intro A Q E q
    obtain ⟨hh, g, d, t, os⟩ := s
    unfold checkBoundCall
    have key : (match Manifest.sig_list.lookup (String.ofList ['p', 'o', 'p'].reverse) with | some sig => Bind.checkArgs "list.pop" { sig with full := s!"{("_Accumulator" : Str).toString}.{Bind.lastOf "list.pop"}" } ⟨[.ref x], []⟩ | none => pure ()) = pure () := by kernel_rfl
    rw [← hqn] at key
    rw [signature?_of (id := "list.pop") (n := ['p', 'o', 'p']) (o := ['t', 's', 'i', 'l']) (by kernel_rfl) PySem.F.owner_list]
    cases hsg : Manifest.sig_list.lookup (String.ofList ['p', 'o', 'p'].reverse) with
    | none => exact wpAny_pure q
    | some sig =>
      rw [acc_kind.2.1]
      rw [hsg] at key
      have key : Bind.checkArgs "list.pop" { sig with full := s!"{cd.qualname.toString}.{Bind.lastOf "list.pop"}" } ⟨[.ref x], []⟩ = pure () := key
      repeat (first | with_reducible exact wpAny_of_eq key q | (with_reducible refine ks_wpAny_isType_inst hxx (fun c e => by cases e) ?_) | lk)
  refine wpAny_bind (chk _ _ _ ?_)
  refine wpAny_bind (wpAny_pure (a := Fin.again _) (wpAny_pure ⟨Code.quiet_builtin _ (by decide +kernel), codeAny_builtin PySem.F.entry_list_pop (acc_pop_run F N' ap hz h)⟩))
end
noncomputable abbrev accD (w : World) (tk : Tok) (v : Value) : Obj := Obj.putName "_initial_size" (PyData.keyHash w.params "_initial_size") (.str "_initial_size" tk) v emptyDict
theorem acc_instAt {h₀ h : Heap} {L x dx : Addr} {its : List Value} {n : Nat} {news : Led} {od : Obj} (N : News h₀ L h news) (h1 : (x, accObj dx its n) ∈ news) (h2 : (dx, od) ∈ news) : InstAt h x (accObj dx its n) 152 (some od) := ⟨(N _ h1).1, rfl, rfl, (N _ h2).1⟩
theorem acc_app_type (p : Params) : typeIn (hd.heap_39 p) (.builtin "list.append") = some (.type "method_descriptor") := by kernel_rfl
theorem acc_boundAt {h₀ h : Heap} {L b x : Addr} {bt id : String} {news : Led} (N : News h₀ L h news) (h1 : (b, boundObj bt id x) ∈ news) : h.get? b = some (boundObj bt id x) := (N _ h1).1
theorem acc_callWith0 {M : Model} {A : Around} {Q E : Value → Shared → Prop} {s : Shared} {pos : Pos} {b x : Addr} {bt id : String} {first : List Value} {env : Env} (X : s.heap.get? b = some (boundObj bt id x)) (hbt : bt = "method-wrapper" ∨ bt = "builtin_function_or_method")
    (h : wpAny M A (call (.ref b) (first ++ [])) Q E s) : wpAny M A (callWith pos (.ref b) first (backTo pos (starEach [] env)) []) Q E s := by
  refine callWith_of (P := fun h => h.get? b = some (boundObj bt id x)) rfl (fun h X => ⟨.machine, .inr (.inl rfl), (Looks.ld (part := none) X).andThen ?_⟩) (evalArgs_nil3 ⟨X, h⟩)
  rcases hbt with rfl | rfl
  · have e1 : (Value.type "method-wrapper" != Value.type "method") = true := by decide +kernel
    have e2 : (Value.type "method-wrapper" == Value.type "builtin_function_or_method" || Value.type "method-wrapper" == Value.type "method-wrapper") = true := by decide +kernel
    simp only [e1, e2, if_true]
    exact .now
  · have e1 : (Value.type "builtin_function_or_method" != Value.type "method") = true := by decide +kernel
    have e2 : (Value.type "builtin_function_or_method" == Value.type "builtin_function_or_method" || Value.type "builtin_function_or_method" == Value.type "method-wrapper") = true := by decide +kernel
    simp only [e1, e2, if_true]
    exact .now
local macro_rules | `(tactic| k_mem) => `(tactic| assumption)

theorem fresh_J_count : True := by
  k_with_none
  w_on
  w_top off
  (k_with "1 my news" => (first | assumption | (refine Mine.newsSub (by assumption) ?_; kcj_all) | (refine Mine.newsSub (by assumption) ?_; intro _ hp; repeat (first | exact hp | refine List.Mem.tail _ ?_))))
  (k_with "1 my enterS" => (refine' ks_code_super ?k1 ?k2 ?k3 ?k4 ?k5 ?kA ?kF ?kK ?k6 ?k7 ?k8 ?k9 ?kB ?_ ?c1 ?c2 ?c3 ?c4; walk_at "ce"; (case k9 => exact BindsTo.of_eq rfl); (case kB => exact locs rfl); (case c1 => decide); (case c2 => exact rfl); (case c3 => exact rfl); (case c4 => exact rfl); intro g' L' h' FG' F' N' B' X' T' lE9; (try k_lt lE9); (try dsimp only); (try k_lift B')))
  (k_with "1 ce" => ((case kA => first | assumption | exact rfl); (case kF => first | assumption | exact rfl); (case kK => first | assumption | exact rfl); (case k1 => k_asm); (case k2 => k_asm); (case k3 => k_asm); (case k4 => k_asm); (case k5 => k_asm); (case k6 => k_is); (case k7 => k_is); (case k8 => first | assumption | ktr_room)))
  (k_with "1 getMethod ref" => (k_here; k_dflt (refine Mine.acc_method (by k_asm) (by k_asm) (Mine.acc_instAt (by k_asm) (by k_mem) (by k_mem)) (by first | exact Mine.acc_push _ | exact Mine.acc_pop _ | exact Mine.acc_count _ | exact Mine.acc_append _) (by first | exact .inl (Mine.acc_fn _).1 | exact .inl (Mine.acc_fn _).2.1 | exact .inl (Mine.acc_fn _).2.2 | exact .inr (Mine.acc_app_type _)) (by first | assumption | exact rfl) ?_; (try dsimp only [List.cons_append, List.nil_append, List.append_nil]))))
  (k_with "1 getMethod ref" => (k_here; (with_reducible show wpAny _ _ (getMethod (Value.ref _) (PySem.Str.ofString "__len__") _) _ _ _); k_dflt (refine Mine.acc_super_len (by k_asm) (by k_asm) (by k_asm) (by k_mem) (by k_mem) ?_; intro q' h' F' N' l1; (try k_lt l1); (try dsimp only))))
  (k_with "1 call ref" => (k_here; k_dflt (refine Mine.acc_bound_len (by k_asm) (by k_asm) (by k_mem) (by k_mem) ?_)))
  (k_with "1 wpAt" => (ks_step "attributeBase Call"; k_here; k_dflt (refine ks_node (by k_asm) (by k_asm) (by k_asm) (by k_asm) (by k_is) (by rfl) (by rfl) (Mine.acc_instAt (by k_asm) (by k_mem) (by k_mem)) (by k_is) (by rfl) (by first | rfl | decide +kernel) (by k_is) (by k_is) (by k_is) (by k_is) (by decide) (by rfl) (by rfl) (by rfl) (by rfl) (by decide +kernel) (by first | boot_by_name | rfl | kernel_rfl) ?_; intro so' h' F' N' l1; (try k_lt l1))))
  (k_with "1 callWith ref" => (k_here; k_dflt (refine Mine.acc_callWith0 (Mine.acc_boundAt (by k_asm) (by k_mem)) (by first | exact .inl rfl | exact .inr rfl) ?_; (try dsimp only [List.nil_append, List.append_nil]))))
  (k_with "1 wpAt" => (dsimp only; ks_step "execs cons"; refine ks_wpAt_execs_cons ?_))
  (k_with "1 wpAt" => (ks_step "eval Call"; refine' ks_wpAt_MethodCall ?_ ?he; (case he => with_unfolding_all rfl)))
  trivial
theorem count_call (w : World) (mean : Mean) (mg mb : Nm) (news : Led) (x dx : Addr) (its : List Value) (n : Nat) (od : Obj) (hx : (x, accObj dx its n) ∈ news) (hdx : (dx, od) ∈ news) :
    Calls w mean mg mb 12 news (call (.ref 149) [Value.ref x]) (Ret news (fun t => .int its.length t)) := by
  dsimp only [Calls, Ret, KH, VW, prg]
  k_fill
  intros; rename_i hret
  refine wpAny_call ?_
  walk_at "my enterS"
  k_steps
  exact ret_int hret rfl (by assumption) (by walk_at "my news")

theorem fresh_J_pop : True := by
  k_with_none
  w_on
  w_top off
  (k_with "1 my news" => (first | assumption | (refine Mine.newsSub (by assumption) ?_; kcj_all) | (refine Mine.newsSub (by assumption) ?_; intro _ hp; repeat (first | exact hp | refine List.Mem.tail _ ?_))))
  (k_with "1 my enterS" => (refine' ks_code_super ?k1 ?k2 ?k3 ?k4 ?k5 ?kA ?kF ?kK ?k6 ?k7 ?k8 ?k9 ?kB ?_ ?c1 ?c2 ?c3 ?c4; walk_at "ce"; (case k9 => exact BindsTo.of_eq rfl); (case kB => exact locs rfl); (case c1 => decide); (case c2 => exact rfl); (case c3 => exact rfl); (case c4 => exact rfl); intro g' L' h' FG' F' N' B' X' T' lE9; (try k_lt lE9); (try dsimp only); (try k_lift B')))
  (k_with "1 cd" => (dsimp only [Mine.Calls, Mine.Ret, Mine.RetNew, Mine.KH, Mine.VW, Mine.prg] at hC))
  (k_with "1 ce" => ((case kA => first | assumption | exact rfl); (case kF => first | assumption | exact rfl); (case kK => first | assumption | exact rfl); (case k1 => k_asm); (case k2 => k_asm); (case k3 => k_asm); (case k4 => k_asm); (case k5 => k_asm); (case k6 => k_is); (case k7 => k_is); (case k8 => first | assumption | ktr_room)))
  (k_with "1 eval Name" => (k_here; k_dflt (refine' nameX_L ?F ?v ?_ ?a ?b ?c; (case F => k_asm); (case a => rfl); (case b => rfl); (case v => first | exact @rfl (Option Value) (some _) | assumption); (case c => decide); k_whole)))
  (k_with "1 getMethod ref" => (k_here; k_dflt (refine Mine.acc_method (by k_asm) (by k_asm) (Mine.acc_instAt (by k_asm) (by k_mem) (by k_mem)) (by first | exact Mine.acc_push _ | exact Mine.acc_pop _ | exact Mine.acc_count _ | exact Mine.acc_append _) (by first | exact .inl (Mine.acc_fn _).1 | exact .inl (Mine.acc_fn _).2.1 | exact .inl (Mine.acc_fn _).2.2 | exact .inr (Mine.acc_app_type _)) (by first | assumption | exact rfl) ?_; (try dsimp only [List.cons_append, List.nil_append, List.append_nil]))))
  (k_with "1 getMethod ref" => (k_here; (with_reducible show wpAny _ _ (getMethod (Value.ref _) (PySem.Str.ofString "pop") _) _ _ _); k_dflt (refine Mine.acc_super_pop (by k_asm) (by k_asm) (by k_asm) (by k_mem) (by k_mem) ?_; intro q' h' F' N' l1; (try k_lt l1); (try dsimp only))))
  (k_with "1 wpAt" => (ks_step "attributeBase Call"; k_here; k_dflt (refine ks_node (by k_asm) (by k_asm) (by k_asm) (by k_asm) (by k_is) (by rfl) (by rfl) (Mine.acc_instAt (by k_asm) (by k_mem) (by k_mem)) (by k_is) (by rfl) (by first | rfl | decide +kernel) (by k_is) (by k_is) (by k_is) (by k_is) (by decide) (by rfl) (by rfl) (by rfl) (by rfl) (by decide +kernel) (by first | boot_by_name | rfl | kernel_rfl) ?_; intro so' h' F' N' l1; (try k_lt l1))))
  (k_with "1 callWith ref" => (k_here; k_dflt (refine Mine.acc_callWith0 (Mine.acc_boundAt (by k_asm) (by k_mem)) (by first | exact .inl rfl | exact .inr rfl) ?_; (try dsimp only [List.nil_append, List.append_nil]))))
  (k_with "1 wpAt" => (dsimp only; ks_step "execs cons"; refine ks_wpAt_execs_cons ?_))
  (k_with "1 wpAt" => (ks_step "eval Call"; refine' ks_wpAt_MethodCall ?_ ?he; (case he => with_unfolding_all rfl)))
  (k_with "1 call ref" => (k_here; k_dflt (refine Mine.acc_bound_pop (by k_asm) (by k_asm) (by k_asm) (by k_mem) (by k_mem) (by assumption) (by intro _ hp; repeat (first | exact hp | refine List.Mem.tail _ ?_)) (by assumption) ?_; intro h' F' N'; (try dsimp only))))
  (k_with "1 call ref" => ((with_reducible show wpAny _ _ (call (Value.ref 149) _) _ _ _); (have hC := @Mine.count_call); (walk_at "cd"); refine' hC _ _ _ _ _ _ _ _ _ _ ?hx ?hd _ _ _ _ _ _ _ _ _ _ _ _ _ _ _ _ _ ?k1 ?k2 ?k3 ?k4 ?k5 ?kK ?kd ?ku ?_; (case k1 => k_asm); (case k2 => k_asm); (case k3 => k_asm); (case k4 => k_asm); (case k5 => k_asm); (case hx => k_mem); (case hd => k_mem); (case kK => first | exact rfl | assumption); (case kd => ktr_room); (case ku => ktr_units); clear hC; intro t9 h9 tk9 F9 N9; (try dsimp only)))
  trivial
theorem pop0_call (w : World) (mean : Mean) (mg mb : Nm) (rest : Led) (x dx : Addr) (its : List Value) (v : Value) (n : Nat) (od : Obj) (hdx : (dx, od) ∈ rest) (hsh : shadowIn (some od) "part_count" = some false)
    (ap : ∀ p ∈ rest, p.1 ≠ x) (hz : its.length ≤ 1000) :
    Calls w mean mg mb 24 ((x, accObj dx (its ++ [v]) n) :: rest) (call (.ref 112) [Value.ref x]) (Ret ((x, accObj dx its (n + 1)) :: rest) (fun _ => v)) := by
  dsimp only [Calls, Ret, KH, VW, prg]
  k_fill
  intros; rename_i hret
  refine wpAny_call ?_
  walk_at "my enterS"
  k_steps
  · exfalso
    simp only [List.length_append, List.length_cons, List.length_nil] at *
    lia
  · exact hret 0 _ _ (by assumption) (by walk_at "my news")

theorem fresh_J_push : True := by
  k_with_none
  w_on
  w_top off
  (k_with "1 my enter" => (refine' code_def ?k1 ?k2 ?k3 ?k4 ?k5 ?kA ?kF ?kK ?k6 ?k7 ?k8 ?k9 ?kB ?_ ?c2 ?c3 ?c4 ?c5; walk_at "ce"; (case k9 => first | exact BindsTo.of_eq rfl | exact binds_K (by k_in) rfl (by k_is) rfl rfl rfl | fail "my enter: no rule for these arguments"); (case c5 => decide); (case kB => exact locs rfl); (case c2 => exact rfl); (case c3 => exact rfl); (case c4 => exact rfl); k_whole; intro g' L' h' FG' F' N' B' X' T'; (try dsimp only); (try k_lift B'); (try k_fold)))
  (k_with "1 ce" => ((case kA => first | assumption | exact rfl); (case kF => first | assumption | exact rfl); (case kK => first | assumption | exact rfl); (case k1 => k_asm); (case k2 => k_asm); (case k3 => k_asm); (case k4 => k_asm); (case k5 => k_asm); (case k6 => k_is); (case k7 => k_is); (case k8 => first | assumption | ktr_room)))
  (k_with "1 eval Name" => (k_here; k_dflt (refine' nameX_L ?F ?v ?_ ?a ?b ?c; (case F => k_asm); (case a => rfl); (case b => rfl); (case v => first | exact @rfl (Option Value) (some _) | assumption); (case c => decide); k_whole)))
  (k_with "1 getMethod ref" => (k_here; k_dflt (refine Mine.acc_method (by k_asm) (by k_asm) (Mine.acc_instAt (by k_asm) (by k_mem) (by k_mem)) (by first | exact Mine.acc_push _ | exact Mine.acc_pop _ | exact Mine.acc_count _ | exact Mine.acc_append _) (by first | exact .inl (Mine.acc_fn _).1 | exact .inl (Mine.acc_fn _).2.1 | exact .inl (Mine.acc_fn _).2.2 | exact .inr (Mine.acc_app_type _)) (by first | assumption | exact rfl) ?_; (try dsimp only [List.cons_append, List.nil_append, List.append_nil]))))
  trivial
theorem acc_appU {w : World} {A : Around} {E : Value → Shared → Prop} {s : Shared} {h₀ : Heap} {L x dx : Addr} {m : Nm} {its : List Value} {n : Nat} {news news' : Led} {Q : Value → Shared → Prop} {v : Value} (F : Fr h₀ L s.heap m) (X₀ : (hd.heap_39 w.params).In h₀) (N : News h₀ L s.heap news)
    (U : Upd x (accObj dx its n) (accObj dx (its ++ [v]) (n + 1)) news news') (hz : its.length ≤ 1000)
    (h : ∀ h', Fr h₀ L h' m → News h₀ L h' news' → Q .none { s with heap := h' }) : wpAny (model prg w) A (call (.builtin "list.append") [.ref x, v]) Q E s := by
  obtain ⟨pre, post, rfl, rfl, a, b⟩ := U.split
  refine acc_app (rest := pre ++ post) (dx := dx) (n := n) F X₀ (newsSub N fun p hp => ?_) (fun p hp => (List.mem_append.mp hp).elim (a p) (b p)) hz fun h' F' N' => h h' F' (newsSub N' fun p hp => ?_)
  · rcases List.mem_cons.mp hp with rfl | hp
    · exact List.mem_append.mpr (.inr (.head _))
    · exact (List.mem_append.mp hp).elim (fun q => List.mem_append.mpr (.inl q)) fun q => List.mem_append.mpr (.inr (.tail _ q))
  · rcases List.mem_append.mp hp with hp | hp
    · exact .tail _ (List.mem_append.mpr (.inl hp))
    · rcases List.mem_cons.mp hp with rfl | hp
      · exact .head _
      · exact .tail _ (List.mem_append.mpr (.inr hp))
theorem word1_J_push : True := by
  (k_with "1 call builtin:list.append" => (k_here; k_dflt (refine Mine.acc_appU (by k_asm) (by k_asm) (by k_asm) (by first | exact Upd.head (by assumption) | exact Upd.tail (by (show (_ : Nat) ≠ _); lia) (Upd.head (by assumption)) | k_upd) (by assumption) ?_; intro h' F' N'; (try dsimp only))))
  trivial
theorem push0_call (w : World) (mean : Mean) (mg mb : Nm) (rest : Led) (x dx : Addr) (its : List Value) (a b : Value) (n : Nat) (od : Obj) (hdx : (dx, od) ∈ rest) (hsh : shadowIn (some od) "append" = some false)
    (ap : ∀ p ∈ rest, p.1 ≠ x) (hz : its.length ≤ 1000) :
    Calls w mean mg mb 12 ((x, accObj dx its n) :: rest) (call (.ref 96) [Value.ref x, a, b]) (fun h₀ L m s Q => ∀ T h' tk', Fr h₀ L h' m → News h₀ L h' ((T, ({ cls := .type "tuple", data := .seq #[a, b] } : Obj)) :: (x, accObj dx (its ++ [.ref T]) (n + 1)) :: rest) → (x < T ∧ AllLt T rest) → Q .none { s with heap := h', toks := tk' }) := by
  dsimp only [Calls, Ret, KH, VW, prg]
  k_fill
  intros; rename_i hret
  refine wpAny_call ?_
  walk_at "my enter"
  k_steps
  exact hret _ _ _ (by assumption) (by assumption) (by assumption)

section
variable {prog : Program} {w : World} {A : Around} {E : Value → Shared → Prop} {s : Shared} {env : Env} {h₀ : Heap} {x : Str} {body : List Stmt} {Q : Flow → Shared → Prop}
theorem unr_mono {L : Addr} {s₁ : Shared} {I : Addr} {it : Obj} {R R' : Nm → Led → Prop} {Q : Flow → Shared → Prop} {f : Flow} {s₂ : Shared} (h : UnrPost h₀ L s₁ I it R Q f s₂) (hr : ∀ m nw, (∀ p ∈ nw, p.1 ≠ I) → R m nw → R' m nw) : UnrPost h₀ L s₁ I it R' Q f s₂ := by
  have go : UnrEnd h₀ L s₁ I it R s₂ → UnrEnd h₀ L s₁ I it R' s₂ := by
    rintro ⟨h', tk, m', news', e, F', N', off, r⟩
    exact ⟨h', tk, m', news', e, F', N', off, hr _ _ off r⟩
  cases f with
  | ret v => exact h
  | brk => exact h
  | next => exact go h
  | cont => exact go h
theorem range_rest {I : Addr} {a : Int} {n : Nat} (J : Nat → Nm → Led → Prop)
    (turn : ∀ i t m₁ nw h tk, i < n → J i m₁ nw → (∀ p ∈ nw, p.1 ≠ I) → Fr h₀ env.locals h (fun y => if y = x then some (.int (a + (i : Int)) t) else m₁ y) →
      News h₀ env.locals h ((I, itR (a + ((i + 1 : Nat) : Int)) ((n : Int) - ((i + 1 : Nat) : Int))) :: nw) →
      wpAny (model prog w) A (execs body env) (UnrPost h₀ env.locals { s with heap := h, toks := tk } I (itR (a + ((i + 1 : Nat) : Int)) ((n : Int) - ((i + 1 : Nat) : Int))) (J (i + 1)) Q) E { s with heap := h, toks := tk })
    (done : ∀ m₁ nw h tk, J n m₁ nw → Fr h₀ env.locals h m₁ → News h₀ env.locals h nw → Q .next { s with heap := h, toks := tk }) :
    ∀ (k i : Nat) (m : Nm) (nw : Led), i + k = n → J i m nw → (∀ p ∈ nw, p.1 ≠ I) → RangeRest prog w A E h₀ env x body Q s I a n k i m nw
  | 0, i, m, nw, e, hJ, _ => .zero fun h tk F N => done m nw h tk (by rw [← e]; exact hJ) F N
  | k + 1, i, m, nw, e, hJ, off => .succ fun t h tk F N =>
    wpAny_mono (turn i t m nw h tk (by lia) hJ off F N) (fun f s₂ p => unr_mono p fun m' nw' off' hJ' => range_rest J turn done k (i + 1) m' nw' (by lia) hJ' off') fun _ _ e => e
theorem range_inv {r : Addr} {a₀ b₀ : Int} {t₀ u₀ v₀ : Tok} {n : Nat} {m₀ : Nm} {news : Led} (J : Nat → Nm → Led → Prop)
    (hh : A.handled = none) (hr : IsRange s.heap r a₀ b₀ 1 t₀ u₀ v₀) (hsmall : Builtin.Range.small a₀ b₀ 1 = true) (hn : Builtin.Range.rangeSize a₀ b₀ 1 = (n : Int)) (F : Fr h₀ env.locals s.heap m₀) (N : News h₀ env.locals s.heap news) (hJ : J 0 m₀ news)
    (turn : ∀ I i t m₁ nw h tk, i < n → J i m₁ nw → (∀ p ∈ nw, p.1 ≠ I) → Fr h₀ env.locals h (fun y => if y = x then some (.int (a₀ + (i : Int)) t) else m₁ y) →
      News h₀ env.locals h ((I, itR (a₀ + ((i + 1 : Nat) : Int)) ((n : Int) - ((i + 1 : Nat) : Int))) :: nw) →
      wpAny (model prog w) A (execs body env) (UnrPost h₀ env.locals { s with heap := h, toks := tk } I (itR (a₀ + ((i + 1 : Nat) : Int)) ((n : Int) - ((i + 1 : Nat) : Int))) (J (i + 1)) Q) E { s with heap := h, toks := tk })
    (done : ∀ m₁ nw h tk, J n m₁ nw → Fr h₀ env.locals h m₁ → News h₀ env.locals h nw → Q .next { s with heap := h, toks := tk }) :
    wpAny (model prog w) A (pyIter (.ref r)) (fun it s₂ => LoopAtV prog w A h₀ env x body Q E it s₂) E s :=
  iter_rangeUnr hh hr hsmall hn F N fun I hI => range_rest J (turn I) done n 0 m₀ news (by lia) hJ fun p hp e => by
    have := hI p hp
    rw [e] at this
    exact Nat.lt_irrefl _ this
theorem UnrPost.mk {L : Addr} {s₁ : Shared} {I : Addr} {it : Obj} {R : Nm → Led → Prop} {h' : Heap} {tk : Nat} {m' : Nm} {all : Led} (F : Fr h₀ L h' m') (N : News h₀ L h' all) (nw : Led) (hI : (I, it) ∈ all) (hs : ∀ p ∈ nw, p ∈ all) (off : ∀ p ∈ nw, p.1 ≠ I) (r : R m' nw) :
    UnrPost h₀ L s₁ I it R Q .next { s₁ with heap := h', toks := tk } :=
  ⟨h', tk, m', nw, rfl, F, fun p hp => (List.mem_cons.mp hp).elim (fun e => N p (e ▸ hI)) fun hp => N p (hs p hp), off, r⟩
noncomputable def WEnd (h₀ : Heap) (L : Addr) (J : Nat → Nm → Led → Prop) (j : Nat) (s : Shared) (Q : Flow → Shared → Prop) (f : Flow) (s' : Shared) : Prop :=
  match f with
  | .ret v => Q (.ret v) s'
  | .brk => Q .next s'
  | _ => ∃ j' h' tk' m' nw, j' < j ∧ s' = { s with heap := h', toks := tk' } ∧ Fr h₀ L h' m' ∧ News h₀ L h' nw ∧ J j' m' nw
theorem WEnd.mk {L : Addr} {J : Nat → Nm → Led → Prop} {j : Nat} (j' : Nat) {h' : Heap} {tk' : Nat} {m' : Nm} {nw : Led} (hj : j' < j) (F : Fr h₀ L h' m') (N : News h₀ L h' nw) (r : J j' m' nw) : WEnd h₀ L J j s Q .next { s with heap := h', toks := tk' } :=
  ⟨j', h', tk', m', nw, hj, rfl, F, N, r⟩
theorem while_inv {test : PySem.Expr} {orelse : List Stmt} (hE : PassesOwn (model prog w) A env E) (J : Nat → Nm → Led → Prop)
    (turn : ∀ j m nw h tk, J j m nw → Fr h₀ env.locals h m → News h₀ env.locals h nw →
      wpAny (model prog w) A (isTrue test env (eval test env)) (fun b s₂ => WhlIf b (wpAny (model prog w) A (execs body env) (WEnd h₀ env.locals J j { s with heap := h, toks := tk } Q) E s₂) (wpAny (model prog w) A (execs orelse env) Q E s₂)) E { s with heap := h, toks := tk }) :
    ∀ (j : Nat) (h : Heap) (tk : Nat) (m : Nm) (nw : Led), Fr h₀ env.locals h m → News h₀ env.locals h nw → J j m nw → WhlRest prog w A E env test body orelse Q 0 { s with heap := h, toks := tk } := by
  intro j
  induction j using Nat.strongRecOn with
  | _ j ih =>
    intro h tk m nw F N hJ
    have key : ∀ k, WhlRest prog w A E env test body orelse Q k { s with heap := h, toks := tk } = WhlRest prog w A E env test body orelse Q 0 { s with heap := h, toks := tk } := fun _ => rfl
    rw [← key 1]
    refine whl_turn hE (wpAny_mono (turn j m nw h tk hJ F N) (fun b s₂ h₂ => ?_) fun _ _ e => e)
    have go : ∀ s', wpAny (model prog w) A (execs body env) (WEnd h₀ env.locals J j { s with heap := h, toks := tk } Q) E s' → wpAny (model prog w) A (execs body env) (WhlPost prog w A E env test body orelse Q 0) E s' := fun s' h₃ => by
      refine wpAny_mono h₃ (fun f s₃ p => ?_) fun _ _ e => e
      have fin : (∃ j' h' tk' m' nw, j' < j ∧ s₃ = { s with heap := h', toks := tk' } ∧ Fr h₀ env.locals h' m' ∧ News h₀ env.locals h' nw ∧ J j' m' nw) → WhlRest prog w A E env test body orelse Q 0 s₃ := by
        rintro ⟨j', h', tk', m', nw', hj, rfl, F', N', hJ'⟩
        exact ih j' hj h' tk' m' nw' F' N' hJ'
      cases f with
      | ret v => exact p
      | brk => exact p
      | next => exact fin p
      | cont => exact fin p
    cases b with
    | true => exact WhlIf.yes rfl (go _ h₂)
    | false => exact WhlIf.no rfl h₂
end
theorem frame_as {h₀ h : Heap} {L : Addr} {m m' : Nm} (F : Fr h₀ L h m) (e : ∀ z, m' z = m z) : Fr h₀ L h m' := by
  have : m' = m := funext e
  rw [this]; exact F
theorem news2 {h₀ h : Heap} {L : Addr} {a b : Addr × Obj} {rest : Led} (N : News h₀ L h (a :: rest)) (hb : b ∈ rest) : News h₀ L h (a :: b :: rest) := fun p hp => by
  rcases List.mem_cons.mp hp with rfl | hp
  · exact N _ (.head _)
  · rcases List.mem_cons.mp hp with rfl | hp
    · exact N _ (.tail _ hb)
    · exact N _ (.tail _ hp)
theorem newsSwap {h₀ h : Heap} {L : Addr} {a b : Addr × Obj} {rest : Led} (N : News h₀ L h (a :: b :: rest)) : News h₀ L h (b :: a :: rest) := newsSub N fun p hp => by
  rcases List.mem_cons.mp hp with rfl | hp
  · exact .tail _ (.head _)
  · rcases List.mem_cons.mp hp with rfl | hp
    · exact .head _
    · exact .tail _ (.tail _ hp)
theorem small0 {n : Nat} (h : n ≤ 1000) : Builtin.Range.small 0 (n : Int) 1 = true := small_one (by lia) (by lia) (by lia) (by lia)
theorem size0 (n : Nat) : Builtin.Range.rangeSize 0 (n : Int) 1 = (n : Int) := by
  rw [rangeSize_one]; split <;> lia
noncomputable def Kept (P : Prop) : Prop := P
theorem ap_cons {a p : Addr} {o : Obj} {rest : Led} (h : a ≠ p) (ap : ∀ q ∈ rest, q.1 ≠ p) : ∀ q ∈ (a, o) :: rest, q.1 ≠ p := fun q hq => by
  rcases List.mem_cons.mp hq with rfl | hq
  · exact h
  · exact ap q hq
theorem lt_ne {a b : Addr} (h : @LT.lt Nat _ a b) : b ≠ a := fun e => by
  rw [e] at h
  exact Nat.lt_irrefl _ h
noncomputable def Joined (h₀ : Heap) (L : Addr) (m : Nm) (news : Led) (V : Tok → Value) (s : Shared) (v : Value) (s' : Shared) : Prop :=
  ∃ t h' tk', v = V t ∧ s' = { s with heap := h', toks := tk' } ∧ Fr h₀ L h' m ∧ News h₀ L h' news
theorem Joined.mk {h₀ h' : Heap} {L : Addr} {m : Nm} {news : Led} {V : Tok → Value} {s : Shared} {v : Value} {tk' : Nat} (e : ∃ t, v = V t) (F : Fr h₀ L h' m) (N : News h₀ L h' news) : Joined h₀ L m news V s v { s with heap := h', toks := tk' } := by
  obtain ⟨t, e⟩ := e
  exact ⟨t, h', tk', e, rfl, F, N⟩
theorem join_any {prog : Program} {w : World} {A : Around} {E : Value → Shared → Prop} {s : Shared} {h₀ : Heap} {L : Addr} {m : Nm} {news : Led} {Q : Value → Shared → Prop} {c : Sem Value} (V : Tok → Value) (F : Fr h₀ L s.heap m) (N : News h₀ L s.heap news)
    (h1 : wpAny (model prog w) A c (Joined h₀ L m news V s) E s)
    (h2 : ∀ t h' tk', Fr h₀ L h' m → News h₀ L h' news → Q (V t) { s with heap := h', toks := tk' }) : wpAny (model prog w) A c Q E s := by
  refine wpAny_mono h1 (fun v s' h => ?_) fun _ _ e => e
  obtain ⟨t, h', tk', rfl, rfl, F', N'⟩ := h
  exact h2 t h' tk' F' N'
section
variable {prog : Program} {w : World} {A : Around} {E : Value → Shared → Prop} {s : Shared} {env : Env} {h₀ : Heap} {x : Str} {body : List Stmt} {Q : Flow → Shared → Prop}
theorem rangeS_inv {r : Addr} {a b c : Int} {t₀ u₀ v₀ : Tok} {n : Nat} {m₀ : Nm} {news : Led} (J : Nat → Nm → Led → Prop)
    (hh : A.handled = none) (hr : IsRange s.heap r a b c t₀ u₀ v₀) (hsmall : Builtin.Range.small a b c = true) (hn : Builtin.Range.rangeSize a b c = (n : Int)) (F : Fr h₀ env.locals s.heap m₀) (N : News h₀ env.locals s.heap news) (hJ : J 0 m₀ news)
    (turn : ∀ I o i t m₁ nw h tk, i < n → J i m₁ nw → (∀ p ∈ nw, p.1 ≠ I) → Fr h₀ env.locals h (fun y => if y = x then some (.int (a + (i : Int) * c) t) else m₁ y) → News h₀ env.locals h ((I, o) :: nw) →
      wpAny (model prog w) A (execs body env) (UnrPost h₀ env.locals { s with heap := h, toks := tk } I o (J (i + 1)) Q) E { s with heap := h, toks := tk })
    (done : ∀ m₁ nw h tk, J n m₁ nw → Fr h₀ env.locals h m₁ → News h₀ env.locals h nw → Q .next { s with heap := h, toks := tk }) :
    wpAny (model prog w) A (pyIter (.ref r)) (fun it s₂ => LoopAtV prog w A h₀ env x body Q E it s₂) E s := by
  refine wpAny_pyIter_range hr hsmall ?_
  have W : Walks prog w A s.heap.objs.size [s.heap.objs.size] [s.heap.objs.size] n (fun i v => i < n ∧ ∃ t, v = .int (a + i * c) t)
      (fun i h => IsRangeIter h s.heap.objs.size (a + (i : Nat) * c) ((n : Int) - (i : Nat)) c) := (Walks.range hh _ a c n).bound
  have hnew := next_is_new F
  refine exI9 _ _ _ n _ _ m₀ news J ⟨rfl, W, ?_, ?_, ?_, (by show IsRangeIter _ _ _ _ _; rw [hn]; simpa using Heap.get?_push_size _ rfl), F.push _, (fun p hp => ⟨Heap.get?_push_of_some _ (N p hp).1, (N p hp).2⟩), hJ, ?_, ?_⟩
  · intro hm
    exact absurd F.ns.lt ((List.mem_singleton.mp hm) ▸ Nat.lt_irrefl _)
  · intro b hb
    rw [List.mem_singleton.mp hb]
    exact hnew
  · intro p hp hI
    exact absurd (Heap.lt_size (N p hp).1) ((List.mem_singleton.mp hI) ▸ Nat.lt_irrefl _)
  · rintro i v m₁ news₁ s₁ own ⟨hh', tk', rfl⟩ hin ⟨_, t, rfl⟩ hJ hoff hown hget hall hst F₁ N₁
    obtain ⟨o, ho⟩ : ∃ o, hh'.get? s.heap.objs.size = some o := ⟨_, hst⟩
    have hmem := hall s.heap.objs.size (List.mem_singleton.mpr rfl) hnew _ ho
    have N₂ : News h₀ env.locals hh' ((s.heap.objs.size, o) :: news₁) := fun p hp => by
      rcases List.mem_cons.mp hp with rfl | hp
      · exact N₁ _ (List.mem_append_left _ hmem)
      · exact N₁ _ (List.mem_append_right _ hp)
    refine wpAny_mono (turn s.heap.objs.size o i t m₁ news₁ hh' tk' hin hJ (fun p hp e => hoff p hp (List.mem_singleton.mpr e)) F₁ N₂) (fun f s₂ p => ?_) fun _ _ e => e
    have fin : UnrEnd h₀ env.locals { s with heap := hh', toks := tk' } s.heap.objs.size o (J (i + 1)) s₂ → LoopStepU h₀ env.locals [s.heap.objs.size] own (J (i + 1)) { s with heap := hh', toks := tk' } .next s₂ := by
      rintro ⟨h', tk, m', news', e, F', N', ho', r⟩
      refine ⟨rfl, h', tk, m', news', e, F', fun p hp => ?_, fun p hp hI => ho' p hp (List.mem_singleton.mp hI), r⟩
      rcases List.mem_append.mp hp with hp | hp
      · have h1 : p.1 = s.heap.objs.size := List.mem_singleton.mp (hown p hp)
        have h2 : hh'.get? p.1 = some p.2 := hget p hp
        have h3 : p = (s.heap.objs.size, o) := by
          rw [h1, ho] at h2
          exact Prod.ext h1 (Option.some.inj h2).symm
        rw [h3]; exact N' _ (List.mem_cons_self ..)
      · exact N' _ (List.mem_cons_of_mem _ hp)
    cases f with
    | ret v => exact .ret p
    | brk => exact .brk p
    | next => exact .next (fin p)
    | cont => exact .cont (fin p)
  · rintro h' tk' m' news' F' N' _ hJ
    exact done m' news' h' tk' hJ F' N'
end

theorem fresh_D_pl : True := by
  k_with_none
  w_on
  w_top off
  (k_with "1 eval Name" => (k_here; k_dflt (refine' nameX_L ?F ?v ?_ ?a ?b ?c; (case F => k_asm); (case a => rfl); (case b => rfl); (case v => first | exact @rfl (Option Value) (some _) | assumption); (case c => decide); k_whole)))
  (k_with "1 storeName" => (k_here; k_dflt (first | (refine' Mine.storeT_F ?F ?N ?_ ?a ?b; (case F => k_asm); (case N => k_asm); (case a => rfl); (case b => rfl); k_whole; intro h' t' tk' F' N'; (try k_sweep)) | (refine' Mine.storeT_I ?F ?N ?_ ?a ?b; (case F => k_asm); (case N => k_asm); (case a => rfl); (case b => rfl); k_whole; intro h' t' tk' F' N'; (try k_sweep)) | (refine' Mine.storeT_S ?F ?N ?_ ?a ?b; (case F => k_asm); (case N => k_asm); (case a => rfl); (case b => rfl); k_whole; intro h' t' tk' F' N'; (try k_sweep)) | (refine' Mine.storeT_B ?F ?N ?_ ?a ?b; (case F => k_asm); (case N => k_asm); (case a => rfl); (case b => rfl); k_whole; intro h' t' tk' F' N'; (try k_sweep)))))
  (k_with "1 binaryOp FloorDiv int int" => ((with_reducible show wpAny _ _ (binaryOp _ (Value.int _ _) (Value.int (3 ^ _) _)) _ _ _); refine Mine.floordiv_three (by lia) ?_; (try dsimp only)))
  (k_with "1 subscriptTail Name BinOp ref int" => ((with_reducible show wpAny _ _ (subscriptTail _ _ (Value.ref _) (Value.int _ _)) _ _ _); (refine' Mine.units_item ?k1 ?k2 ?k3 ?k4 ?k5 ?k6 ?k7 ?k8 ?_; (case k1 => k_asm); (case k2 => k_asm); (case k3 => k_mem); (case k4 => k_mem); (case k5 => k_mem); (case k6 => k_mem); (case k7 => first | exact (Mine.fmod3 _).1 | lia); (case k8 => first | exact (Mine.fmod3 _).2 | lia)); intro a9 t91 t92 N9; (try dsimp only)))
  trivial
noncomputable def plSt (i : Nat) : Stmt := (forBody ((fnBody 22).getD 2 (.Pass default))).getD i (.Pass default)
noncomputable def plScope : Scope := fnScope 22
noncomputable abbrev AtP (w : World) (mean : Mean) (mg mb : Nm) (st : List Stmt) (news : Led) (m : Nm) (R : Heap → Addr → Shared → (Flow → Shared → Prop) → Prop) : Prop :=
  AtF w mean mg mb "_law_place" plScope 196 (.ref 195) 1 st news m R
theorem pl0 (w : World) (mean : Mean) (mg mb : Nm) (rest : Led) (m : Nm) (l : Addr) (vs : List Value) (nn : Nat) (ws : List Int) (lv : Int) (t : Tok) (hm : (l, listOf vs.toArray nn) ∈ rest) (hi : IntsAre vs ws) (hl : ws.length = 8) (h0 : 0 ≤ lv ∧ lv < 8)
    (q1 : m "ways" = some (.ref l)) (q2 : m "level" = some (.int lv t)) :
    AtP w mean mg mb [plSt 0] rest m (fun h₀ L s Q => ∀ t' h' tk', Fr h₀ L h' (pu "way" (.int (ws.getD lv.toNat 0) t') m) → News h₀ L h' rest → Q .next { s with heap := h', toks := tk' }) := by
  dsimp only [AtP, AtF, KH, VW, prg]
  k_fill
  intros; rename_i hret
  (conv in (occs := *) plSt _ => all_goals whnf)
  (conv in (occs := *) plScope => all_goals (whnf; dsimp only))
  (k_with "eval Name" => (k_here; (refine' nameX_L (by k_asm) (by assumption) ?_ ?a ?b ?c; (case a => rfl); (case b => rfl); (case c => decide)); (try dsimp only)))
  k_steps
  exact hret _ _ _ (by assumption) (by assumption)
theorem pl1 (w : World) (mean : Mean) (mg mb : Nm) (rest : Led) (m : Nm) (way x y : Int) (t tx ty : Tok)
    (q1 : m "way" = some (.int way t)) (q2 : m "x" = some (.int x tx)) (q3 : m "y" = some (.int y ty)) :
    AtP w mean mg mb [plSt 1] rest m (fun h₀ L s Q => ∀ tx ty h' tk', Fr h₀ L h' (pu "y" (.int (if way = 1 then x + y else 2 * y - x) ty) (pu "x" (.int (if way = 1 then 2 * x - y else x + y) tx) m)) → News h₀ L h' rest → Q .next { s with heap := h', toks := tk' }) := by
  dsimp only [AtP, AtF, KH, VW, prg]
  k_fill
  intros; rename_i hret
  (conv in (occs := *) plSt _ => all_goals whnf)
  (conv in (occs := *) plScope => all_goals (whnf; dsimp only))
  (k_with "eval Name" => (k_here; (refine' nameX_L (by k_asm) (by assumption) ?_ ?a ?b ?c; (case a => rfl); (case b => rfl); (case c => decide)); (try dsimp only)))
  k_steps
  · rename way = 1 => hw
    rw [if_pos hw, if_pos hw] at hret
    exact hret _ _ _ _ (by assumption) (newsSub (by assumption) fun q hq => .tail _ hq)
  · rename way ≠ 1 => hw
    rw [if_neg hw, if_neg hw] at hret
    exact hret _ _ _ _ (by assumption) (newsSub (by assumption) fun q hq => .tail _ hq)
theorem pl2 (w : World) (mean : Mean) (mg mb : Nm) (rest : Led) (m : Nm) (k lv : Int) (t t2 : Tok) (h0 : 0 ≤ k ∧ k < 6561) (h1 : 0 ≤ lv ∧ lv < 8)
    (q1 : m "number" = some (.int k t)) (q2 : m "level" = some (.int lv t2)) :
    AtP w mean mg mb [plSt 2] rest m (fun h₀ L s Q => ∀ t' h' tk', Fr h₀ L h' (pu "figure" (.int ((k.fdiv (3 ^ lv.toNat)).fmod 3) t') m) → News h₀ L h' rest → Q .next { s with heap := h', toks := tk' }) := by
  dsimp only [AtP, AtF, KH, VW, prg]
  k_fill
  intros; rename_i hret
  (conv in (occs := *) plSt _ => all_goals whnf)
  (conv in (occs := *) plScope => all_goals (whnf; dsimp only))
  (k_with "eval Name" => (k_here; (refine' nameX_L (by k_asm) (by assumption) ?_ ?a ?b ?c; (case a => rfl); (case b => rfl); (case c => decide)); (try dsimp only)))
  k_steps
  exact hret _ _ _ (by assumption) (by assumption)
theorem pl3 (w : World) (mean : Mean) (mg mb : Nm) (rest : Led) (m : Nm) (lu a0 a1 a2 : Addr) (nu : Nat) (f hdg x y : Int) (t t2 tx ty t0 t1 t3 t4 t5 t6 : Tok)
    (hU : (lu, listOf #[.ref a0, .ref a1, .ref a2] nu) ∈ rest) (h0 : (a0, tupObj [.int 1 t0, .int 0 t1]) ∈ rest) (h1 : (a1, tupObj [.int 0 t3, .int 1 t4]) ∈ rest) (h2 : (a2, tupObj [.int (-1) t5, .int (-1) t6]) ∈ rest)
    (q1 : m "figure" = some (.int f t)) (q2 : m "x" = some (.int x tx)) (q3 : m "y" = some (.int y ty)) (q4 : m "heading" = some (.int hdg t2)) (q5 : m "units" = some (.ref lu)) :
    AtP w mean mg mb [plSt 3] rest m (fun h₀ L s Q => ∀ tx ty h' tk', Fr h₀ L h' (pu "x" (.int (if 0 < f then x + uX (hdg.fmod 3) else x) tx) (pu "y" (.int (if 0 < f then y + uY (hdg.fmod 3) else y) ty) m)) → News h₀ L h' rest → Q .next { s with heap := h', toks := tk' }) := by
  dsimp only [AtP, AtF, KH, VW, prg]
  k_fill
  intros; rename_i hret
  (conv in (occs := *) plSt _ => all_goals whnf)
  (conv in (occs := *) plScope => all_goals (whnf; dsimp only))
  (k_with "eval Name" => (k_here; (refine' nameX_L (by k_asm) (by assumption) ?_ ?a ?b ?c; (case a => rfl); (case b => rfl); (case c => decide)); (try dsimp only)))
  (k_with "up mem" => first | assumption | (refine List.Mem.tail _ ?_; walk_at "up mem"))
  (k_with "subscriptTail Name BinOp ref int" => ((with_reducible show wpAny _ _ (subscriptTail _ _ (Value.ref _) (Value.int _ _)) _ _ _); (refine' units_item ?k1 ?k2 ?k3 ?k4 ?k5 ?k6 ?k7 ?k8 ?_; (case k1 => k_asm); (case k2 => k_asm); (case k3 => walk_at "up mem"); (case k4 => walk_at "up mem"); (case k5 => walk_at "up mem"); (case k6 => walk_at "up mem"); (case k7 => exact (fmod3 _).1); (case k8 => exact (fmod3 _).2)); intro a9 t91 t92 N9; (try dsimp only)))
  (k_with "up all" => first | (intro q hq; exact hq) | (intro q hq; exact List.Mem.tail _ hq) | (intro q hq; exact List.Mem.tail _ (List.Mem.tail _ hq)) | (intro q hq; exact List.Mem.tail _ (List.Mem.tail _ (List.Mem.tail _ hq))) | (intro q hq; exact List.Mem.tail _ (List.Mem.tail _ (List.Mem.tail _ (List.Mem.tail _ hq)))) | (intro q hq; exact List.Mem.tail _ (List.Mem.tail _ (List.Mem.tail _ (List.Mem.tail _ (List.Mem.tail _ hq))))))
  k_steps
  · rename 0 < f => hw
    rw [if_pos hw, if_pos hw] at hret
    exact hret _ _ _ _ (by assumption) (newsSub (by assumption) (by walk_at "up all"))
  · rename ¬ 0 < f => hw
    rw [if_neg hw, if_neg hw] at hret
    exact hret _ _ _ _ (frSame (frSame (by assumption) q3) ((pu_ne (by decide)).trans q2)) (by assumption)
theorem pl4 (w : World) (mean : Mean) (mg mb : Nm) (rest : Led) (m : Nm) (lu a0 a1 a2 : Addr) (nu : Nat) (f hdg way x y : Int) (t t2 t7 tx ty t0 t1 t3 t4 t5 t6 : Tok)
    (hU : (lu, listOf #[.ref a0, .ref a1, .ref a2] nu) ∈ rest) (h0 : (a0, tupObj [.int 1 t0, .int 0 t1]) ∈ rest) (h1 : (a1, tupObj [.int 0 t3, .int 1 t4]) ∈ rest) (h2 : (a2, tupObj [.int (-1) t5, .int (-1) t6]) ∈ rest)
    (q1 : m "figure" = some (.int f t)) (q2 : m "x" = some (.int x tx)) (q3 : m "y" = some (.int y ty)) (q4 : m "heading" = some (.int hdg t2)) (q5 : m "units" = some (.ref lu)) (q6 : m "way" = some (.int way t7)) :
    AtP w mean mg mb [plSt 4] rest m (fun h₀ L s Q => ∀ tx ty h' tk', Fr h₀ L h' (pu "x" (.int (if f = 2 then x + uX ((hdg + way).fmod 3) else x) tx) (pu "y" (.int (if f = 2 then y + uY ((hdg + way).fmod 3) else y) ty) m)) → News h₀ L h' rest → Q .next { s with heap := h', toks := tk' }) := by
  dsimp only [AtP, AtF, KH, VW, prg]
  k_fill
  intros; rename_i hret
  (conv in (occs := *) plSt _ => all_goals whnf)
  (conv in (occs := *) plScope => all_goals (whnf; dsimp only))
  (k_with "eval Name" => (k_here; (refine' nameX_L (by k_asm) (by assumption) ?_ ?a ?b ?c; (case a => rfl); (case b => rfl); (case c => decide)); (try dsimp only)))
  (k_with "up mem" => first | assumption | (refine List.Mem.tail _ ?_; walk_at "up mem"))
  (k_with "subscriptTail Name BinOp ref int" => ((with_reducible show wpAny _ _ (subscriptTail _ _ (Value.ref _) (Value.int _ _)) _ _ _); (refine' units_item ?k1 ?k2 ?k3 ?k4 ?k5 ?k6 ?k7 ?k8 ?_; (case k1 => k_asm); (case k2 => k_asm); (case k3 => walk_at "up mem"); (case k4 => walk_at "up mem"); (case k5 => walk_at "up mem"); (case k6 => walk_at "up mem"); (case k7 => exact (fmod3 _).1); (case k8 => exact (fmod3 _).2)); intro a9 t91 t92 N9; (try dsimp only)))
  (k_with "up all" => first | (intro q hq; exact hq) | (intro q hq; exact List.Mem.tail _ hq) | (intro q hq; exact List.Mem.tail _ (List.Mem.tail _ hq)) | (intro q hq; exact List.Mem.tail _ (List.Mem.tail _ (List.Mem.tail _ hq))) | (intro q hq; exact List.Mem.tail _ (List.Mem.tail _ (List.Mem.tail _ (List.Mem.tail _ hq)))) | (intro q hq; exact List.Mem.tail _ (List.Mem.tail _ (List.Mem.tail _ (List.Mem.tail _ (List.Mem.tail _ hq))))))
  k_steps
  · rename f = 2 => hw
    rw [if_pos hw, if_pos hw] at hret
    exact hret _ _ _ _ (by assumption) (newsSub (by assumption) (by walk_at "up all"))
  · rename f ≠ 2 => hw
    rw [if_neg hw, if_neg hw] at hret
    exact hret _ _ _ _ (frSame (frSame (by assumption) q3) ((pu_ne (by decide)).trans q2)) (by assumption)
theorem pl5 (w : World) (mean : Mean) (mg mb : Nm) (rest : Led) (m : Nm) (f hdg way : Int) (t t2 t7 : Tok)
    (q1 : m "figure" = some (.int f t)) (q4 : m "heading" = some (.int hdg t2)) (q6 : m "way" = some (.int way t7)) :
    AtP w mean mg mb [plSt 5] rest m (fun h₀ L s Q => ∀ th h' tk', Fr h₀ L h' (pu "heading" (.int (if f = 1 then hdg + way else hdg) th) m) → News h₀ L h' rest → Q .next { s with heap := h', toks := tk' }) := by
  dsimp only [AtP, AtF, KH, VW, prg]
  k_fill
  intros; rename_i hret
  (conv in (occs := *) plSt _ => all_goals whnf)
  (conv in (occs := *) plScope => all_goals (whnf; dsimp only))
  (k_with "eval Name" => (k_here; (refine' nameX_L (by k_asm) (by assumption) ?_ ?a ?b ?c; (case a => rfl); (case b => rfl); (case c => decide)); (try dsimp only)))
  k_steps
  · rename f = 1 => hw
    rw [if_pos hw] at hret
    exact hret _ _ _ (by assumption) (by assumption)
  · rename f ≠ 1 => hw
    rw [if_neg hw] at hret
    exact hret _ _ _ (frSame (by assumption) q4) (by assumption)

theorem fresh_D_place : True := by
  k_with_none
  w_on
  w_top off
  (k_with "1 my enter" => (refine' code_def ?k1 ?k2 ?k3 ?k4 ?k5 ?kA ?kF ?kK ?k6 ?k7 ?k8 ?k9 ?kB ?_ ?c2 ?c3 ?c4 ?c5; walk_at "ce"; (case k9 => first | exact BindsTo.of_eq rfl | exact binds_K (by k_in) rfl (by k_is) rfl rfl rfl | fail "my enter: no rule for these arguments"); (case c5 => decide); (case kB => exact locs rfl); (case c2 => exact rfl); (case c3 => exact rfl); (case c4 => exact rfl); k_whole; intro g' L' h' FG' F' N' B' X' T'; (try dsimp only); (try k_lift B'); (try k_fold)))
  (k_with "1 my news" => (first | assumption | (refine Mine.newsSub (by assumption) ?_; kcj_all) | (refine Mine.newsSub (by assumption) ?_; intro _ hp; repeat (first | exact hp | refine List.Mem.tail _ ?_))))
  (k_with "1 my order" => (first | assumption | exact allLt_of (by assumption) | (simp only [AllLt, and_self, and_true, true_and, *]; done)))
  (k_with "1 ce" => ((case kA => first | assumption | exact rfl); (case kF => first | assumption | exact rfl); (case kK => first | assumption | exact rfl); (case k1 => k_asm); (case k2 => k_asm); (case k3 => k_asm); (case k4 => k_asm); (case k5 => k_asm); (case k6 => k_is); (case k7 => k_is); (case k8 => first | assumption | ktr_room)))
  (k_with "1 eval Name" => (k_here; k_dflt (refine' nameX_L ?F ?v ?_ ?a ?b ?c; (case F => k_asm); (case a => rfl); (case b => rfl); (case v => first | exact @rfl (Option Value) (some _) | assumption); (case c => decide); k_whole)))
  (k_with "1 storeName" => (k_here; k_dflt (first | (refine' Mine.storeT_F ?F ?N ?_ ?a ?b; (case F => k_asm); (case N => k_asm); (case a => rfl); (case b => rfl); k_whole; intro h' t' tk' F' N'; (try k_sweep)) | (refine' Mine.storeT_I ?F ?N ?_ ?a ?b; (case F => k_asm); (case N => k_asm); (case a => rfl); (case b => rfl); k_whole; intro h' t' tk' F' N'; (try k_sweep)) | (refine' Mine.storeT_S ?F ?N ?_ ?a ?b; (case F => k_asm); (case N => k_asm); (case a => rfl); (case b => rfl); k_whole; intro h' t' tk' F' N'; (try k_sweep)) | (refine' Mine.storeT_B ?F ?N ?_ ?a ?b; (case F => k_asm); (case N => k_asm); (case a => rfl); (case b => rfl); k_whole; intro h' t' tk' F' N'; (try k_sweep)))))
  trivial
noncomputable def PlN (m : Nm) (l lu : Addr) (k : Int) (S : Int × Int × Int) : Prop :=
  (∃ t, m "number" = some (.int k t)) ∧ m "ways" = some (.ref l) ∧ m "units" = some (.ref lu) ∧ (∃ t, m "x" = some (.int S.1 t)) ∧ (∃ t, m "y" = some (.int S.2.1 t)) ∧ ∃ t, m "heading" = some (.int S.2.2 t)
theorem PlN.elim {m : Nm} {l lu : Addr} {k : Int} {S : Int × Int × Int} {C : Prop} (h : PlN m l lu k S) (kk : ∀ tn tx ty th, m "number" = some (.int k tn) → m "ways" = some (.ref l) → m "units" = some (.ref lu) → m "x" = some (.int S.1 tx) → m "y" = some (.int S.2.1 ty) → m "heading" = some (.int S.2.2 th) → C) : C :=
  Exists.elim h.1 fun tn n1 => Exists.elim h.2.2.2.1 fun tx n4 => Exists.elim h.2.2.2.2.1 fun ty n5 => Exists.elim h.2.2.2.2.2 fun th n6 => kk tn tx ty th n1 h.2.1 h.2.2.1 n4 n5 n6
theorem PlN.push {m : Nm} {l lu : Addr} {k : Int} {S : Int × Int × Int} {v : Value} (h : PlN m l lu k S) : PlN (pu "level" v m) l lu k S := by
  obtain ⟨⟨tn, n1⟩, n2, n3, ⟨tx, n4⟩, ⟨ty, n5⟩, ⟨th, n6⟩⟩ := h
  exact ⟨⟨tn, (pu_ne (by decide)).trans n1⟩, (pu_ne (by decide)).trans n2, (pu_ne (by decide)).trans n3, ⟨tx, (pu_ne (by decide)).trans n4⟩, ⟨ty, (pu_ne (by decide)).trans n5⟩, ⟨th, (pu_ne (by decide)).trans n6⟩⟩
theorem pl_turn (w : World) (mean : Mean) (mg mb : Nm) (rest : Led) (m : Nm) (l lu a0 a1 a2 : Addr) (nu nn : Nat) (vs : List Value) (ws : List Int) (k lv : Int) (S : Int × Int × Int) (tl t0 t1 t3 t4 t5 t6 : Tok)
    (hm : (l, listOf vs.toArray nn) ∈ rest) (hU : (lu, listOf #[.ref a0, .ref a1, .ref a2] nu) ∈ rest) (h0 : (a0, tupObj [.int 1 t0, .int 0 t1]) ∈ rest) (h1 : (a1, tupObj [.int 0 t3, .int 1 t4]) ∈ rest) (h2 : (a2, tupObj [.int (-1) t5, .int (-1) t6]) ∈ rest)
    (hi : IntsAre vs ws) (hl : ws.length = 8) (hk : 0 ≤ k ∧ k < 6561) (hv : 0 ≤ lv ∧ lv < 8) (hn : PlN m l lu k S) (ql : m "level" = some (.int lv tl)) :
    AtP w mean mg mb [plSt 0, plSt 1, plSt 2, plSt 3, plSt 4, plSt 5] rest m (fun h₀ L s Q => ∀ m' h' tk', PlN m' l lu k (placeStep (ws.getD lv.toNat 0) ((k.fdiv (3 ^ lv.toNat)).fmod 3) S) → Fr h₀ L h' m' → News h₀ L h' rest → Q .next { s with heap := h', toks := tk' }) := by
  intro dp un gd outer A₀ base h₀ L s Q E B F X N TT hd hu hret
  refine PlN.elim hn fun tn tx ty th n1 n2 n3 n4 n5 n6 => ?_
  clear hn
  obtain ⟨x, y, h⟩ := S
  refine seqF (pl0 w mean mg mb rest m l vs nn ws lv tl hm hi hl hv n2 ql dp un gd outer A₀ base h₀ L s _ E B F X N TT hd hu fun t' h5 tk5 F5 N5 => ?_)
  generalize hW : ws.getD lv.toNat 0 = way at *
  refine seqF (pl1 w mean mg mb rest _ way x y t' tx ty pu_eq ((pu_ne (by decide)).trans n4) ((pu_ne (by decide)).trans n5) dp un gd outer A₀ base h₀ L _ _ E B F5 X N5 TT hd hu fun tx' ty' h6 tk6 F6 N6 => ?_)
  refine seqF (pl2 w mean mg mb rest _ k lv tn tl hk hv ((pu_ne (by decide)).trans ((pu_ne (by decide)).trans ((pu_ne (by decide)).trans n1))) ((pu_ne (by decide)).trans ((pu_ne (by decide)).trans ((pu_ne (by decide)).trans ql))) dp un gd outer A₀ base h₀ L _ _ E B F6 X N6 TT hd hu fun tf h7 tk7 F7 N7 => ?_)
  generalize hF : (k.fdiv (3 ^ lv.toNat)).fmod 3 = f at *
  refine seqF (pl3 w mean mg mb rest _ lu a0 a1 a2 nu f h _ _ tf th tx' ty' t0 t1 t3 t4 t5 t6 hU h0 h1 h2 pu_eq ((pu_ne (by decide)).trans ((pu_ne (by decide)).trans pu_eq)) ((pu_ne (by decide)).trans pu_eq) ((pu_ne (by decide)).trans ((pu_ne (by decide)).trans ((pu_ne (by decide)).trans ((pu_ne (by decide)).trans n6))))
    ((pu_ne (by decide)).trans ((pu_ne (by decide)).trans ((pu_ne (by decide)).trans ((pu_ne (by decide)).trans n3)))) dp un gd outer A₀ base h₀ L _ _ E B F7 X N7 TT hd hu fun tx3 ty3 h8 tk8 F8 N8 => ?_)
  refine seqF (pl4 w mean mg mb rest _ lu a0 a1 a2 nu f h way _ _ tf th t' tx3 ty3 t0 t1 t3 t4 t5 t6 hU h0 h1 h2 ((pu_ne (by decide)).trans ((pu_ne (by decide)).trans pu_eq)) pu_eq ((pu_ne (by decide)).trans pu_eq) ((pu_ne (by decide)).trans ((pu_ne (by decide)).trans ((pu_ne (by decide)).trans ((pu_ne (by decide)).trans ((pu_ne (by decide)).trans ((pu_ne (by decide)).trans n6))))))
    ((pu_ne (by decide)).trans ((pu_ne (by decide)).trans ((pu_ne (by decide)).trans ((pu_ne (by decide)).trans ((pu_ne (by decide)).trans ((pu_ne (by decide)).trans n3)))))) ((pu_ne (by decide)).trans ((pu_ne (by decide)).trans ((pu_ne (by decide)).trans ((pu_ne (by decide)).trans ((pu_ne (by decide)).trans pu_eq))))) dp un gd outer A₀ base h₀ L _ _ E B F8 X N8 TT hd hu fun tx4 ty4 h9 tk9 F9 N9 => ?_)
  refine pl5 w mean mg mb rest _ f h way tf th t' ((pu_ne (by decide)).trans ((pu_ne (by decide)).trans ((pu_ne (by decide)).trans ((pu_ne (by decide)).trans pu_eq)))) ((pu_ne (by decide)).trans ((pu_ne (by decide)).trans ((pu_ne (by decide)).trans ((pu_ne (by decide)).trans ((pu_ne (by decide)).trans ((pu_ne (by decide)).trans ((pu_ne (by decide)).trans ((pu_ne (by decide)).trans n6))))))))
    ((pu_ne (by decide)).trans ((pu_ne (by decide)).trans ((pu_ne (by decide)).trans ((pu_ne (by decide)).trans ((pu_ne (by decide)).trans ((pu_ne (by decide)).trans ((pu_ne (by decide)).trans pu_eq))))))) dp un gd outer A₀ base h₀ L _ _ E B F9 X N9 TT hd hu fun th5 h10 tk10 F10 N10 => ?_
  refine hret _ _ _ ⟨⟨tn, ?_⟩, ?_, ?_, ⟨tx4, ?_⟩, ⟨ty4, ?_⟩, ⟨th5, ?_⟩⟩ F10 N10
  · iterate 9 refine (pu_ne (by decide)).trans ?_
    exact n1
  · iterate 9 refine (pu_ne (by decide)).trans ?_
    exact n2
  · iterate 9 refine (pu_ne (by decide)).trans ?_
    exact n3
  · refine (pu_ne (by decide)).trans (pu_eq.trans ?_)
    show some (Value.int _ tx4) = some (Value.int ((if way = 1 then 2 * x - y else x + y) + ((if 0 < f then uX (h.fmod 3) else 0) + if f = 2 then uX ((h + way).fmod 3) else 0)) tx4)
    rw [← Int.add_assoc, ← PyProof.Rows.ite_add_right, ← PyProof.Rows.ite_add_right]
  · refine (pu_ne (by decide)).trans ((pu_ne (by decide)).trans (pu_eq.trans ?_))
    show some (Value.int _ ty4) = some (Value.int ((if way = 1 then x + y else 2 * y - x) + ((if 0 < f then uY (h.fmod 3) else 0) + if f = 2 then uY ((h + way).fmod 3) else 0)) ty4)
    rw [← Int.add_assoc, ← PyProof.Rows.ite_add_right, ← PyProof.Rows.ite_add_right]
  · refine pu_eq.trans ?_
    show some (Value.int _ th5) = some (Value.int (h + if f = 1 then way else 0) th5)
    rw [PyProof.Rows.ite_add_right]
theorem place_end {ws : List Int} {k hd : Int} {t1 t2 : Tok} : ∃ u1 u2, tupObj [.int (stN ws k hd 8).1 t1, .int (stN ws k hd 8).2.1 t2] = tupObj [.int (place ws k hd).1 u1, .int (place ws k hd).2.1 u2] := ⟨t1, t2, rfl⟩
namespace place_call_z
noncomputable def zS (zkk : KXC) (w : World) (mean : Mean) (mg : Nm) (mb : Nm) (news : Led) (l : Addr) (vs : List Value) (nn : Nat) (ws : List Int) (k : Int) (hd : Int) (t : Tok) (t2 : Tok) : Prop := ∀ (hi : IntsAre vs ws) (hl : ws.length = 8) (hw : ∀ x ∈ ws, x = 1 ∨ x = -1) (h0 : 0 ≤ k) (h1 : k < 6561) (h2 : -100 < hd) (h3 : hd < 100), CallsAt w mean mg mb 2 ((l, listOf vs.toArray nn) :: news) (call (.ref 196) [Value.int k t, .ref l, .int hd t2])
      (RetNew ((l, listOf vs.toArray nn) :: news) (fun o => ∃ t1 t2, o = tupObj [.int (place ws k hd).1 t1, .int (place ws k hd).2.1 t2])) (zkk.1) (zkk.2.1) (zkk.2.2.1) (zkk.2.2.2.1) (zkk.2.2.2.2.1) (zkk.2.2.2.2.2.1) (zkk.2.2.2.2.2.2.1) (zkk.2.2.2.2.2.2.2.1) (zkk.2.2.2.2.2.2.2.2.1) (zkk.2.2.2.2.2.2.2.2.2.1) (zkk.2.2.2.2.2.2.2.2.2.2.1) (zkk.2.2.2.2.2.2.2.2.2.2.2.1) (zkk.2.2.2.2.2.2.2.2.2.2.2.2.1) (zkk.2.2.2.2.2.2.2.2.2.2.2.2.2.1) (zkk.2.2.2.2.2.2.2.2.2.2.2.2.2.2.1) (zkk.2.2.2.2.2.2.2.2.2.2.2.2.2.2.2.1) (zkk.2.2.2.2.2.2.2.2.2.2.2.2.2.2.2.2)
noncomputable abbrev zT : Type := (KXC) × (World) × (Mean) × (Nm) × (Nm) × (Led) × (Addr) × (List Value) × (Nat) × (List Int) × (Int) × (Int) × (Tok) × (Tok)
noncomputable def zP (x : zT) : Prop := zS x.1 x.2.1 x.2.2.1 x.2.2.2.1 x.2.2.2.2.1 x.2.2.2.2.2.1 x.2.2.2.2.2.2.1 x.2.2.2.2.2.2.2.1 x.2.2.2.2.2.2.2.2.1 x.2.2.2.2.2.2.2.2.2.1 x.2.2.2.2.2.2.2.2.2.2.1 x.2.2.2.2.2.2.2.2.2.2.2.1 x.2.2.2.2.2.2.2.2.2.2.2.2.1 x.2.2.2.2.2.2.2.2.2.2.2.2.2
theorem zne : Nonempty zT := ⟨(dKXC, dW, fun _ => none, fun _ => none, fun _ => none, [], (0 : Nat), [], 0, [], 0, 0, (0 : Nat), (0 : Nat))⟩
noncomputable def zc : zT := @Classical.epsilon _ zne fun x => ¬ zP x
@[irreducible] noncomputable def zkk : KXC := zc.1
@[irreducible] noncomputable def w : World := zc.2.1
@[irreducible] noncomputable def mean : Mean := zc.2.2.1
@[irreducible] noncomputable def mg : Nm := zc.2.2.2.1
@[irreducible] noncomputable def mb : Nm := zc.2.2.2.2.1
@[irreducible] noncomputable def news : Led := zc.2.2.2.2.2.1
@[irreducible] noncomputable def l : Addr := zc.2.2.2.2.2.2.1
@[irreducible] noncomputable def vs : List Value := zc.2.2.2.2.2.2.2.1
@[irreducible] noncomputable def nn : Nat := zc.2.2.2.2.2.2.2.2.1
@[irreducible] noncomputable def ws : List Int := zc.2.2.2.2.2.2.2.2.2.1
@[irreducible] noncomputable def k : Int := zc.2.2.2.2.2.2.2.2.2.2.1
@[irreducible] noncomputable def hd : Int := zc.2.2.2.2.2.2.2.2.2.2.2.1
@[irreducible] noncomputable def t : Tok := zc.2.2.2.2.2.2.2.2.2.2.2.2.1
@[irreducible] noncomputable def t2 : Tok := zc.2.2.2.2.2.2.2.2.2.2.2.2.2
theorem zmain : zS zkk w mean mg mb news l vs nn ws k hd t t2 := by
  unfold zS
  intro hi hl hw h0 h1 h2 h3
  dsimp only [CallsAt, RetNew, KH, VW, prg]
  k_fill
  intros; rename_i hret
  refine wpAny_call ?_
  walk_at "my enter"
  (k_with "pyIter ref" => refine hold ?_)
  k_steps
  dsimp only [Hold]
  rename IsRange _ _ _ _ _ _ _ _ => hR
  rename Fr _ _ _ (fun y => _) => F5
  rename News _ _ _ _ => N5
  refine rangeS_inv (n := 8) (fun i m nw => nw = _ ∧ PlN m l _ k (stN ws k hd i)) rfl hR (by show Builtin.Range.small 7 (-1) (-1) = true; decide) (by show Builtin.Range.rangeSize 7 (-1) (-1) = 8; decide) F5 N5 ⟨rfl, ⟨_, rfl⟩, rfl, rfl, ⟨_, rfl⟩, ⟨_, rfl⟩, ⟨_, rfl⟩⟩ ?_ ?_
  · intro I o i t m₁ nw h tk hi8 hJ off F N
    obtain ⟨rfl, hn⟩ := hJ
    clear F5 N5
    have e7 : (7 + (i : Int) * -1).toNat = 7 - i ∧ 0 ≤ 7 + (i : Int) * -1 ∧ 7 + (i : Int) * -1 < 8 := by lia
    refine pl_turn w mean mg mb _ _ l _ _ _ _ _ nn vs ws k (7 + (i : Int) * -1) (stN ws k hd i) t _ _ _ _ _ _ (.tail _ (.tail _ (.tail _ (.tail _ (.tail _ (.tail _ (.head _))))))) (.tail _ (.tail _ (.head _))) (.tail _ (.tail _ (.tail _ (.tail _ (.tail _ (.head _)))))) (.tail _ (.tail _ (.tail _ (.tail _ (.head _))))) (.tail _ (.tail _ (.tail _ (.head _))))
      hi hl ⟨h0, h1⟩ e7.2 hn.push pu_eq _ _ _ _ _ _ _ _ _ _ _ (by assumption) F (by assumption) N (by assumption) (by lia) (by lia) fun m' h' tk' hP F' N' => ?_
    rw [e7.1] at hP
    exact UnrPost.mk F' N' _ (.head _) (fun q hq => .tail _ hq) off ⟨rfl, hP⟩
  · intro m₁ nw h tk hJ F N
    have enw := hJ.1
    refine PlN.elim hJ.2 fun tn tx ty th n1 n2 n3 n4 n5 n6 => ?_
    clear hJ
    subst enw
    clear F5 N5
    (k_with "eval Name" => (k_here; (refine' nameX_L (by k_asm) (by assumption) ?_ ?a ?b ?c; (case a => rfl); (case b => rfl); (case c => decide)); (try dsimp only)))
    k_steps
    exact hret _ _ _ _ (by assumption) (by walk_at "my news") (by walk_at "my order") place_end
end place_call_z
theorem place_call (w : World) (mean : Mean) (mg mb : Nm) (news : Led) (l : Addr) (vs : List Value) (nn : Nat) (ws : List Int) (k hd : Int) (t t2 : Tok) (hi : IntsAre vs ws) (hl : ws.length = 8) (hw : ∀ x ∈ ws, x = 1 ∨ x = -1) (h0 : 0 ≤ k) (h1 : k < 6561) (h2 : -100 < hd) (h3 : hd < 100) : Calls w mean mg mb 2 ((l, listOf vs.toArray nn) :: news) (call (.ref 196) [Value.int k t, .ref l, .int hd t2])
      (RetNew ((l, listOf vs.toArray nn) :: news) (fun o => ∃ t1 t2, o = tupObj [.int (place ws k hd).1 t1, .int (place ws k hd).2.1 t2])) := by
  intro kdp kun kgd kcn kcs ka kccd kcl kouter kA kbase kh kL km ks kQ kE
  exact @clz _ place_call_z.zP place_call_z.zne (by with_unfolding_all exact place_call_z.zmain) ((kdp, kun, kgd, kcn, kcs, ka, kccd, kcl, kouter, kA, kbase, kh, kL, km, ks, kQ, kE), w, mean, mg, mb, news, l, vs, nn, ws, k, hd, t, t2) hi hl hw h0 h1 h2 h3

theorem fresh_E_rd : True := by
  k_with_none
  w_on
  w_top off
  (k_with "1 eval Name" => (k_here; k_dflt (refine' nameX_L ?F ?v ?_ ?a ?b ?c; (case F => k_asm); (case a => rfl); (case b => rfl); (case v => first | exact @rfl (Option Value) (some _) | assumption); (case c => decide); k_whole)))
  (k_with "1 storeName" => (k_here; k_dflt (first | (refine' Mine.storeT_F ?F ?N ?_ ?a ?b; (case F => k_asm); (case N => k_asm); (case a => rfl); (case b => rfl); k_whole; intro h' t' tk' F' N'; (try k_sweep)) | (refine' Mine.storeT_I ?F ?N ?_ ?a ?b; (case F => k_asm); (case N => k_asm); (case a => rfl); (case b => rfl); k_whole; intro h' t' tk' F' N'; (try k_sweep)) | (refine' Mine.storeT_S ?F ?N ?_ ?a ?b; (case F => k_asm); (case N => k_asm); (case a => rfl); (case b => rfl); k_whole; intro h' t' tk' F' N'; (try k_sweep)) | (refine' Mine.storeT_B ?F ?N ?_ ?a ?b; (case F => k_asm); (case N => k_asm); (case a => rfl); (case b => rfl); k_whole; intro h' t' tk' F' N'; (try k_sweep)))))
  (k_with "1 subscriptTail Name BinOp ref int" => ((with_reducible show wpAny _ _ (subscriptTail _ _ (Value.ref _) (Value.int _ _)) _ _ _); (refine' Mine.units_item ?k1 ?k2 ?k3 ?k4 ?k5 ?k6 ?k7 ?k8 ?_; (case k1 => k_asm); (case k2 => k_asm); (case k3 => k_mem); (case k4 => k_mem); (case k5 => k_mem); (case k6 => k_mem); (case k7 => first | exact (Mine.fmod3 _).1 | lia); (case k8 => first | exact (Mine.fmod3 _).2 | lia)); intro a9 t91 t92 N9; (try dsimp only)))
  trivial
noncomputable def rdSt (i : Nat) : Stmt := (forBody ((fnBody 24).getD 3 (.Pass default))).getD i (.Pass default)
noncomputable def rdScope : Scope := fnScope 24
noncomputable abbrev AtR (w : World) (mean : Mean) (mg mb : Nm) (st : List Stmt) (news : Led) (m : Nm) (R : Heap → Addr → Shared → (Flow → Shared → Prop) → Prop) : Prop :=
  AtF w mean mg mb "_law_read" rdScope 210 (.ref 209) 1 st news m R
theorem rd0 (w : World) (mean : Mean) (mg mb : Nm) (rest : Led) (m : Nm) (l : Addr) (vs : List Value) (nn : Nat) (ws : List Int) (lv : Int) (t : Tok) (hm : (l, listOf vs.toArray nn) ∈ rest) (hi : IntsAre vs ws) (hl : ws.length = 8) (h0 : 0 ≤ lv ∧ lv < 8) (q1 : m "ways" = some (.ref l)) (q2 : m "level" = some (.int lv t)) :
    AtR w mean mg mb [rdSt 0] rest m (fun h₀ L s Q => ∀ t' h' tk', Fr h₀ L h' (pu "way" (.int (ws.getD lv.toNat 0) t') m) → News h₀ L h' rest → Q .next { s with heap := h', toks := tk' }) := by
  dsimp only [AtR, AtF, KH, VW, prg]
  k_fill
  intros; rename_i hret
  (conv in (occs := *) rdSt _ => all_goals whnf)
  (conv in (occs := *) rdScope => all_goals (whnf; dsimp only))
  (k_with "eval Name" => (k_here; (refine' nameX_L (by k_asm) (by assumption) ?_ ?a ?b ?c; (case a => rfl); (case b => rfl); (case c => decide)); (try dsimp only)))
  k_steps
  exact hret _ _ _ (by assumption) (by assumption)
theorem rd1 (w : World) (mean : Mean) (mg mb : Nm) (rest : Led) (m : Nm) (x y : Int) (tx ty : Tok) (hx : -2000 < x ∧ x < 2000) (hy : -2000 < y ∧ y < 2000) (q1 : m "x" = some (.int x tx)) (q2 : m "y" = some (.int y ty)) :
    AtR w mean mg mb [rdSt 1] rest m (fun h₀ L s Q => ∀ t' h' tk', Fr h₀ L h' (pu "figure" (.int ((x + y).fmod 3) t') m) → News h₀ L h' rest → Q .next { s with heap := h', toks := tk' }) := by
  dsimp only [AtR, AtF, KH, VW, prg]
  k_fill
  intros; rename_i hret
  (conv in (occs := *) rdSt _ => all_goals whnf)
  (conv in (occs := *) rdScope => all_goals (whnf; dsimp only))
  (k_with "eval Name" => (k_here; (refine' nameX_L (by k_asm) (by assumption) ?_ ?a ?b ?c; (case a => rfl); (case b => rfl); (case c => decide)); (try dsimp only)))
  k_steps
  exact hret _ _ _ (by assumption) (by assumption)
theorem rd2 (w : World) (mean : Mean) (mg mb : Nm) (rest : Led) (m : Nm) (f d way : Int) (t t2 t7 : Tok) (q1 : m "figure" = some (.int f t)) (q2 : m "depth" = some (.int d t2)) (q3 : m "way" = some (.int way t7)) :
    AtR w mean mg mb [rdSt 2] rest m (fun h₀ L s Q => ∀ t' h' tk', Fr h₀ L h' (pu "depth" (.int (if f = 1 then d - way else d) t') m) → News h₀ L h' rest → Q .next { s with heap := h', toks := tk' }) := by
  dsimp only [AtR, AtF, KH, VW, prg]
  k_fill
  intros; rename_i hret
  (conv in (occs := *) rdSt _ => all_goals whnf)
  (conv in (occs := *) rdScope => all_goals (whnf; dsimp only))
  (k_with "eval Name" => (k_here; (refine' nameX_L (by k_asm) (by assumption) ?_ ?a ?b ?c; (case a => rfl); (case b => rfl); (case c => decide)); (try dsimp only)))
  k_steps
  · rename f = 1 => hw
    rw [if_pos hw] at hret
    exact hret _ _ _ (by assumption) (by assumption)
  · rename f ≠ 1 => hw
    rw [if_neg hw] at hret
    exact hret _ _ _ (frSame (by assumption) q2) (by assumption)
theorem rd3 (w : World) (mean : Mean) (mg mb : Nm) (rest : Led) (m : Nm) (lu a0 a1 a2 : Addr) (nu : Nat) (f d x y : Int) (t t2 tx ty t0 t1 t3 t4 t5 t6 : Tok) (hU : (lu, listOf #[.ref a0, .ref a1, .ref a2] nu) ∈ rest) (h0 : (a0, tupObj [.int 1 t0, .int 0 t1]) ∈ rest) (h1 : (a1, tupObj [.int 0 t3, .int 1 t4]) ∈ rest) (h2 : (a2, tupObj [.int (-1) t5, .int (-1) t6]) ∈ rest) (q1 : m "figure" = some (.int f t)) (q2 : m "x" = some (.int x tx)) (q3 : m "y" = some (.int y ty)) (q4 : m "depth" = some (.int d t2)) (q5 : m "units" = some (.ref lu)) :
    AtR w mean mg mb [rdSt 3] rest m (fun h₀ L s Q => ∀ tx ty h' tk', Fr h₀ L h' (pu "x" (.int (if 0 < f then x - uX (d.fmod 3) else x) tx) (pu "y" (.int (if 0 < f then y - uY (d.fmod 3) else y) ty) m)) → News h₀ L h' rest → Q .next { s with heap := h', toks := tk' }) := by
  dsimp only [AtR, AtF, KH, VW, prg]
  k_fill
  intros; rename_i hret
  (conv in (occs := *) rdSt _ => all_goals whnf)
  (conv in (occs := *) rdScope => all_goals (whnf; dsimp only))
  (k_with "eval Name" => (k_here; (refine' nameX_L (by k_asm) (by assumption) ?_ ?a ?b ?c; (case a => rfl); (case b => rfl); (case c => decide)); (try dsimp only)))
  (k_with "up mem" => first | assumption | (refine List.Mem.tail _ ?_; walk_at "up mem"))
  (k_with "subscriptTail Name BinOp ref int" => ((with_reducible show wpAny _ _ (subscriptTail _ _ (Value.ref _) (Value.int _ _)) _ _ _); (refine' units_item ?k1 ?k2 ?k3 ?k4 ?k5 ?k6 ?k7 ?k8 ?_; (case k1 => k_asm); (case k2 => k_asm); (case k3 => walk_at "up mem"); (case k4 => walk_at "up mem"); (case k5 => walk_at "up mem"); (case k6 => walk_at "up mem"); (case k7 => exact (fmod3 _).1); (case k8 => exact (fmod3 _).2)); intro a9 t91 t92 N9; (try dsimp only)))
  (k_with "up all" => first | (intro q hq; exact hq) | (intro q hq; exact List.Mem.tail _ hq) | (intro q hq; exact List.Mem.tail _ (List.Mem.tail _ hq)) | (intro q hq; exact List.Mem.tail _ (List.Mem.tail _ (List.Mem.tail _ hq))) | (intro q hq; exact List.Mem.tail _ (List.Mem.tail _ (List.Mem.tail _ (List.Mem.tail _ hq)))) | (intro q hq; exact List.Mem.tail _ (List.Mem.tail _ (List.Mem.tail _ (List.Mem.tail _ (List.Mem.tail _ hq))))))
  k_steps
  · rename 0 < f => hw
    rw [if_pos hw, if_pos hw] at hret
    exact hret _ _ _ _ (by assumption) (newsSub (by assumption) (by walk_at "up all"))
  · rename ¬ 0 < f => hw
    rw [if_neg hw, if_neg hw] at hret
    exact hret _ _ _ _ (frSame (frSame (by assumption) q3) ((pu_ne (by decide)).trans q2)) (by assumption)
theorem rd4 (w : World) (mean : Mean) (mg mb : Nm) (rest : Led) (m : Nm) (lu a0 a1 a2 : Addr) (nu : Nat) (f d way x y : Int) (t t2 t7 tx ty t0 t1 t3 t4 t5 t6 : Tok) (hU : (lu, listOf #[.ref a0, .ref a1, .ref a2] nu) ∈ rest) (h0 : (a0, tupObj [.int 1 t0, .int 0 t1]) ∈ rest) (h1 : (a1, tupObj [.int 0 t3, .int 1 t4]) ∈ rest) (h2 : (a2, tupObj [.int (-1) t5, .int (-1) t6]) ∈ rest) (q1 : m "figure" = some (.int f t)) (q2 : m "x" = some (.int x tx)) (q3 : m "y" = some (.int y ty)) (q4 : m "depth" = some (.int d t2)) (q5 : m "units" = some (.ref lu)) (q6 : m "way" = some (.int way t7)) :
    AtR w mean mg mb [rdSt 4] rest m (fun h₀ L s Q => ∀ tx ty h' tk', Fr h₀ L h' (pu "x" (.int (if f = 2 then x - uX ((d + way).fmod 3) else x) tx) (pu "y" (.int (if f = 2 then y - uY ((d + way).fmod 3) else y) ty) m)) → News h₀ L h' rest → Q .next { s with heap := h', toks := tk' }) := by
  dsimp only [AtR, AtF, KH, VW, prg]
  k_fill
  intros; rename_i hret
  (conv in (occs := *) rdSt _ => all_goals whnf)
  (conv in (occs := *) rdScope => all_goals (whnf; dsimp only))
  (k_with "eval Name" => (k_here; (refine' nameX_L (by k_asm) (by assumption) ?_ ?a ?b ?c; (case a => rfl); (case b => rfl); (case c => decide)); (try dsimp only)))
  (k_with "up mem" => first | assumption | (refine List.Mem.tail _ ?_; walk_at "up mem"))
  (k_with "subscriptTail Name BinOp ref int" => ((with_reducible show wpAny _ _ (subscriptTail _ _ (Value.ref _) (Value.int _ _)) _ _ _); (refine' units_item ?k1 ?k2 ?k3 ?k4 ?k5 ?k6 ?k7 ?k8 ?_; (case k1 => k_asm); (case k2 => k_asm); (case k3 => walk_at "up mem"); (case k4 => walk_at "up mem"); (case k5 => walk_at "up mem"); (case k6 => walk_at "up mem"); (case k7 => exact (fmod3 _).1); (case k8 => exact (fmod3 _).2)); intro a9 t91 t92 N9; (try dsimp only)))
  (k_with "up all" => first | (intro q hq; exact hq) | (intro q hq; exact List.Mem.tail _ hq) | (intro q hq; exact List.Mem.tail _ (List.Mem.tail _ hq)) | (intro q hq; exact List.Mem.tail _ (List.Mem.tail _ (List.Mem.tail _ hq))) | (intro q hq; exact List.Mem.tail _ (List.Mem.tail _ (List.Mem.tail _ (List.Mem.tail _ hq)))) | (intro q hq; exact List.Mem.tail _ (List.Mem.tail _ (List.Mem.tail _ (List.Mem.tail _ (List.Mem.tail _ hq))))))
  k_steps
  · rename f = 2 => hw
    rw [if_pos hw, if_pos hw] at hret
    exact hret _ _ _ _ (by assumption) (newsSub (by assumption) (by walk_at "up all"))
  · rename f ≠ 2 => hw
    rw [if_neg hw, if_neg hw] at hret
    exact hret _ _ _ _ (frSame (frSame (by assumption) q3) ((pu_ne (by decide)).trans q2)) (by assumption)
theorem rd5 (w : World) (mean : Mean) (mg mb : Nm) (rest : Led) (m : Nm) (way x y : Int) (t tx ty : Tok) (hx : -2000 < x ∧ x < 2000) (hy : -2000 < y ∧ y < 2000) (q1 : m "way" = some (.int way t)) (q2 : m "x" = some (.int x tx)) (q3 : m "y" = some (.int y ty)) :
    AtR w mean mg mb [rdSt 5] rest m (fun h₀ L s Q => ∀ tx ty h' tk', Fr h₀ L h' (pu "y" (.int (if way = 1 then (2 * y - x).fdiv 3 else (x + y).fdiv 3) ty) (pu "x" (.int (if way = 1 then (x + y).fdiv 3 else (2 * x - y).fdiv 3) tx) m)) → News h₀ L h' rest → Q .next { s with heap := h', toks := tk' }) := by
  dsimp only [AtR, AtF, KH, VW, prg]
  k_fill
  intros; rename_i hret
  (conv in (occs := *) rdSt _ => all_goals whnf)
  (conv in (occs := *) rdScope => all_goals (whnf; dsimp only))
  (k_with "eval Name" => (k_here; (refine' nameX_L (by k_asm) (by assumption) ?_ ?a ?b ?c; (case a => rfl); (case b => rfl); (case c => decide)); (try dsimp only)))
  k_steps
  · rename way = 1 => hw
    rw [if_pos hw, if_pos hw] at hret
    exact hret _ _ _ _ (by assumption) (newsSub (by assumption) fun q hq => .tail _ hq)
  · rename way ≠ 1 => hw
    rw [if_neg hw, if_neg hw] at hret
    exact hret _ _ _ _ (by assumption) (newsSub (by assumption) fun q hq => .tail _ hq)
theorem rd6 (w : World) (mean : Mean) (mg mb : Nm) (rest : Led) (m : Nm) (f : Int) (F : Str) (t t2 : Tok) (h0 : 0 ≤ f ∧ f < 3) (hF : F.length ≤ 100) (q1 : m "figure" = some (.int f t)) (q2 : m "figures" = some (.str F t2)) :
    AtR w mean mg mb [rdSt 6] rest m (fun h₀ L s Q => ∀ t' h' tk', Fr h₀ L h' (pu "figures" (.str (piece f ++ F) t') m) → News h₀ L h' rest → Q .next { s with heap := h', toks := tk' }) := by
  dsimp only [AtR, AtF, KH, VW, prg]
  k_fill
  intros; rename_i hret
  (conv in (occs := *) rdSt _ => all_goals whnf)
  (conv in (occs := *) rdScope => all_goals (whnf; dsimp only))
  (k_with "eval Name" => (k_here; (refine' nameX_L (by k_asm) (by assumption) ?_ ?a ?b ?c; (case a => rfl); (case b => rfl); (case c => decide)); (try dsimp only)))
  k_steps
  exact hret _ _ _ (by assumption) (by assumption)

theorem fresh_E_read : True := by
  k_with_none
  w_on
  w_top off
  (k_with "1 my enter" => (refine' code_def ?k1 ?k2 ?k3 ?k4 ?k5 ?kA ?kF ?kK ?k6 ?k7 ?k8 ?k9 ?kB ?_ ?c2 ?c3 ?c4 ?c5; walk_at "ce"; (case k9 => first | exact BindsTo.of_eq rfl | exact binds_K (by k_in) rfl (by k_is) rfl rfl rfl | fail "my enter: no rule for these arguments"); (case c5 => decide); (case kB => exact locs rfl); (case c2 => exact rfl); (case c3 => exact rfl); (case c4 => exact rfl); k_whole; intro g' L' h' FG' F' N' B' X' T'; (try dsimp only); (try k_lift B'); (try k_fold)))
  (k_with "1 my news" => (first | assumption | (refine Mine.newsSub (by assumption) ?_; kcj_all) | (refine Mine.newsSub (by assumption) ?_; intro _ hp; repeat (first | exact hp | refine List.Mem.tail _ ?_))))
  (k_with "1 ce" => ((case kA => first | assumption | exact rfl); (case kF => first | assumption | exact rfl); (case kK => first | assumption | exact rfl); (case k1 => k_asm); (case k2 => k_asm); (case k3 => k_asm); (case k4 => k_asm); (case k5 => k_asm); (case k6 => k_is); (case k7 => k_is); (case k8 => first | assumption | ktr_room)))
  (k_with "1 eval Name" => (k_here; k_dflt (refine' nameX_L ?F ?v ?_ ?a ?b ?c; (case F => k_asm); (case a => rfl); (case b => rfl); (case v => first | exact @rfl (Option Value) (some _) | assumption); (case c => decide); k_whole)))
  (k_with "1 storeName" => (k_here; k_dflt (first | (refine' Mine.storeT_F ?F ?N ?_ ?a ?b; (case F => k_asm); (case N => k_asm); (case a => rfl); (case b => rfl); k_whole; intro h' t' tk' F' N'; (try k_sweep)) | (refine' Mine.storeT_I ?F ?N ?_ ?a ?b; (case F => k_asm); (case N => k_asm); (case a => rfl); (case b => rfl); k_whole; intro h' t' tk' F' N'; (try k_sweep)) | (refine' Mine.storeT_S ?F ?N ?_ ?a ?b; (case F => k_asm); (case N => k_asm); (case a => rfl); (case b => rfl); k_whole; intro h' t' tk' F' N'; (try k_sweep)) | (refine' Mine.storeT_B ?F ?N ?_ ?a ?b; (case F => k_asm); (case N => k_asm); (case a => rfl); (case b => rfl); k_whole; intro h' t' tk' F' N'; (try k_sweep)))))
  (k_with "1 compareOp Eq ref ref" => ((with_reducible show wpAny _ _ (compareOp CmpOp.Eq (Value.ref _) (Value.ref _)) _ _ _); k_dflt (refine eq_dataH (by ke_read) (by ke_read) (by ke_shaped) (by ke_shaped) (by ktr_units) ?_); ke_norm))
  trivial
noncomputable def RdN (m : Nm) (l lu : Addr) (fi : Int) (S : RSt) : Prop :=
  (∃ t, m "first" = some (.int fi t)) ∧ m "ways" = some (.ref l) ∧ m "units" = some (.ref lu) ∧ (∃ t, m "x" = some (.int S.1 t)) ∧ (∃ t, m "y" = some (.int S.2.1 t)) ∧ (∃ t, m "depth" = some (.int S.2.2.1 t)) ∧ ∃ t, m "figures" = some (.str S.2.2.2 t)
theorem RdN.elim {m : Nm} {l lu : Addr} {fi : Int} {S : RSt} {C : Prop} (h : RdN m l lu fi S) (k : ∀ tn tx ty td tf, m "first" = some (.int fi tn) → m "ways" = some (.ref l) → m "units" = some (.ref lu) → m "x" = some (.int S.1 tx) → m "y" = some (.int S.2.1 ty) → m "depth" = some (.int S.2.2.1 td) → m "figures" = some (.str S.2.2.2 tf) → C) : C :=
  Exists.elim h.1 fun tn n1 => Exists.elim h.2.2.2.1 fun tx n4 => Exists.elim h.2.2.2.2.1 fun ty n5 => Exists.elim h.2.2.2.2.2.1 fun td n6 => Exists.elim h.2.2.2.2.2.2 fun tf n7 => k tn tx ty td tf n1 h.2.1 h.2.2.1 n4 n5 n6 n7
theorem RdN.push {m : Nm} {l lu : Addr} {fi : Int} {S : RSt} {v : Value} (h : RdN m l lu fi S) : RdN (pu "level" v m) l lu fi S := by
  obtain ⟨⟨tn, n1⟩, n2, n3, ⟨tx, n4⟩, ⟨ty, n5⟩, ⟨td, n6⟩, ⟨tf, n7⟩⟩ := h
  exact ⟨⟨tn, (pu_ne (by decide)).trans n1⟩, (pu_ne (by decide)).trans n2, (pu_ne (by decide)).trans n3, ⟨tx, (pu_ne (by decide)).trans n4⟩, ⟨ty, (pu_ne (by decide)).trans n5⟩, ⟨td, (pu_ne (by decide)).trans n6⟩, ⟨tf, (pu_ne (by decide)).trans n7⟩⟩
theorem ite_sub {c : Prop} [Decidable c] {a b : Int} : (if c then a - b else a) = a - if c then b else 0 := by
  split
  · rfl
  · exact (Int.sub_zero a).symm
theorem step_bound {c : Prop} [Decidable c] {a b : Int} (h : -1100 < a ∧ a < 1100) (hb : -1 ≤ b ∧ b ≤ 1) : -1101 < (if c then a - b else a) ∧ (if c then a - b else a) < 1101 := by split <;> lia
theorem step_bound2 {c : Prop} [Decidable c] {a b : Int} (h : -1101 < a ∧ a < 1101) (hb : -1 ≤ b ∧ b ≤ 1) : -2000 < (if c then a - b else a) ∧ (if c then a - b else a) < 2000 := by split <;> lia
theorem rd_turn (w : World) (mean : Mean) (mg mb : Nm) (rest : Led) (m : Nm) (l lu a0 a1 a2 : Addr) (nu nn : Nat) (vs : List Value) (ws : List Int) (fi lv : Int) (S : RSt) (tl t0 t1 t3 t4 t5 t6 : Tok)
    (hm : (l, listOf vs.toArray nn) ∈ rest) (hU : (lu, listOf #[.ref a0, .ref a1, .ref a2] nu) ∈ rest) (h0 : (a0, tupObj [.int 1 t0, .int 0 t1]) ∈ rest) (h1 : (a1, tupObj [.int 0 t3, .int 1 t4]) ∈ rest) (h2 : (a2, tupObj [.int (-1) t5, .int (-1) t6]) ∈ rest)
    (hi : IntsAre vs ws) (hl : ws.length = 8) (hv : 0 ≤ lv ∧ lv < 8) (bx : -1100 < S.1 ∧ S.1 < 1100) (by' : -1100 < S.2.1 ∧ S.2.1 < 1100) (bf : S.2.2.2.length ≤ 100) (hn : RdN m l lu fi S) (ql : m "level" = some (.int lv tl)) :
    AtR w mean mg mb [rdSt 0, rdSt 1, rdSt 2, rdSt 3, rdSt 4, rdSt 5, rdSt 6] rest m (fun h₀ L s Q => ∀ m' h' tk', RdN m' l lu fi (rdStep (ws.getD lv.toNat 0) S) → Fr h₀ L h' m' → News h₀ L h' rest → Q .next { s with heap := h', toks := tk' }) := by
  intro dp un gd outer A₀ base h₀ L s Q E B F X N TT hd hu hret
  refine RdN.elim hn fun tn tx ty td tg n1 n2 n3 n4 n5 n6 n7 => ?_
  clear hn
  obtain ⟨x, y, d, G⟩ := S
  have wide : ∀ {a : Int}, -1100 < a ∧ a < 1100 → -2000 < a ∧ a < 2000 := fun h => by lia
  refine seqF (rd0 w mean mg mb rest m l vs nn ws lv tl hm hi hl hv n2 ql dp un gd outer A₀ base h₀ L s _ E B F X N TT hd hu fun t' h5 tk5 F5 N5 => ?_)
  generalize hW : ws.getD lv.toNat 0 = way at *
  refine seqF (rd1 w mean mg mb rest _ x y tx ty (wide bx) (wide by') ((pu_ne (by decide)).trans (n4)) ((pu_ne (by decide)).trans (n5)) dp un gd outer A₀ base h₀ L _ _ E B F5 X N5 TT hd hu fun tf h6 tk6 F6 N6 => ?_)
  have f3 := fmod3 (x + y)
  generalize hF : (x + y).fmod 3 = f at *
  refine seqF (rd2 w mean mg mb rest _ f d way tf td t' pu_eq ((pu_ne (by decide)).trans ((pu_ne (by decide)).trans (n6))) ((pu_ne (by decide)).trans (pu_eq)) dp un gd outer A₀ base h₀ L _ _ E B F6 X N6 TT hd hu fun td2 h7 tk7 F7 N7 => ?_)
  generalize hD : (if f = 1 then d - way else d) = d2 at *
  refine seqF (rd3 w mean mg mb rest _ lu a0 a1 a2 nu f d2 x y tf td2 tx ty t0 t1 t3 t4 t5 t6 hU h0 h1 h2 ((pu_ne (by decide)).trans (pu_eq)) ((pu_ne (by decide)).trans ((pu_ne (by decide)).trans ((pu_ne (by decide)).trans (n4)))) ((pu_ne (by decide)).trans ((pu_ne (by decide)).trans ((pu_ne (by decide)).trans (n5)))) pu_eq ((pu_ne (by decide)).trans ((pu_ne (by decide)).trans ((pu_ne (by decide)).trans (n3)))) dp un gd outer A₀ base h₀ L _ _ E B F7 X N7 TT hd hu fun tx3 ty3 h8 tk8 F8 N8 => ?_)
  have c1 := step_bound (c := 0 < f) bx (uX_abs (d2.fmod 3))
  have c2 := step_bound (c := 0 < f) by' (uY_abs (d2.fmod 3))
  refine seqF (rd4 w mean mg mb rest _ lu a0 a1 a2 nu f d2 way _ _ tf td2 t' tx3 ty3 t0 t1 t3 t4 t5 t6 hU h0 h1 h2 ((pu_ne (by decide)).trans ((pu_ne (by decide)).trans ((pu_ne (by decide)).trans (pu_eq)))) pu_eq ((pu_ne (by decide)).trans (pu_eq)) ((pu_ne (by decide)).trans ((pu_ne (by decide)).trans (pu_eq))) ((pu_ne (by decide)).trans ((pu_ne (by decide)).trans ((pu_ne (by decide)).trans ((pu_ne (by decide)).trans ((pu_ne (by decide)).trans (n3)))))) ((pu_ne (by decide)).trans ((pu_ne (by decide)).trans ((pu_ne (by decide)).trans ((pu_ne (by decide)).trans (pu_eq))))) dp un gd outer A₀ base h₀ L _ _ E B F8 X N8 TT hd hu fun tx4 ty4 h9 tk9 F9 N9 => ?_)
  have c3 := step_bound2 (c := f = 2) c1 (uX_abs ((d2 + way).fmod 3))
  have c4 := step_bound2 (c := f = 2) c2 (uY_abs ((d2 + way).fmod 3))
  rw [ite_sub (c := f = 2), ite_sub (c := 0 < f), Int.sub_sub] at c3
  rw [ite_sub (c := f = 2), ite_sub (c := 0 < f), Int.sub_sub] at c4
  rw [ite_sub (c := f = 2), ite_sub (c := 0 < f), Int.sub_sub, ite_sub (c := f = 2), ite_sub (c := 0 < f), Int.sub_sub] at F9
  refine seqF (rd5 w mean mg mb rest _ way _ _ t' tx4 ty4 c3 c4 ((pu_ne (by decide)).trans ((pu_ne (by decide)).trans ((pu_ne (by decide)).trans ((pu_ne (by decide)).trans ((pu_ne (by decide)).trans ((pu_ne (by decide)).trans (pu_eq))))))) pu_eq ((pu_ne (by decide)).trans (pu_eq)) dp un gd outer A₀ base h₀ L _ _ E B F9 X N9 TT hd hu fun tx5 ty5 h10 tk10 F10 N10 => ?_)
  refine rd6 w mean mg mb rest _ f G tf tg f3 bf ((pu_ne (by decide)).trans ((pu_ne (by decide)).trans ((pu_ne (by decide)).trans ((pu_ne (by decide)).trans ((pu_ne (by decide)).trans ((pu_ne (by decide)).trans ((pu_ne (by decide)).trans (pu_eq)))))))) ((pu_ne (by decide)).trans ((pu_ne (by decide)).trans ((pu_ne (by decide)).trans ((pu_ne (by decide)).trans ((pu_ne (by decide)).trans ((pu_ne (by decide)).trans ((pu_ne (by decide)).trans ((pu_ne (by decide)).trans ((pu_ne (by decide)).trans (n7)))))))))) dp un gd outer A₀ base h₀ L _ _ E B F10 X N10 TT hd hu fun tg6 h11 tk11 F11 N11 => ?_
  have eS : rdStep way (x, y, d, G) = (if way = 1 then (x - dX way f d2 + (y - dY way f d2)).fdiv 3 else (2 * (x - dX way f d2) - (y - dY way f d2)).fdiv 3, if way = 1 then (2 * (y - dY way f d2) - (x - dX way f d2)).fdiv 3 else (x - dX way f d2 + (y - dY way f d2)).fdiv 3, d2, piece f ++ G) := by
    subst hF hD; rfl
  refine hret _ _ _ ?_ F11 N11
  rw [eS]
  exact ⟨⟨tn, (pu_ne (by decide)).trans ((pu_ne (by decide)).trans ((pu_ne (by decide)).trans ((pu_ne (by decide)).trans ((pu_ne (by decide)).trans ((pu_ne (by decide)).trans ((pu_ne (by decide)).trans ((pu_ne (by decide)).trans ((pu_ne (by decide)).trans ((pu_ne (by decide)).trans (n1))))))))))⟩, (pu_ne (by decide)).trans ((pu_ne (by decide)).trans ((pu_ne (by decide)).trans ((pu_ne (by decide)).trans ((pu_ne (by decide)).trans ((pu_ne (by decide)).trans ((pu_ne (by decide)).trans ((pu_ne (by decide)).trans ((pu_ne (by decide)).trans ((pu_ne (by decide)).trans (n2)))))))))), (pu_ne (by decide)).trans ((pu_ne (by decide)).trans ((pu_ne (by decide)).trans ((pu_ne (by decide)).trans ((pu_ne (by decide)).trans ((pu_ne (by decide)).trans ((pu_ne (by decide)).trans ((pu_ne (by decide)).trans ((pu_ne (by decide)).trans ((pu_ne (by decide)).trans (n3)))))))))), ⟨tx5, (pu_ne (by decide)).trans ((pu_ne (by decide)).trans (pu_eq))⟩, ⟨ty5, (pu_ne (by decide)).trans (pu_eq)⟩, ⟨td2, (pu_ne (by decide)).trans ((pu_ne (by decide)).trans ((pu_ne (by decide)).trans ((pu_ne (by decide)).trans ((pu_ne (by decide)).trans ((pu_ne (by decide)).trans ((pu_ne (by decide)).trans (pu_eq)))))))⟩, ⟨tg6, pu_eq⟩⟩
theorem rd_wide {i : Nat} {a : Int} (hi : i < 8) (h : -(1000 + 2 * (i : Int)) ≤ a ∧ a ≤ 1000 + 2 * (i : Int)) : -1100 < a ∧ a < 1100 := by lia
theorem rd_len {i n : Nat} (hi : i < 8) (h : n = (Str.ofString "").length + 2 * i) : n ≤ 100 := by
  rw [show (Str.ofString "").length = 0 from rfl] at h; lia
theorem read_endT {ws : List Int} {x₀ y₀ d₀ fi : Int} (h : ((rdN ws (x₀, y₀, d₀, Str.ofString "") 8).1 == 0 && ((rdN ws (x₀, y₀, d₀, Str.ofString "") 8).2.1 == 0 && (rdN ws (x₀, y₀, d₀, Str.ofString "") 8).2.2.1 == fi)) = true) : (rdN ws (x₀, y₀, d₀, Str.ofString "") 8).2.2.2 = readF ws x₀ y₀ d₀ fi := (if_pos h).symm
theorem read_endF {ws : List Int} {x₀ y₀ d₀ fi : Int} (h : ((rdN ws (x₀, y₀, d₀, Str.ofString "") 8).1 == 0 && ((rdN ws (x₀, y₀, d₀, Str.ofString "") 8).2.1 == 0 && (rdN ws (x₀, y₀, d₀, Str.ofString "") 8).2.2.1 == fi)) = false) : Str.ofString "" = readF ws x₀ y₀ d₀ fi := (if_neg (by rw [h]; exact Bool.false_ne_true)).symm
namespace read_call_z
noncomputable def zS (zkk : KXC) (w : World) (mean : Mean) (mg : Nm) (mb : Nm) (news : Led) (p : Addr) (l : Addr) (vs : List Value) (nn : Nat) (ws : List Int) (x₀ : Int) (y₀ : Int) (d₀ : Int) (fi : Int) (t : Tok) (t2 : Tok) (t3 : Tok) (t4 : Tok) : Prop := ∀ (hi : IntsAre vs ws) (hl : ws.length = 8) (hw : ∀ x ∈ ws, x = 1 ∨ x = -1) (hx : -1000 < x₀ ∧ x₀ < 1000) (hy : -1000 < y₀ ∧ y₀ < 1000) (hd : -1000 < d₀ ∧ d₀ < 1000) (hf : -1000 < fi ∧ fi < 1000), CallsAt w mean mg mb 12 ((p, tupObj [.int x₀ t3, .int y₀ t4]) :: (l, listOf vs.toArray nn) :: news) (call (.ref 210) [Value.ref p, .int d₀ t, .ref l, .int fi t2])
      (Ret ((p, tupObj [.int x₀ t3, .int y₀ t4]) :: (l, listOf vs.toArray nn) :: news) (fun t => .str (readF ws x₀ y₀ d₀ fi) t)) (zkk.1) (zkk.2.1) (zkk.2.2.1) (zkk.2.2.2.1) (zkk.2.2.2.2.1) (zkk.2.2.2.2.2.1) (zkk.2.2.2.2.2.2.1) (zkk.2.2.2.2.2.2.2.1) (zkk.2.2.2.2.2.2.2.2.1) (zkk.2.2.2.2.2.2.2.2.2.1) (zkk.2.2.2.2.2.2.2.2.2.2.1) (zkk.2.2.2.2.2.2.2.2.2.2.2.1) (zkk.2.2.2.2.2.2.2.2.2.2.2.2.1) (zkk.2.2.2.2.2.2.2.2.2.2.2.2.2.1) (zkk.2.2.2.2.2.2.2.2.2.2.2.2.2.2.1) (zkk.2.2.2.2.2.2.2.2.2.2.2.2.2.2.2.1) (zkk.2.2.2.2.2.2.2.2.2.2.2.2.2.2.2.2)
noncomputable abbrev zT : Type := (KXC) × (World) × (Mean) × (Nm) × (Nm) × (Led) × (Addr) × (Addr) × (List Value) × (Nat) × (List Int) × (Int) × (Int) × (Int) × (Int) × (Tok) × (Tok) × (Tok) × (Tok)
noncomputable def zP (x : zT) : Prop := zS x.1 x.2.1 x.2.2.1 x.2.2.2.1 x.2.2.2.2.1 x.2.2.2.2.2.1 x.2.2.2.2.2.2.1 x.2.2.2.2.2.2.2.1 x.2.2.2.2.2.2.2.2.1 x.2.2.2.2.2.2.2.2.2.1 x.2.2.2.2.2.2.2.2.2.2.1 x.2.2.2.2.2.2.2.2.2.2.2.1 x.2.2.2.2.2.2.2.2.2.2.2.2.1 x.2.2.2.2.2.2.2.2.2.2.2.2.2.1 x.2.2.2.2.2.2.2.2.2.2.2.2.2.2.1 x.2.2.2.2.2.2.2.2.2.2.2.2.2.2.2.1 x.2.2.2.2.2.2.2.2.2.2.2.2.2.2.2.2.1 x.2.2.2.2.2.2.2.2.2.2.2.2.2.2.2.2.2.1 x.2.2.2.2.2.2.2.2.2.2.2.2.2.2.2.2.2.2
theorem zne : Nonempty zT := ⟨(dKXC, dW, fun _ => none, fun _ => none, fun _ => none, [], (0 : Nat), (0 : Nat), [], 0, [], 0, 0, 0, 0, (0 : Nat), (0 : Nat), (0 : Nat), (0 : Nat))⟩
noncomputable def zc : zT := @Classical.epsilon _ zne fun x => ¬ zP x
@[irreducible] noncomputable def zkk : KXC := zc.1
@[irreducible] noncomputable def w : World := zc.2.1
@[irreducible] noncomputable def mean : Mean := zc.2.2.1
@[irreducible] noncomputable def mg : Nm := zc.2.2.2.1
@[irreducible] noncomputable def mb : Nm := zc.2.2.2.2.1
@[irreducible] noncomputable def news : Led := zc.2.2.2.2.2.1
@[irreducible] noncomputable def p : Addr := zc.2.2.2.2.2.2.1
@[irreducible] noncomputable def l : Addr := zc.2.2.2.2.2.2.2.1
@[irreducible] noncomputable def vs : List Value := zc.2.2.2.2.2.2.2.2.1
@[irreducible] noncomputable def nn : Nat := zc.2.2.2.2.2.2.2.2.2.1
@[irreducible] noncomputable def ws : List Int := zc.2.2.2.2.2.2.2.2.2.2.1
@[irreducible] noncomputable def x₀ : Int := zc.2.2.2.2.2.2.2.2.2.2.2.1
@[irreducible] noncomputable def y₀ : Int := zc.2.2.2.2.2.2.2.2.2.2.2.2.1
@[irreducible] noncomputable def d₀ : Int := zc.2.2.2.2.2.2.2.2.2.2.2.2.2.1
@[irreducible] noncomputable def fi : Int := zc.2.2.2.2.2.2.2.2.2.2.2.2.2.2.1
@[irreducible] noncomputable def t : Tok := zc.2.2.2.2.2.2.2.2.2.2.2.2.2.2.2.1
@[irreducible] noncomputable def t2 : Tok := zc.2.2.2.2.2.2.2.2.2.2.2.2.2.2.2.2.1
@[irreducible] noncomputable def t3 : Tok := zc.2.2.2.2.2.2.2.2.2.2.2.2.2.2.2.2.2.1
@[irreducible] noncomputable def t4 : Tok := zc.2.2.2.2.2.2.2.2.2.2.2.2.2.2.2.2.2.2
theorem zmain : zS zkk w mean mg mb news p l vs nn ws x₀ y₀ d₀ fi t t2 t3 t4 := by
  unfold zS
  intro hi hl hw hx hy hd hf
  dsimp only [CallsAt, Ret, KH, VW, prg]
  k_fill
  intros; rename_i hret
  refine wpAny_call ?_
  walk_at "my enter"
  (k_with "pyIter ref" => refine hold ?_)
  k_steps
  dsimp only [Hold]
  rename IsRange _ _ _ _ _ _ _ _ => hR
  rename Fr _ _ _ (fun y => _) => F5
  rename News _ _ _ _ => N5
  refine range_inv (n := 8) (fun i m nw => nw = _ ∧ RdN m l _ fi (rdN ws (x₀, y₀, d₀, Str.ofString "") i)) rfl hR (by show Builtin.Range.small 0 8 1 = true; decide) (by show Builtin.Range.rangeSize 0 8 1 = 8; decide) F5 N5 ⟨rfl, ⟨_, rfl⟩, rfl, rfl, ⟨_, rfl⟩, ⟨_, rfl⟩, ⟨_, rfl⟩, ⟨_, rfl⟩⟩ ?_ ?_
  · intro I i t m₁ nw h tk hi8 hJ off F N
    obtain ⟨rfl, hn⟩ := hJ
    clear F5 N5
    have ei : (0 + (i : Int)).toNat = i ∧ 0 ≤ 0 + (i : Int) ∧ 0 + (i : Int) < 8 := by lia
    have bd := rdN_bound (f := Str.ofString "") hl hw hx hy hd i (Nat.le_of_lt hi8)
    have ln := rdN_len (ws := ws) (s := (x₀, y₀, d₀, Str.ofString "")) i
    refine rd_turn w mean mg mb _ _ l _ _ _ _ _ nn vs ws fi (0 + (i : Int)) (rdN ws (x₀, y₀, d₀, Str.ofString "") i) t _ _ _ _ _ _ (.tail _ (.tail _ (.tail _ (.tail _ (.tail _ (.tail _ (.head _))))))) (.tail _ (.head _)) (.tail _ (.tail _ (.tail _ (.tail _ (.head _))))) (.tail _ (.tail _ (.tail _ (.head _)))) (.tail _ (.tail _ (.head _)))
      hi hl ei.2 (rd_wide hi8 bd.1) (rd_wide hi8 bd.2.1) (rd_len hi8 ln) hn.push pu_eq _ _ _ _ _ _ _ _ _ _ _ (by assumption) F (by assumption) N (by assumption) (by lia) (by lia) fun m' h' tk' hP F' N' => ?_
    rw [ei.1] at hP
    exact UnrPost.mk F' N' _ (.head _) (fun q hq => .tail _ hq) off ⟨rfl, hP⟩
  · intro m₁ nw h tk hJ F N
    have enw := hJ.1
    refine RdN.elim hJ.2 fun tn tx ty td tf n1 n2 n3 n4 n5 n6 n7 => ?_
    clear hJ
    subst enw
    clear F5 N5
    (k_with "eval Name" => (k_here; (refine' nameX_L (by k_asm) (by assumption) ?_ ?a ?b ?c; (case a => rfl); (case b => rfl); (case c => decide)); (try dsimp only)))
    k_steps
    · exact ret_str hret (read_endT (by assumption)) (by assumption) (by walk_at "my news")
    · exact ret_str hret (read_endF (by assumption)) (by assumption) (by walk_at "my news")
end read_call_z
theorem read_call (w : World) (mean : Mean) (mg mb : Nm) (news : Led) (p l : Addr) (vs : List Value) (nn : Nat) (ws : List Int) (x₀ y₀ d₀ fi : Int) (t t2 t3 t4 : Tok) (hi : IntsAre vs ws) (hl : ws.length = 8) (hw : ∀ x ∈ ws, x = 1 ∨ x = -1) (hx : -1000 < x₀ ∧ x₀ < 1000) (hy : -1000 < y₀ ∧ y₀ < 1000) (hd : -1000 < d₀ ∧ d₀ < 1000) (hf : -1000 < fi ∧ fi < 1000) : Calls w mean mg mb 12 ((p, tupObj [.int x₀ t3, .int y₀ t4]) :: (l, listOf vs.toArray nn) :: news) (call (.ref 210) [Value.ref p, .int d₀ t, .ref l, .int fi t2])
      (Ret ((p, tupObj [.int x₀ t3, .int y₀ t4]) :: (l, listOf vs.toArray nn) :: news) (fun t => .str (readF ws x₀ y₀ d₀ fi) t)) := by
  intro kdp kun kgd kcn kcs ka kccd kcl kouter kA kbase kh kL km ks kQ kE
  exact @clz _ read_call_z.zP read_call_z.zne (by with_unfolding_all exact read_call_z.zmain) ((kdp, kun, kgd, kcn, kcs, ka, kccd, kcl, kouter, kA, kbase, kh, kL, km, ks, kQ, kE), w, mean, mg, mb, news, p, l, vs, nn, ws, x₀, y₀, d₀, fi, t, t2, t3, t4) hi hl hw hx hy hd hf

theorem fresh_K_crease : True := by
  k_with_none
  w_on
  w_top off
  (k_with "1 my enter" => (refine' code_def ?k1 ?k2 ?k3 ?k4 ?k5 ?kA ?kF ?kK ?k6 ?k7 ?k8 ?k9 ?kB ?_ ?c2 ?c3 ?c4 ?c5; walk_at "ce"; (case k9 => first | exact BindsTo.of_eq rfl | exact binds_K (by k_in) rfl (by k_is) rfl rfl rfl | fail "my enter: no rule for these arguments"); (case c5 => decide); (case kB => exact locs rfl); (case c2 => exact rfl); (case c3 => exact rfl); (case c4 => exact rfl); k_whole; intro g' L' h' FG' F' N' B' X' T'; (try dsimp only); (try k_lift B'); (try k_fold)))
  (k_with "1 my rest" => (intro z hz; have hz' := hz; simp only [List.contains_cons, Bool.or_eq_false_iff, beq_eq_false_iff_ne, ne_eq, List.contains_nil, and_true] at hz'; simp only [hz', hz, if_false, Bool.false_eq_true, ↓reduceIte]))
  (k_with "1 cd" => (dsimp only [Mine.Calls, Mine.Ret, Mine.RetNew, Mine.KH, Mine.VW, Mine.prg] at hC))
  (k_with "1 cc" => ((case k1 => k_asm); (case k2 => k_asm); (case k3 => k_asm); (case k4 => k_asm); (case k5 => k_asm); (case kK => first | exact rfl | assumption); (case kd => ktr_room); (case ku => ktr_units)))
  (k_with "1 ce" => ((case kA => first | assumption | exact rfl); (case kF => first | assumption | exact rfl); (case kK => first | assumption | exact rfl); (case k1 => k_asm); (case k2 => k_asm); (case k3 => k_asm); (case k4 => k_asm); (case k5 => k_asm); (case k6 => k_is); (case k7 => k_is); (case k8 => first | assumption | ktr_room)))
  (k_with "1 eval Name" => (k_here; k_dflt (refine' nameX_L ?F ?v ?_ ?a ?b ?c; (case F => k_asm); (case a => rfl); (case b => rfl); (case v => first | exact @rfl (Option Value) (some _) | assumption); (case c => decide); k_whole)))
  (k_with "1 storeName" => (k_here; k_dflt (first | (refine' Mine.storeT_F ?F ?N ?_ ?a ?b; (case F => k_asm); (case N => k_asm); (case a => rfl); (case b => rfl); k_whole; intro h' t' tk' F' N'; (try k_sweep)) | (refine' Mine.storeT_I ?F ?N ?_ ?a ?b; (case F => k_asm); (case N => k_asm); (case a => rfl); (case b => rfl); k_whole; intro h' t' tk' F' N'; (try k_sweep)) | (refine' Mine.storeT_S ?F ?N ?_ ?a ?b; (case F => k_asm); (case N => k_asm); (case a => rfl); (case b => rfl); k_whole; intro h' t' tk' F' N'; (try k_sweep)) | (refine' Mine.storeT_B ?F ?N ?_ ?a ?b; (case F => k_asm); (case N => k_asm); (case a => rfl); (case b => rfl); k_whole; intro h' t' tk' F' N'; (try k_sweep)))))
  (k_with "1 call type:int cons nil" => ((with_reducible show wpAny _ _ (call (Value.type "int") [Value.str (Mine.digS _) _]) _ _ _); refine Mine.int_dig (by assumption) ?_; (try dsimp only)))
  (k_with "1 getMethod ref" => (k_here; k_dflt (refine Mine.acc_method (by k_asm) (by k_asm) (Mine.acc_instAt (by k_asm) (by k_mem) (by k_mem)) (by first | exact Mine.acc_push _ | exact Mine.acc_pop _ | exact Mine.acc_count _ | exact Mine.acc_append _) (by first | exact .inl (Mine.acc_fn _).1 | exact .inl (Mine.acc_fn _).2.1 | exact .inl (Mine.acc_fn _).2.2 | exact .inr (Mine.acc_app_type _)) (by first | assumption | exact rfl) ?_; (try dsimp only [List.cons_append, List.nil_append, List.append_nil]))))
  (k_with "1 call ref" => ((with_reducible show wpAny _ _ (call (Value.ref 112) _) _ _ _); (have hC := @Mine.pop0_call); (walk_at "cd"); refine' hC _ _ _ _ _ _ _ _ _ _ _ ?x0 ?x1 ?x2 ?x3 _ _ _ _ _ _ _ _ _ _ _ _ _ _ _ _ _ ?k1 ?k2 ?k3 ?k4 ?k5 ?kK ?kd ?ku ?_; walk_at "cc"; (case x0 => first | assumption | k_mem); (case x1 => assumption); (case x2 => assumption); (case x3 => assumption); clear hC; intro t9 h9 tk9 F9 N9; (try dsimp only)))
  (k_with "1 call ref" => ((with_reducible show wpAny _ _ (call (Value.ref 96) _) _ _ _); (have hC := @Mine.push0_call); (walk_at "cd"); refine' hC _ _ _ _ _ _ _ _ _ _ _ _ ?x0 ?x1 ?x2 ?x3 _ _ _ _ _ _ _ _ _ _ _ _ _ _ _ _ _ ?k1 ?k2 ?k3 ?k4 ?k5 ?kK ?kd ?ku ?_; walk_at "cc"; (case x0 => first | assumption | k_mem); (case x1 => assumption); (case x2 => assumption); (case x3 => assumption); clear hC; intro T9 h9 tk9 F9 N9 l9; (try dsimp only)))
  trivial
noncomputable abbrev tupO (vs : Array Value) : Obj := { cls := .type "tuple", data := .seq vs }
noncomputable def refs (ts : List Addr) : List Value := ts.map .ref
theorem refs_len (ts : List Addr) : (refs ts).length = ts.length := by simp [refs]
theorem refs_app (a b : List Addr) : refs (a ++ b) = refs a ++ refs b := by simp [refs]
theorem refs_top {its : List Value} {LL : List Addr} {j : Nat} {T : Addr} (h : LL[j]? = some T) : its ++ refs (LL.take (j + 1)) = (its ++ refs (LL.take j)) ++ [.ref T] := by
  rw [List.take_add_one, h, refs_app, List.append_assoc]; rfl
noncomputable def IsP (rest : Led) (T : Addr) (s : Str) : Prop := ∃ t1 t2, (T, tupO #[.str (Str.ofString " ") t1, .str s t2]) ∈ rest
noncomputable def CJ (m₀ : Nm) (rest : Led) (p dx : Addr) (its : List Value) (LL : List Addr) (f : Str) (J0 : Nat) (j : Nat) (m : Nm) (nw : Led) : Prop :=
  j ≤ J0 ∧ (∃ t1 t2 t3, m (Str.ofString "blank") = some (.str (Str.ofString " ") t1) ∧ m (Str.ofString "figure") = some (.str (if j = 0 then f else Str.ofString "2") t2) ∧ m (Str.ofString "level") = some (.int ((J0 : Int) - (j : Int)) t3)) ∧
    (∀ z, ([Str.ofString "blank", Str.ofString "figure", Str.ofString "level"] : List Str).contains z = false → m z = m₀ z) ∧
    ∃ n, nw = (p, accObj dx (its ++ refs (LL.take j)) n) :: rest
theorem CJ.frame {m₀ m : Nm} {rest nw : Led} {p dx : Addr} {its : List Value} {LL : List Addr} {f g : Str} {J0 j : Nat} {h₀ h : Heap} {L : Addr} (c : CJ m₀ rest p dx its LL f J0 j m nw) (F : Fr h₀ L h m) (hg : (if j = 0 then f else Str.ofString "2") = g) :
    ∃ t1 t2 t3, Fr h₀ L h (fun z => if z = Str.ofString "blank" then some (.str (Str.ofString " ") t1) else if z = Str.ofString "figure" then some (.str g t2) else if z = Str.ofString "level" then some (.int ((J0 : Int) - (j : Int)) t3) else m₀ z) := by
  obtain ⟨_, ⟨t1, t2, t3, e1, e2, e3⟩, e4, _⟩ := c
  rw [hg] at e2
  refine ⟨t1, t2, t3, frame_as F fun z => ?_⟩
  by_cases h1 : z = Str.ofString "blank"
  · rw [if_pos h1, h1, e1]
  · rw [if_neg h1]
    by_cases h2 : z = Str.ofString "figure"
    · rw [if_pos h2, h2, e2]
    · rw [if_neg h2]
      by_cases h3 : z = Str.ofString "level"
      · rw [if_pos h3, h3, e3]
      · rw [if_neg h3]
        exact (e4 z (by simp [h1, h2, h3])).symm
theorem CJ.mk {m₀ m : Nm} {rest : Led} {p dx : Addr} {its : List Value} {LL : List Addr} {f g : Str} {J0 j n : Nat} {t1 t2 t3 : Tok} {i : Int} (hj : j ≤ J0) (e1 : m (Str.ofString "blank") = some (.str (Str.ofString " ") t1)) (e2 : m (Str.ofString "figure") = some (.str g t2)) (hg : (if j = 0 then f else Str.ofString "2") = g)
    (e3 : m (Str.ofString "level") = some (.int i t3)) (hi : i = (J0 : Int) - (j : Int)) (e4 : ∀ z, ([Str.ofString "blank", Str.ofString "figure", Str.ofString "level"] : List Str).contains z = false → m z = m₀ z) :
    CJ m₀ rest p dx its LL f J0 j m ((p, accObj dx (its ++ refs (LL.take j)) n) :: rest) := by
  subst hg hi
  exact ⟨hj, ⟨t1, t2, t3, e1, e2, e3⟩, e4, n, rfl⟩
noncomputable def CK (m₀ : Nm) (rest : Led) (p dx : Addr) (its : List Value) (i : Nat) (m : Nm) (nw : Led) : Prop :=
  (∀ z, ([Str.ofString "below"] : List Str).contains z = false → m z = m₀ z) ∧ ∃ n Zs rest', nw = (p, accObj dx (its ++ refs Zs) n) :: rest' ∧ Zs.length = i ∧ (∀ T ∈ Zs, IsP rest' T (Str.ofString "0") ∧ ∀ q ∈ rest, q.1 ≠ T) ∧ (∀ q ∈ rest, q ∈ rest') ∧ (∀ q ∈ rest', q.1 ≠ p)
theorem CK.start {m : Nm} {rest : Led} {p dx : Addr} {its : List Value} {n : Nat} (ap : ∀ q ∈ rest, q.1 ≠ p) : CK m rest p dx its 0 m ((p, accObj dx its n) :: rest) :=
  ⟨fun _ _ => rfl, n, [], rest, by simp [refs], rfl, (fun _ h => nomatch h), (fun _ h => h), ap⟩
theorem IsP.mono {rest rest' : Led} {T : Addr} {s : Str} (h : IsP rest T s) (hs : ∀ q ∈ rest, q ∈ rest') : IsP rest' T s := by
  obtain ⟨t1, t2, h⟩ := h
  exact ⟨t1, t2, hs _ h⟩
theorem CK.step {m₀ m : Nm} {rest rest' : Led} {p dx T : Addr} {its : List Value} {Zs : List Addr} {n i : Nat} {t1 t2 : Tok} (hf : ∀ z, ([Str.ofString "below"] : List Str).contains z = false → m z = m₀ z) (hz : Zs.length = i)
    (hZ : ∀ T ∈ Zs, IsP rest' T (Str.ofString "0") ∧ ∀ q ∈ rest, q.1 ≠ T) (hs : ∀ q ∈ rest, q ∈ rest') (ap : ∀ q ∈ rest', q.1 ≠ p) (hT : T ≠ p) (hTn : ∀ q ∈ rest', q.1 ≠ T) :
    CK m₀ rest p dx its (i + 1) m ((p, accObj dx ((its ++ refs Zs) ++ [.ref T]) n) :: (T, tupO #[.str (Str.ofString " ") t1, .str (Str.ofString "0") t2]) :: rest') := by
  have e : its ++ refs (Zs ++ [T]) = its ++ refs Zs ++ [.ref T] := by rw [refs_app, List.append_assoc]; rfl
  refine ⟨hf, n, Zs ++ [T], (T, tupO #[.str (Str.ofString " ") t1, .str (Str.ofString "0") t2]) :: rest', by rw [e], by simp [hz], ?_, fun q hq => .tail _ (hs q hq), ap_cons hT ap⟩
  intro U hU
  rcases List.mem_append.mp hU with hU | hU
  · exact ⟨(hZ U hU).1.mono fun q hq => .tail _ hq, (hZ U hU).2⟩
  · rw [List.mem_singleton.mp hU]
    exact ⟨⟨_, _, .head _⟩, fun q hq => hTn q (hs q hq)⟩
theorem len_of {h₀ h : Heap} {L p dx : Addr} {its : List Value} {zs : List Addr} {n : Nat} {rest : Led} (_ : News h₀ L h ((p, accObj dx (its ++ refs zs) n) :: rest)) (h1 : its.length ≤ 30) (h2 : zs.length ≤ 30) : (its ++ refs zs).length ≤ 1000 := by
  rw [List.length_append, refs_len]
  lia
theorem allLt_lt {T : Addr} : ∀ {nw : Led}, AllLt T nw → ∀ q ∈ nw, @LT.lt Nat _ q.1 T
  | [], _, _, h => nomatch h
  | _ :: _, h, q, hq => by
    rcases List.mem_cons.mp hq with rfl | hq
    · exact h.1
    · exact allLt_lt h.2 q hq
theorem below_frame {m₀ m₁ : Nm} {v : Option Value} {h₀ h : Heap} {L : Addr} (hf : ∀ z, ([Str.ofString "below"] : List Str).contains z = false → m₁ z = m₀ z) (F : Fr h₀ L h (fun y => if y = Str.ofString "below" then v else m₁ y)) : Fr h₀ L h (fun y => if y = Str.ofString "below" then v else m₀ y) :=
  frame_as F fun z => by
    by_cases h1 : z = Str.ofString "below"
    · simp only [h1, if_true]
    · simp only [h1, if_false]
      exact (hf z (by simp [h1])).symm
theorem below_end {m₀ m₁ : Nm} {h₀ h : Heap} {L : Addr} (hf : ∀ z, ([Str.ofString "below"] : List Str).contains z = false → m₁ z = m₀ z) (F : Fr h₀ L h m₁) : Fr h₀ L h (fun y => if y = Str.ofString "below" then m₁ y else m₀ y) :=
  frame_as F fun z => by
    by_cases h1 : z = Str.ofString "below"
    · simp only [h1, if_true]
    · simp only [h1, if_false]
      exact (hf z (by simp [h1])).symm
theorem dig_of {f f' : Str} (h : (f = Str.ofString "0" ∧ f' = Str.ofString "1") ∨ (f = Str.ofString "1" ∧ f' = Str.ofString "2")) : ∃ d0 : Int, f = digS d0 ∧ f' = digS (d0 + 1) ∧ (d0 = 0 ∨ d0 = 1) := by
  rcases h with ⟨e1, e2⟩ | ⟨e1, e2⟩
  · exact ⟨0, e1, e2, .inl rfl⟩
  · exact ⟨1, e1, e2, .inr rfl⟩
theorem CJ.elim {C : Prop} {m₀ m : Nm} {rest nw : Led} {p dx : Addr} {its : List Value} {LL : List Addr} {f : Str} {J0 j : Nat} (c : CJ m₀ rest p dx its LL f J0 j m nw) (k : j ≤ J0 → ∀ n, nw = (p, accObj dx (its ++ refs (LL.take j)) n) :: rest → C) : C :=
  Exists.elim c.2.2.2 fun n e => k c.1 n e
theorem CK.elim {C : Prop} {m₀ m : Nm} {rest nw : Led} {p dx : Addr} {its : List Value} {i : Nat} (c : CK m₀ rest p dx its i m nw) (k : (∀ z, ([Str.ofString "below"] : List Str).contains z = false → m z = m₀ z) → ∀ n Zs rest', nw = (p, accObj dx (its ++ refs Zs) n) :: rest' → Zs.length = i →
    (∀ T ∈ Zs, IsP rest' T (Str.ofString "0") ∧ ∀ q ∈ rest, q.1 ≠ T) → (∀ q ∈ rest, q ∈ rest') → (∀ q ∈ rest', q.1 ≠ p) → C) : C :=
  exE3 c.2 fun n Zs rest' h => anE5 h fun a b d e f => k c.1 n Zs rest' a b d e f
namespace crease_call_z
noncomputable def zS (zkk : KXC) (w : World) (mean : Mean) (mg : Nm) (mb : Nm) (rest : Led) (p : Addr) (dx : Addr) (l : Addr) (its : List Value) (n : Nat) (od : Obj) (vs : List Value) (nn : Nat) (ws : List Int) : Prop := ∀ (T0 : Addr) (f : Str) (f' : Str) (LL : List Addr) (hdx : (dx, od) ∈ rest) (hsh : shadowIn (some od) "append" = some false) (hsh2 : shadowIn (some od) "pop" = some false) (hsh3 : shadowIn (some od) "push" = some false) (hsh4 : shadowIn (some od) "part_count" = some false) (ap : ∀ q ∈ rest, q.1 ≠ p) (hz : its.length ≤ 20) (hl0 : (l, listOf vs.toArray nn) ∈ rest) (hf0 : (f = Str.ofString "0" ∧ f' = Str.ofString "1") ∨ (f = Str.ofString "1" ∧ f' = Str.ofString "2")) (hTs : LL.length ≤ 7) (hT0 : IsP rest T0 f) (hTT : ∀ T ∈ LL, IsP rest T (Str.ofString "2")) (hi : IntsAre vs ws) (hl : ws.length = 8) (hw : ∀ x ∈ ws, x = 1 ∨ x = -1), CallsAt w mean mg mb 48 ((p, accObj dx (its ++ refs (T0 :: LL)) n) :: rest) (call (.ref 182) [Value.ref p, .ref l])
      (fun h₀ L m s Q => ∀ R T1 Zs n' rest' (t t' : Tok) h' tk', Fr h₀ L h' m → News h₀ L h' ((R, tupO #[.int (LL.length : Int) t, .bytes (if ((f == Str.ofString "0") == (ws.getD LL.length 0 == 1)) = true then #[40] else #[41]) t']) :: (p, accObj dx (its ++ refs (T1 :: Zs)) n') :: rest') →
        (IsP rest' T1 f' ∧ ∀ q ∈ rest, q.1 ≠ T1) → Zs.length = LL.length → (∀ T ∈ Zs, IsP rest' T (Str.ofString "0") ∧ ∀ q ∈ rest, q.1 ≠ T) → (∀ q ∈ rest, q ∈ rest') → (∀ q ∈ rest', q.1 ≠ p) → Q (.ref R) { s with heap := h', toks := tk' }) (zkk.1) (zkk.2.1) (zkk.2.2.1) (zkk.2.2.2.1) (zkk.2.2.2.2.1) (zkk.2.2.2.2.2.1) (zkk.2.2.2.2.2.2.1) (zkk.2.2.2.2.2.2.2.1) (zkk.2.2.2.2.2.2.2.2.1) (zkk.2.2.2.2.2.2.2.2.2.1) (zkk.2.2.2.2.2.2.2.2.2.2.1) (zkk.2.2.2.2.2.2.2.2.2.2.2.1) (zkk.2.2.2.2.2.2.2.2.2.2.2.2.1) (zkk.2.2.2.2.2.2.2.2.2.2.2.2.2.1) (zkk.2.2.2.2.2.2.2.2.2.2.2.2.2.2.1) (zkk.2.2.2.2.2.2.2.2.2.2.2.2.2.2.2.1) (zkk.2.2.2.2.2.2.2.2.2.2.2.2.2.2.2.2)
noncomputable abbrev zT : Type := (KXC) × (World) × (Mean) × (Nm) × (Nm) × (Led) × (Addr) × (Addr) × (Addr) × (List Value) × (Nat) × (Obj) × (List Value) × (Nat) × (List Int)
noncomputable def zP (x : zT) : Prop := zS x.1 x.2.1 x.2.2.1 x.2.2.2.1 x.2.2.2.2.1 x.2.2.2.2.2.1 x.2.2.2.2.2.2.1 x.2.2.2.2.2.2.2.1 x.2.2.2.2.2.2.2.2.1 x.2.2.2.2.2.2.2.2.2.1 x.2.2.2.2.2.2.2.2.2.2.1 x.2.2.2.2.2.2.2.2.2.2.2.1 x.2.2.2.2.2.2.2.2.2.2.2.2.1 x.2.2.2.2.2.2.2.2.2.2.2.2.2.1 x.2.2.2.2.2.2.2.2.2.2.2.2.2.2
theorem zne : Nonempty zT := ⟨(dKXC, dW, fun _ => none, fun _ => none, fun _ => none, [], (0 : Nat), (0 : Nat), (0 : Nat), [], 0, default, [], 0, [])⟩
noncomputable def zc : zT := @Classical.epsilon _ zne fun x => ¬ zP x
@[irreducible] noncomputable def zkk : KXC := zc.1
@[irreducible] noncomputable def w : World := zc.2.1
@[irreducible] noncomputable def mean : Mean := zc.2.2.1
@[irreducible] noncomputable def mg : Nm := zc.2.2.2.1
@[irreducible] noncomputable def mb : Nm := zc.2.2.2.2.1
@[irreducible] noncomputable def rest : Led := zc.2.2.2.2.2.1
@[irreducible] noncomputable def p : Addr := zc.2.2.2.2.2.2.1
@[irreducible] noncomputable def dx : Addr := zc.2.2.2.2.2.2.2.1
@[irreducible] noncomputable def l : Addr := zc.2.2.2.2.2.2.2.2.1
@[irreducible] noncomputable def its : List Value := zc.2.2.2.2.2.2.2.2.2.1
@[irreducible] noncomputable def n : Nat := zc.2.2.2.2.2.2.2.2.2.2.1
@[irreducible] noncomputable def od : Obj := zc.2.2.2.2.2.2.2.2.2.2.2.1
@[irreducible] noncomputable def vs : List Value := zc.2.2.2.2.2.2.2.2.2.2.2.2.1
@[irreducible] noncomputable def nn : Nat := zc.2.2.2.2.2.2.2.2.2.2.2.2.2.1
@[irreducible] noncomputable def ws : List Int := zc.2.2.2.2.2.2.2.2.2.2.2.2.2.2
theorem zmain : zS zkk w mean mg mb rest p dx l its n od vs nn ws := by
  unfold zS
  intro T0 f f' LL hdx hsh hsh2 hsh3 hsh4 ap hz hl0 hf0 hTs hT0 hTT hi hl hw
  dsimp only [CallsAt, Ret, KH, VW, prg]
  k_fill
  intros; rename_i hret
  refine wpAny_call ?_
  walk_at "my enter"
  have top : ∀ j, j ≤ LL.length → ∃ T, (T0 :: LL)[j]? = some T ∧ IsP rest T (if j = 0 then f else Str.ofString "2") := by
    intro j hj
    cases j with
    | zero => exact ⟨T0, rfl, hT0⟩
    | succ j =>
      have hlt : j < LL.length := hj
      exact ⟨LL[j], by simp [hlt], hTT _ (List.getElem_mem hlt)⟩
  have len : ∀ j, j ≤ LL.length → (its ++ refs ((T0 :: LL).take j)).length ≤ 1000 := by
    intro j hj
    rw [List.length_append, refs_len, List.length_take]
    lia
  obtain ⟨T1, hT1, t1, t2, hM1⟩ := top LL.length (Nat.le_refl _)
  have e1 : its ++ refs (T0 :: LL) = (its ++ refs ((T0 :: LL).take LL.length)) ++ [.ref T1] := by
    rw [← refs_top hT1, List.take_of_length_le (by simp)]
  have hz1 := len LL.length (Nat.le_refl _)
  (k_with "exec While Compare cons nil" => refine hold ?_)
  rename News _ _ _ _ => N0
  rw [e1] at N0
  have N2 := news2 N0 hM1
  clear N0
  have ap2 : ∀ q ∈ (T1, tupO #[.str " " t1, .str (if LL.length = 0 then f else Str.ofString "2") t2]) :: rest, q.1 ≠ p := List.forall_mem_cons.mpr ⟨ap _ hM1, ap⟩
  k_steps
  refine whl_start 0 ?_
  rename News _ _ _ _ => N3
  have N4 := newsSub N3 (news := (p, accObj dx (its ++ refs ((T0 :: LL).take LL.length)) (n + 1)) :: rest) fun q hq => (List.mem_cons.mp hq).elim (fun e => e ▸ .head _) fun hq => .tail _ (.tail _ hq)
  clear N3 ap2 hM1 hz1
  refine while_inv ?hE _ ?turn LL.length _ _ _ _ (by k_asm) N4 (CJ.mk (Nat.le_refl _) rfl rfl rfl rfl (by lia) (fun _ _ => rfl))
  case hE => first | passes_own | with_unfolding_all passes_own
  clear N4
  intro j m nw h tk hJ F N
  cases j with
  | succ j =>
    refine exE3 (hJ.frame F (g := Str.ofString "2") rfl) fun t1 t2 t3 F1 => ?_
    clear F
    refine hJ.elim fun hjle n' enw => ?_
    clear hJ
    subst enw
    refine Exists.elim (top j (Nat.le_of_succ_le hjle)) fun T2 hTx => exE2 hTx.2 fun t4 t5 hM2 => ?_
    have hT2 := hTx.1
    clear hTx
    have hz2 := len j (by lia)
    rw [refs_top hT2] at N
    have N2 := news2 N hM2
    clear N
    have ap2 : ∀ q ∈ (T2, tupO #[.str " " t4, .str (if j = 0 then f else Str.ofString "2") t5]) :: rest, q.1 ≠ p := List.forall_mem_cons.mpr ⟨ap _ hM2, ap⟩
    k_steps
    rename News _ _ _ _ => N3
    have N4 := newsSub N3 (news := (p, accObj dx (its ++ refs ((T0 :: LL).take j)) (n' + 1)) :: rest) fun q hq => (List.mem_cons.mp hq).elim (fun e => e ▸ .head _) fun hq => .tail _ (.tail _ hq)
    exact WEnd.mk j (Nat.lt_succ_self _) (by k_asm) N4 (CJ.mk (by lia) rfl rfl rfl rfl (by lia) (by walk_at "my rest"))
  | zero =>
    refine exE3 (hJ.frame F (g := f) rfl) fun t1 t2 t3 F1 => ?_
    clear F
    refine hJ.elim fun hjle n' enw => ?_
    clear hJ
    subst enw
    rw [show its ++ refs ((T0 :: LL).take 0) = its by simp [refs]] at N
    have hz3 : its.length ≤ 1000 := by lia
    (k_with "call type:range" => refine hold ?_)
    have hK7 : Kept (LL.length ≤ 7) := hTs
    clear hTs
    refine Exists.elim (dig_of hf0) fun d0 hd0 => ?_
    have ef := hd0.1
    have ef' := hd0.2.1
    replace hd0 := hd0.2.2
    clear hf0
    subst ef ef'
    have hd1 : IsFig d0 := hd0.elim .inl fun h => .inr (.inl h)
    have hn2 : (digS d0 == Str.ofString "2") = false := by rcases hd0 with rfl | rfl <;> decide
    have hd2 : 0 ≤ d0 ∧ d0 < 2 := by rcases hd0 with rfl | rfl <;> decide
    k_steps
    refine WhlIf.no hn2 ?_
    k_steps
    rename News _ _ _ _ => N3
    rename _ ∧ AllLt _ _ => l3
    have apT : Kept _ := fun q hq => Nat.ne_of_lt (allLt_lt l3.2 q hq)
    refine range1_rows (by k_asm) N3 ?_
    intro h5 tk5 tt1 tt2 tt3 hR F5 N5 k5
    clear N3
    have hTs : LL.length ≤ 7 := hK7
    rw [show (LL.length : Int) - ((0 : Nat) : Int) = (LL.length : Int) by lia] at hR
    rw [show Txt.item (Str.ofString "12") d0 = digS (d0 + 1) by rcases hd0 with rfl | rfl <;> decide] at N5
    refine range_inv (CK _ _ p dx (its ++ [.ref _])) rfl hR (small0 (by lia)) (size0 _) (by k_asm) (newsSwap N5) (CK.start (ap_cons (lt_ne l3.1) ap)) ?_ ?_
    · intro I i t m₁ nw h tk hi hJ off F N
      refine hJ.elim fun hfr n2 Zs rest' enw hZl hZ hs ap' => ?_
      clear hJ
      subst enw
      have F2 := below_frame hfr F
      have N2 := newsSwap N
      clear F N
      have hdx' := hs _ (.tail _ hdx)
      have apI : ∀ q ∈ (I, itR (0 + ((i + 1 : Nat) : Int)) ((LL.length : Int) - ((i + 1 : Nat) : Int))) :: rest', q.1 ≠ p := ap_cons (fun e => off _ (.head _) e.symm) ap'
      have hz4 := len_of N2 (by rw [List.length_append, List.length_singleton]; lia) (by lia)
      (k_with "UnrPost" => refine hold ?_)
      k_steps
      rename News _ _ _ _ => N9
      rename _ ∧ AllLt _ _ => l9
      exact UnrPost.mk (by k_asm) N9 ((p, _) :: (_, tupO #[.str (Str.ofString " ") _, .str (Str.ofString "0") _]) :: rest') (.tail _ (.tail _ (.head _)))
        (fun q hq => (List.mem_cons.mp hq).elim (fun e => e ▸ .tail _ (.head _)) fun hq => (List.mem_cons.mp hq).elim (fun e => e ▸ .head _) fun hq => .tail _ (.tail _ (.tail _ hq)))
        (ap_cons (off _ (.head _)) (ap_cons (lt_ne l9.2.1) fun q hq => off q (.tail _ hq))) (CK.step (by walk_at "my rest") hZl hZ hs ap' (lt_ne l9.1) fun q hq => Nat.ne_of_lt (allLt_lt l9.2.2 q hq))
    · intro m₁ nw h tk hJ F N
      refine hJ.elim fun hfr n2 Zs rest' enw hZl hZ hs ap' => ?_
      clear hJ
      subst enw
      have F2 := below_end hfr F
      clear F
      have hl0' := hs _ (.tail _ hl0)
      have e0 : ((LL.length : Int) - ((0 : Nat) : Int)).toNat = LL.length := by lia
      k_steps
      all_goals
        rename News _ _ _ _ => N9
        rw [show (LL.length : Int) - ((0 : Nat) : Int) = (LL.length : Int) by lia, List.append_assoc] at N9
      · rw [if_pos (by rw [← e0]; assumption)] at hret
        exact hret _ _ Zs _ rest' _ _ _ _ (by assumption) N9 ⟨⟨_, _, hs _ (.head _)⟩, apT⟩ hZl (fun T hT => ⟨(hZ T hT).1, fun q hq => (hZ T hT).2 q (.tail _ hq)⟩) (fun q hq => hs q (.tail _ hq)) ap'
      · rw [if_neg (by rw [← e0, Bool.not_eq_true]; assumption)] at hret
        exact hret _ _ Zs _ rest' _ _ _ _ (by assumption) N9 ⟨⟨_, _, hs _ (.head _)⟩, apT⟩ hZl (fun T hT => ⟨(hZ T hT).1, fun q hq => (hZ T hT).2 q (.tail _ hq)⟩) (fun q hq => hs q (.tail _ hq)) ap'
end crease_call_z
theorem crease_call (w : World) (mean : Mean) (mg mb : Nm) (rest : Led) (p dx l T0 : Addr) (its : List Value) (n : Nat) (od : Obj) (vs : List Value) (nn : Nat) (ws : List Int) (f f' : Str) (LL : List Addr) (hdx : (dx, od) ∈ rest) (hsh : shadowIn (some od) "append" = some false) (hsh2 : shadowIn (some od) "pop" = some false) (hsh3 : shadowIn (some od) "push" = some false) (hsh4 : shadowIn (some od) "part_count" = some false) (ap : ∀ q ∈ rest, q.1 ≠ p) (hz : its.length ≤ 20) (hl0 : (l, listOf vs.toArray nn) ∈ rest) (hf0 : (f = Str.ofString "0" ∧ f' = Str.ofString "1") ∨ (f = Str.ofString "1" ∧ f' = Str.ofString "2")) (hTs : LL.length ≤ 7) (hT0 : IsP rest T0 f) (hTT : ∀ T ∈ LL, IsP rest T (Str.ofString "2")) (hi : IntsAre vs ws) (hl : ws.length = 8) (hw : ∀ x ∈ ws, x = 1 ∨ x = -1) : Calls w mean mg mb 48 ((p, accObj dx (its ++ refs (T0 :: LL)) n) :: rest) (call (.ref 182) [Value.ref p, .ref l])
      (fun h₀ L m s Q => ∀ R T1 Zs n' rest' (t t' : Tok) h' tk', Fr h₀ L h' m → News h₀ L h' ((R, tupO #[.int (LL.length : Int) t, .bytes (if ((f == Str.ofString "0") == (ws.getD LL.length 0 == 1)) = true then #[40] else #[41]) t']) :: (p, accObj dx (its ++ refs (T1 :: Zs)) n') :: rest') →
        (IsP rest' T1 f' ∧ ∀ q ∈ rest, q.1 ≠ T1) → Zs.length = LL.length → (∀ T ∈ Zs, IsP rest' T (Str.ofString "0") ∧ ∀ q ∈ rest, q.1 ≠ T) → (∀ q ∈ rest, q ∈ rest') → (∀ q ∈ rest', q.1 ≠ p) → Q (.ref R) { s with heap := h', toks := tk' }) := by
  intro kdp kun kgd kcn kcs ka kccd kcl kouter kA kbase kh kL km ks kQ kE
  exact @clz _ crease_call_z.zP crease_call_z.zne (by with_unfolding_all exact crease_call_z.zmain) ((kdp, kun, kgd, kcn, kcs, ka, kccd, kcl, kouter, kA, kbase, kh, kL, km, ks, kQ, kE), w, mean, mg, mb, rest, p, dx, l, its, n, od, vs, nn, ws) T0 f f' LL hdx hsh hsh2 hsh3 hsh4 ap hz hl0 hf0 hTs hT0 hTT hi hl hw

theorem fresh_L_told : True := by
  k_with_none
  w_on
  w_top off
  (k_with "1 my enter" => (refine' code_def ?k1 ?k2 ?k3 ?k4 ?k5 ?kA ?kF ?kK ?k6 ?k7 ?k8 ?k9 ?kB ?_ ?c2 ?c3 ?c4 ?c5; walk_at "ce"; (case k9 => first | exact BindsTo.of_eq rfl | exact binds_K (by k_in) rfl (by k_is) rfl rfl rfl | fail "my enter: no rule for these arguments"); (case c5 => decide); (case kB => exact locs rfl); (case c2 => exact rfl); (case c3 => exact rfl); (case c4 => exact rfl); k_whole; intro g' L' h' FG' F' N' B' X' T'; (try dsimp only); (try k_lift B'); (try k_fold)))
  (k_with "1 my news" => (first | assumption | (refine Mine.newsSub (by assumption) ?_; kcj_all) | (refine Mine.newsSub (by assumption) ?_; intro _ hp; repeat (first | exact hp | refine List.Mem.tail _ ?_))))
  (k_with "1 my order" => (first | assumption | exact allLt_of (by assumption) | (simp only [AllLt, and_self, and_true, true_and, *]; done)))
  (k_with "1 cd" => (dsimp only [Mine.Calls, Mine.Ret, Mine.RetNew, Mine.KH, Mine.VW, Mine.prg] at hC))
  (k_with "1 cc" => ((case k1 => k_asm); (case k2 => k_asm); (case k3 => k_asm); (case k4 => k_asm); (case k5 => k_asm); (case kK => first | exact rfl | assumption); (case kd => ktr_room); (case ku => ktr_units)))
  (k_with "1 ce" => ((case kA => first | assumption | exact rfl); (case kF => first | assumption | exact rfl); (case kK => first | assumption | exact rfl); (case k1 => k_asm); (case k2 => k_asm); (case k3 => k_asm); (case k4 => k_asm); (case k5 => k_asm); (case k6 => k_is); (case k7 => k_is); (case k8 => first | assumption | ktr_room)))
  (k_with "1 eval Name" => (k_here; k_dflt (refine' nameX_L ?F ?v ?_ ?a ?b ?c; (case F => k_asm); (case a => rfl); (case b => rfl); (case v => first | exact @rfl (Option Value) (some _) | assumption); (case c => decide); k_whole)))
  (k_with "1 storeName" => (k_here; k_dflt (first | (refine' Mine.storeT_F ?F ?N ?_ ?a ?b; (case F => k_asm); (case N => k_asm); (case a => rfl); (case b => rfl); k_whole; intro h' t' tk' F' N'; (try k_sweep)) | (refine' Mine.storeT_I ?F ?N ?_ ?a ?b; (case F => k_asm); (case N => k_asm); (case a => rfl); (case b => rfl); k_whole; intro h' t' tk' F' N'; (try k_sweep)) | (refine' Mine.storeT_S ?F ?N ?_ ?a ?b; (case F => k_asm); (case N => k_asm); (case a => rfl); (case b => rfl); k_whole; intro h' t' tk' F' N'; (try k_sweep)) | (refine' Mine.storeT_B ?F ?N ?_ ?a ?b; (case F => k_asm); (case N => k_asm); (case a => rfl); (case b => rfl); k_whole; intro h' t' tk' F' N'; (try k_sweep)))))
  (k_with "1 call ref" => ((with_reducible show wpAny _ _ (call (Value.ref 58) _) _ _ _); (have hC := @Mine.rgb_call); (walk_at "cd"); refine' hC _ _ _ _ _ _ _ _ _ _ _ ?ok _ _ _ _ _ _ _ _ _ _ _ _ _ _ _ _ _ ?k1 ?k2 ?k3 ?k4 ?k5 ?kK ?kd ?ku ?_; (case ok => first | assumption | fail "rgb: a division by nought");walk_at "cc"; clear hC; intro T9 o9 h9 tk9 F9 N9 l9 O9; obtain ⟨t91, t92, t93, O9⟩ := O9; subst O9; (try simp only [AllLt, and_true] at l9); (try dsimp only); (try k_fold)))
  trivial
noncomputable def qf (a b : Int) : UInt64 := Float64.ofFrac (decide (a < 0) != decide (b < 0)) a.natAbs b.natAbs
noncomputable def fint (x : UInt64) : Int := match Float64.decode x with | .fin sg m e => Float64.truncOf sg m e | _ => 0
noncomputable def FiW (x : UInt64) : Prop := ∃ a m e, Float64.decode x = .fin a m e
theorem small_pow {a : Int} (h : a.natAbs < 1000000) : a.natAbs < 2 ^ 1023 := Nat.lt_of_lt_of_le h (Nat.le_trans (show 1000000 ≤ 2 ^ 20 by decide) (Nat.pow_le_pow_right (by decide) (by decide)))
theorem small_over {a : Int} (h : a.natAbs < 1000000) : ¬ Flt.Over a := fun ho => by
  have h1 : (2 : Nat) ^ 1024 - 2 ^ 970 ≤ a.natAbs := ho
  have h2 : (2 : Nat) ^ 1024 = 2 ^ 970 * 2 ^ 54 := by rw [← Nat.pow_add]
  have h3 : (2 : Nat) ^ 970 = 2 ^ 20 * 2 ^ 950 := by rw [← Nat.pow_add]
  have h4 : 0 < (2 : Nat) ^ 950 := Nat.two_pow_pos _
  rw [h2, h3] at h1
  generalize (2 : Nat) ^ 950 = q at *
  lia
section
variable {prog : Program} {w : World} {A : Around} {E : Value → Shared → Prop} {s : Shared} {t u : Tok} {Q : Value → Shared → Prop}
theorem div_small {a b : Int} (hA : A.handled = none) (ha : a.natAbs < 1000000) (hb : b ≠ 0) (h : Q (.float (qf a b) s.toks) { s with toks := s.toks + 1 }) : wpAny (model prog w) A (binaryOp .Div (.int a t) (.int b u)) Q E s :=
  Flt.div_ii_fits hA (small_pow ha) (fun e => absurd e hb) fun _ _ => h
theorem div_fi_small {a : UInt64} {n : Int} (hA : A.handled = none) (hn : n.natAbs < 1000000) (h0 : n ≠ 0) (h : Q (.float (Float64.div a (Float64.ofInt n)) s.toks) { s with toks := s.toks + 1 }) : wpAny (model prog w) A (binaryOp .Div (.float a t) (.int n u)) Q E s :=
  Flt.truediv_fi hA (fun e => absurd e (small_over hn)) (fun e => absurd e h0) fun _ _ => h
theorem mul_if_small {a : UInt64} {n : Int} (hn : n.natAbs < 1000000) (h : Q (.float (Float64.mul (Float64.ofInt n) a) s.toks) { s with toks := s.toks + 1 }) : wpAny (model prog w) A (binaryOp .Mult (.int n u) (.float a t)) Q E s :=
  mul_if_fits (small_pow hn) h
theorem int_float {x : UInt64} {m : Int} (hx : FiW x ∧ fint x = m) (h : Q (.int m s.toks) { s with toks := s.toks + 1 }) : wpAny (model prog w) A (call (.type "int") [.float x t]) Q E s := by
  obtain ⟨⟨a, k, e, hd⟩, rfl⟩ := hx
  refine call_int_float hd ?_
  unfold fint at h
  rw [hd] at h
  exact h
end
theorem word1_L_told : True := by
  (k_with "1 binaryOp Div int int" => ((with_reducible show wpAny _ _ (binaryOp _ (Value.int _ _) (Value.int _ _)) _ _ _); refine Mine.div_small rfl (by first | lia | (simp; lia)) (by lia) ?_; (try dsimp only)))
  trivial
theorem word2_L_told : True := by
  (k_with "1 binaryOp Div float int" => ((with_reducible show wpAny _ _ (binaryOp _ (Value.float _ _) (Value.int _ _)) _ _ _); refine Mine.div_fi_small rfl (by lia) (by lia) ?_; (try dsimp only)))
  trivial
theorem word3_L_told : True := by
  (k_with "1 binaryOp Mult int float" => ((with_reducible show wpAny _ _ (binaryOp _ (Value.int _ _) (Value.float _ _)) _ _ _); refine Mine.mul_if_small (by lia) ?_; (try dsimp only)))
  trivial
noncomputable def tWA (l s : UInt64) : UInt64 := Float64.mul (Float64.mul s 4611686018427387904) l
noncomputable def tWB (l s : UInt64) : UInt64 := Float64.mul s (Float64.sub 4611686018427387904 (Float64.mul 4611686018427387904 l))
noncomputable def tSide (sp : Int) (W : UInt64) : UInt64 := Float64.add (Float64.div (Float64.mul (Float64.ofInt 8192) W) (Float64.ofInt sp)) 4602678819172646912
noncomputable def tTurn (m : Int) (hue : UInt64) : UInt64 := Float64.add (Float64.mul (Float64.ofInt (6 * m)) hue) 4602678819172646912
noncomputable def cX (i : Int) : Int := if i = 0 then 1 else if i = 1 then 1 else if i = 2 then 0 else if i = 3 then -1 else if i = 4 then -1 else if i = 5 then 0 else 1
noncomputable def cY (i : Int) : Int := if i = 0 then 0 else if i = 1 then 1 else if i = 2 then 1 else if i = 3 then 0 else if i = 4 then -1 else if i = 5 then -1 else 0
noncomputable def toldX (m T : Int) : Int := if m = 0 then 0 else (m - (T.fmod (6 * m)).fmod m) * cX ((T.fmod (6 * m)).fdiv m) + (T.fmod (6 * m)).fmod m * cX ((T.fmod (6 * m)).fdiv m + 1)
noncomputable def toldY (m T : Int) : Int := if m = 0 then 0 else (m - (T.fmod (6 * m)).fmod m) * cY ((T.fmod (6 * m)).fdiv m) + (T.fmod (6 * m)).fmod m * cY ((T.fmod (6 * m)).fdiv m + 1)
theorem six_turns {m T : Int} (hm : 0 ≤ m) (h0 : m ≠ 0) : ∃ q r, (T.fmod (6 * m)).fdiv m = q ∧ (T.fmod (6 * m)).fmod m = r ∧ (q = 0 ∨ q = 1 ∨ q = 2 ∨ q = 3 ∨ q = 4 ∨ q = 5) ∧ 0 ≤ r ∧ r < m := by
  refine ⟨_, _, rfl, rfl, ?_⟩
  rw [Int.fmod_eq_emod_of_nonneg _ (by lia), Int.fdiv_eq_ediv_of_nonneg _ (by lia), Int.fmod_eq_emod_of_nonneg _ (by lia)]
  have a1 := Int.emod_nonneg T (show 6 * m ≠ 0 by lia)
  have a2 := Int.emod_lt_of_pos T (show 0 < 6 * m by lia)
  generalize T % (6 * m) = u at *
  have b1 := Int.emod_nonneg u h0
  have b2 := Int.emod_lt_of_pos u (show 0 < m by lia)
  have b3 := Int.mul_ediv_add_emod u m
  have c1 : 0 ≤ u / m := Int.ediv_nonneg a1 hm
  have c2 : u / m < 6 := Int.ediv_lt_of_lt_mul (by lia) (by lia)
  lia
theorem six_le {q : Int} (h : q = 0 ∨ q = 1 ∨ q = 2 ∨ q = 3 ∨ q = 4 ∨ q = 5) : 0 ≤ q ∧ q ≤ 5 := by
  rcases h with rfl | rfl | rfl | rfl | rfl | rfl <;> decide
theorem corner_item {prog : Program} {w : World} {A : Around} {E : Value → Shared → Prop} {s : Shared} {Q : Value → Shared → Prop} {h₀ : Heap} {L : Addr} {news : List (Addr × Obj)}
    {value slice : PySem.Expr} {l a0 a1 a2 a3 a4 a5 a6 : Addr} {n : Nat} {i : Int} {u t0 t1 t2 t3 t4 t5 t6 t7 t8 t9 t10 t11 t12 t13 : Tok}
    (N : News h₀ L s.heap news) (hl : (l, listOf #[.ref a0, .ref a1, .ref a2, .ref a3, .ref a4, .ref a5, .ref a6] n) ∈ news)
    (h0 : (a0, tupObj [.int 1 t0, .int 0 t1]) ∈ news) (h1 : (a1, tupObj [.int 1 t2, .int 1 t3]) ∈ news) (h2 : (a2, tupObj [.int 0 t4, .int 1 t5]) ∈ news) (h3 : (a3, tupObj [.int (-1) t6, .int 0 t7]) ∈ news)
    (h4 : (a4, tupObj [.int (-1) t8, .int (-1) t9]) ∈ news) (h5 : (a5, tupObj [.int 0 t10, .int (-1) t11]) ∈ news) (h6 : (a6, tupObj [.int 1 t12, .int 0 t13]) ∈ news)
    (hi0 : 0 ≤ i) (hi6 : i ≤ 6)
    (h : ∀ a t t', News h₀ L s.heap ((a, tupObj [.int (cX i) t, .int (cY i) t']) :: news) → Q (.ref a) s)
    (hs : subscripted slice false (.ref l) (.int i u) = operate [.ref l, .int i u] (getItem (.ref l) (.int i u)) := by with_unfolding_all rfl) (hg : ∀ r, letTemporaryGo value (.ref l) r = pure () := by intro _; with_unfolding_all rfl) :
    wpAny (model prog w) A (subscriptTail value slice (.ref l) (.int i u)) Q E s := by
  have hL : s.heap.IsList l [Value.ref a0, .ref a1, .ref a2, .ref a3, .ref a4, .ref a5, .ref a6].toArray := ⟨_, (N _ hl).1, rfl, n, rfl⟩
  have add : ∀ a o, (a, o) ∈ news → News h₀ L s.heap ((a, o) :: news) := fun a o hm p hp => by
    rcases List.mem_cons.mp hp with rfl | hp
    · exact N _ hm
    · exact N _ hp
  have c : i = 0 ∨ i = 1 ∨ i = 2 ∨ i = 3 ∨ i = 4 ∨ i = 5 ∨ i = 6 := by lia
  rcases c with rfl | rfl | rfl | rfl | rfl | rfl | rfl
  · exact item_listL hL (by decide) (by decide) (x := .ref a0) rfl (h a0 _ _ (add _ _ h0)) hs hg
  · exact item_listL hL (by decide) (by decide) (x := .ref a1) rfl (h a1 _ _ (add _ _ h1)) hs hg
  · exact item_listL hL (by decide) (by decide) (x := .ref a2) rfl (h a2 _ _ (add _ _ h2)) hs hg
  · exact item_listL hL (by decide) (by decide) (x := .ref a3) rfl (h a3 _ _ (add _ _ h3)) hs hg
  · exact item_listL hL (by decide) (by decide) (x := .ref a4) rfl (h a4 _ _ (add _ _ h4)) hs hg
  · exact item_listL hL (by decide) (by decide) (x := .ref a5) rfl (h a5 _ _ (add _ _ h5)) hs hg
  · exact item_listL hL (by decide) (by decide) (x := .ref a6) rfl (h a6 _ _ (add _ _ h6)) hs hg
theorem told_zero {m T : Int} {u1 u2 : Tok} (h : m = 0) : ∃ t1 t2, tupObj [.int 0 u1, .int 0 u2] = tupObj [.int (toldX m T) t1, .int (toldY m T) t2] := by
  subst h
  exact ⟨_, _, rfl⟩
theorem told_some {m T q r : Int} {u1 u2 : Tok} (h : m ≠ 0) (e1 : (T.fmod (6 * m)).fdiv m = q) (e2 : (T.fmod (6 * m)).fmod m = r) : ∃ t1 t2, tupObj [.int ((m - r) * cX q + r * cX (q + 1)) u1, .int ((m - r) * cY q + r * cY (q + 1)) u2] = tupObj [.int (toldX m T) t1, .int (toldY m T) t2] := by
  subst e1 e2
  unfold toldX toldY
  rw [if_neg h, if_neg h]
  exact ⟨_, _, rfl⟩
noncomputable def tW (l s : UInt64) : UInt64 := if fle l 4602678819172646912 then tWA l s else tWB l s
theorem tW_a {l s : UInt64} {t : Tok} (h : fle l 4602678819172646912 = true) : ∃ t', Value.float (tWA l s) t = .float (tW l s) t' := ⟨t, by unfold tW; rw [if_pos h]⟩
theorem tW_b {l s : UInt64} {t : Tok} (h : fle l 4602678819172646912 = false) : ∃ t', Value.float (tWB l s) t = .float (tW l s) t' := ⟨t, by unfold tW; rw [if_neg (by rw [h]; decide)]⟩
namespace told_call_z
noncomputable def zS (zkk : KXC) (w : World) (mean : Mean) (mg : Nm) (mb : Nm) (news : Led) (l : Addr) (nn : Nat) (P0 : Int) (P1 : Int) (P2 : Int) (sp : Int) (m : Int) (T : Int) (t : Tok) (t0 : Tok) (t1 : Tok) (t2 : Tok) : Prop := ∀ (h0 : 0 ≤ P0 ∧ P0 < 16000) (h1 : 0 ≤ P1 ∧ P1 < 16000) (h2 : 0 ≤ P2 ∧ P2 < 16000) (hs : 1 ≤ sp ∧ sp ≤ 32) (hm : 0 ≤ m ∧ m < 1000) (hT : 0 ≤ T ∧ T < 10000) (ok : hlsOk (qf P0 8192) (qf P1 8192) (qf P2 8192)) (hA : FiW (tSide sp (tW (hlsL (qf P0 8192) (qf P1 8192) (qf P2 8192)) (hlsS (qf P0 8192) (qf P1 8192) (qf P2 8192)))) ∧ fint (tSide sp (tW (hlsL (qf P0 8192) (qf P1 8192) (qf P2 8192)) (hlsS (qf P0 8192) (qf P1 8192) (qf P2 8192)))) = m) (hC : m ≠ 0 → FiW (tTurn m (hlsH (qf P0 8192) (qf P1 8192) (qf P2 8192))) ∧ fint (tTurn m (hlsH (qf P0 8192) (qf P1 8192) (qf P2 8192))) = T), CallsAt w mean mg mb 12 ((l, listOf #[.int P0 t0, .int P1 t1, .int P2 t2] nn) :: news) (call (.ref 203) [Value.ref l, .int sp t])
      (RetNew ((l, listOf #[.int P0 t0, .int P1 t1, .int P2 t2] nn) :: news) (fun o => ∃ t1 t2, o = tupObj [.int (toldX m T) t1, .int (toldY m T) t2])) (zkk.1) (zkk.2.1) (zkk.2.2.1) (zkk.2.2.2.1) (zkk.2.2.2.2.1) (zkk.2.2.2.2.2.1) (zkk.2.2.2.2.2.2.1) (zkk.2.2.2.2.2.2.2.1) (zkk.2.2.2.2.2.2.2.2.1) (zkk.2.2.2.2.2.2.2.2.2.1) (zkk.2.2.2.2.2.2.2.2.2.2.1) (zkk.2.2.2.2.2.2.2.2.2.2.2.1) (zkk.2.2.2.2.2.2.2.2.2.2.2.2.1) (zkk.2.2.2.2.2.2.2.2.2.2.2.2.2.1) (zkk.2.2.2.2.2.2.2.2.2.2.2.2.2.2.1) (zkk.2.2.2.2.2.2.2.2.2.2.2.2.2.2.2.1) (zkk.2.2.2.2.2.2.2.2.2.2.2.2.2.2.2.2)
noncomputable abbrev zT : Type := (KXC) × (World) × (Mean) × (Nm) × (Nm) × (Led) × (Addr) × (Nat) × (Int) × (Int) × (Int) × (Int) × (Int) × (Int) × (Tok) × (Tok) × (Tok) × (Tok)
noncomputable def zP (x : zT) : Prop := zS x.1 x.2.1 x.2.2.1 x.2.2.2.1 x.2.2.2.2.1 x.2.2.2.2.2.1 x.2.2.2.2.2.2.1 x.2.2.2.2.2.2.2.1 x.2.2.2.2.2.2.2.2.1 x.2.2.2.2.2.2.2.2.2.1 x.2.2.2.2.2.2.2.2.2.2.1 x.2.2.2.2.2.2.2.2.2.2.2.1 x.2.2.2.2.2.2.2.2.2.2.2.2.1 x.2.2.2.2.2.2.2.2.2.2.2.2.2.1 x.2.2.2.2.2.2.2.2.2.2.2.2.2.2.1 x.2.2.2.2.2.2.2.2.2.2.2.2.2.2.2.1 x.2.2.2.2.2.2.2.2.2.2.2.2.2.2.2.2.1 x.2.2.2.2.2.2.2.2.2.2.2.2.2.2.2.2.2
theorem zne : Nonempty zT := ⟨(dKXC, dW, fun _ => none, fun _ => none, fun _ => none, [], (0 : Nat), 0, 0, 0, 0, 0, 0, 0, (0 : Nat), (0 : Nat), (0 : Nat), (0 : Nat))⟩
noncomputable def zc : zT := @Classical.epsilon _ zne fun x => ¬ zP x
@[irreducible] noncomputable def zkk : KXC := zc.1
@[irreducible] noncomputable def w : World := zc.2.1
@[irreducible] noncomputable def mean : Mean := zc.2.2.1
@[irreducible] noncomputable def mg : Nm := zc.2.2.2.1
@[irreducible] noncomputable def mb : Nm := zc.2.2.2.2.1
@[irreducible] noncomputable def news : Led := zc.2.2.2.2.2.1
@[irreducible] noncomputable def l : Addr := zc.2.2.2.2.2.2.1
@[irreducible] noncomputable def nn : Nat := zc.2.2.2.2.2.2.2.1
@[irreducible] noncomputable def P0 : Int := zc.2.2.2.2.2.2.2.2.1
@[irreducible] noncomputable def P1 : Int := zc.2.2.2.2.2.2.2.2.2.1
@[irreducible] noncomputable def P2 : Int := zc.2.2.2.2.2.2.2.2.2.2.1
@[irreducible] noncomputable def sp : Int := zc.2.2.2.2.2.2.2.2.2.2.2.1
@[irreducible] noncomputable def m : Int := zc.2.2.2.2.2.2.2.2.2.2.2.2.1
@[irreducible] noncomputable def T : Int := zc.2.2.2.2.2.2.2.2.2.2.2.2.2.1
@[irreducible] noncomputable def t : Tok := zc.2.2.2.2.2.2.2.2.2.2.2.2.2.2.1
@[irreducible] noncomputable def t0 : Tok := zc.2.2.2.2.2.2.2.2.2.2.2.2.2.2.2.1
@[irreducible] noncomputable def t1 : Tok := zc.2.2.2.2.2.2.2.2.2.2.2.2.2.2.2.2.1
@[irreducible] noncomputable def t2 : Tok := zc.2.2.2.2.2.2.2.2.2.2.2.2.2.2.2.2.2
theorem zmain : zS zkk w mean mg mb news l nn P0 P1 P2 sp m T t t0 t1 t2 := by
  unfold zS
  intro h0 h1 h2 hs hm hT ok hA hC
  dsimp only [CallsAt, RetNew, KH, VW, prg]
  k_fill
  intros; rename_i hret
  refine wpAny_call ?_
  walk_at "my enter"
  (k_with "eval IfExp" => refine hold ?_)
  k_steps
  refine join_any (fun t => .float (tW (hlsL (qf P0 8192) (qf P1 8192) (qf P2 8192)) (hlsS (qf P0 8192) (qf P1 8192) (qf P2 8192))) t) (by k_asm) (by k_asm) (IfExp_ ?_) ?_
  · k_steps
    · exact Joined.mk (tW_a (by assumption)) (by k_asm) (by k_asm)
    · exact Joined.mk (tW_b (by assumption)) (by k_asm) (by k_asm)
  rename Fr _ _ _ _ => Fo
  rename News _ _ _ _ => No
  intro tj hj tkj Fj Nj
  clear Fo No
  (k_with "1 execs cons Assign" => refine hold ?_)
  k_steps
  dsimp only [Hold]
  (k_with "1 execs cons Assign" => refine wpAny_execs_cons ?_)
  try clear Fj
  rename Fr _ _ _ (fun y => _) => F5
  refine absF F5 fun m₀ em F₀ => ?_
  have q1 : m₀ (Str.ofString "width") = some (.float (tW (hlsL (qf P0 8192) (qf P1 8192) (qf P2 8192)) (hlsS (qf P0 8192) (qf P1 8192) (qf P2 8192))) _) := em _
  have q2 : m₀ (Str.ofString "hue") = some (.float (hlsH (qf P0 8192) (qf P1 8192) (qf P2 8192)) _) := em _
  have q3 : m₀ (Str.ofString "spread") = some (.int _ _) := em _
  rename News _ _ _ _ => N5
  have N6 : News _ _ _ ((l, listOf #[.int P0 t0, .int P1 t1, .int P2 t2] nn) :: news) := newsSub N5 fun q hq => List.Mem.tail _ hq
  clear em F5 ok N5
  generalize tW (hlsL (qf P0 8192) (qf P1 8192) (qf P2 8192)) (hlsS (qf P0 8192) (qf P1 8192) (qf P2 8192)) = W at *
  generalize hlsH (qf P0 8192) (qf P1 8192) (qf P2 8192) = hue at *
  revert W hue m₀
  refine nb ?_
  set_option tactic.hygienic false in intros
  (k_with "call type:int" => k_dflt ((first | refine int_float hA ?_ | refine int_float (hC (by lia)) ?_); (try dsimp only)))
  (k_with "call builtin:divmod" => refine hold ?_)
  k_steps
  · exact hret _ _ _ _ (by assumption) (by walk_at "my news") (by walk_at "my order") (told_zero (by assumption))
  clear hA hC
  have hm0 : m ≠ 0 := by assumption
  refine exE2 (six_turns (T := T) hm.1 hm0) fun q r hh9 => ?_
  refine anE5 hh9 fun e1 e2 hq hr1 hr2 => ?_
  clear hh9
  refine divmod_N (by k_asm) (by k_asm) hm0 ?_
  intro h9 F9 N9
  rw [e1, e2] at N9
  have hq' : 0 ≤ q ∧ q ≤ 5 := six_le hq
  clear hq
  (k_with "subscriptTail Name Name ref int" => k_dflt (refine' corner_item ?k1 ?k2 ?k3 ?k4 ?k5 ?k6 ?k7 ?k8 ?k9 (by lia) (by lia) ?_; (case k1 => k_asm); (case k2 => k_mem); (case k3 => k_mem); (case k4 => k_mem); (case k5 => k_mem); (case k6 => k_mem); (case k7 => k_mem); (case k8 => k_mem); (case k9 => k_mem); intro a9 t91 t92 N9; (try dsimp only)))
  (k_with "subscriptTail Name BinOp ref int" => k_dflt (refine' corner_item ?k1 ?k2 ?k3 ?k4 ?k5 ?k6 ?k7 ?k8 ?k9 (by lia) (by lia) ?_; (case k1 => k_asm); (case k2 => k_mem); (case k3 => k_mem); (case k4 => k_mem); (case k5 => k_mem); (case k6 => k_mem); (case k7 => k_mem); (case k8 => k_mem); (case k9 => k_mem); intro a9 t91 t92 N9; (try dsimp only)))
  k_steps
  refine hret _ _ _ _ (by assumption) (by walk_at "my news") ?_ (told_some hm0 e1 e2)
  walk_at "my order"
end told_call_z
theorem told_call (w : World) (mean : Mean) (mg mb : Nm) (news : Led) (l : Addr) (nn : Nat) (P0 P1 P2 sp m T : Int) (t t0 t1 t2 : Tok) (h0 : 0 ≤ P0 ∧ P0 < 16000) (h1 : 0 ≤ P1 ∧ P1 < 16000) (h2 : 0 ≤ P2 ∧ P2 < 16000) (hs : 1 ≤ sp ∧ sp ≤ 32) (hm : 0 ≤ m ∧ m < 1000) (hT : 0 ≤ T ∧ T < 10000) (ok : hlsOk (qf P0 8192) (qf P1 8192) (qf P2 8192)) (hA : FiW (tSide sp (tW (hlsL (qf P0 8192) (qf P1 8192) (qf P2 8192)) (hlsS (qf P0 8192) (qf P1 8192) (qf P2 8192)))) ∧ fint (tSide sp (tW (hlsL (qf P0 8192) (qf P1 8192) (qf P2 8192)) (hlsS (qf P0 8192) (qf P1 8192) (qf P2 8192)))) = m) (hC : m ≠ 0 → FiW (tTurn m (hlsH (qf P0 8192) (qf P1 8192) (qf P2 8192))) ∧ fint (tTurn m (hlsH (qf P0 8192) (qf P1 8192) (qf P2 8192))) = T) : Calls w mean mg mb 12 ((l, listOf #[.int P0 t0, .int P1 t1, .int P2 t2] nn) :: news) (call (.ref 203) [Value.ref l, .int sp t])
      (RetNew ((l, listOf #[.int P0 t0, .int P1 t1, .int P2 t2] nn) :: news) (fun o => ∃ t1 t2, o = tupObj [.int (toldX m T) t1, .int (toldY m T) t2])) := by
  intro kdp kun kgd kcn kcs ka kccd kcl kouter kA kbase kh kL km ks kQ kE
  exact @clz _ told_call_z.zP told_call_z.zne (by with_unfolding_all exact told_call_z.zmain) ((kdp, kun, kgd, kcn, kcs, ka, kccd, kcl, kouter, kA, kbase, kh, kL, km, ks, kQ, kE), w, mean, mg, mb, news, l, nn, P0, P1, P2, sp, m, T, t, t0, t1, t2) h0 h1 h2 hs hm hT ok hA hC

section
variable {prog : Program} {w : World} {A A₀ : Around} {E : Value → Shared → Prop} {s : Shared} {K : Frag} {L f : Addr} {h₀ base : Heap} {m mg mb : Nm} {news : Led} {p : Program} {loose : List Str} {mean : Mean} {R : Result → Shared → Prop}
theorem codeC_func {body : List Stmt} {env : Env}
    (h : wpC (model prog w) (A.deeper env) (execs body env) (fun f s' => R (.ok (.ret (match f with | .ret v => v | _ => .none))) s')
      (fun e s' => wpAny (model prog w) (A.deeper env) (leaving env e) (fun _ s'' => R (.error e) s'') (fun e' s'' => R (.error e') s'') s') s) : codeC (model prog w) A (.func body env) R s := by
  refine codeC.tree rfl ?_
  show wpC _ (A.deeper env) (do point; match ← (execs body env).onRaise (leaving env) with | .ret v => ret v | _ => ret .none) _ _ s
  refine .bindA (wpAny_point (.bind (.onRaise (.mono h (fun fl s' h' => ?_) fun _ _ h' => h'))))
  cases fl <;> exact .pure h'
theorem codeC_call {a : Addr} {o : Obj} {fd : FuncData} {body : List Stmt} {args : Args} {binds : List (Str × Value)}
    (hroom : A.depth < recursionLimit) (ho : s.heap.get? a = some o) (hd' : o.data = .func fd) (hlim : s.heap.NoLimit) (hcd : s.heap.CodeRec fd.code fd.qualname) (hbody : fd.body = .stmts body) (hbind : BindsTo s fd args binds)
    (hcell : ∀ x ∈ fd.scope.names, x.2 ≠ .cell) (hloc : ∀ x ∈ binds, fd.scope.names.lookup x.1 = some .local)
    (h : ∀ h₀, h₀.Ns s.heap.objs.size (fun x => binds.reverse.lookup x) → (∀ b o, s.heap.get? b = some o → h₀.get? b = some o) →
      wpC (model prog w) (A.deeper (callEnv fd s.heap.objs.size a)) (execs body (callEnv fd s.heap.objs.size a)) (fun f s' => R (.ok (.ret (match f with | .ret v => v | _ => .none))) s')
        (fun e s' => wpAny (model prog w) (A.deeper (callEnv fd s.heap.objs.size a)) (leaving (callEnv fd s.heap.objs.size a) e) (fun _ s'' => R (.error e) s'') (fun e' s'' => R (.error e') s'') s')
        { s with heap := h₀, toks := s.toks + binds.length })
    (hco : fd.scope.isCoroutine = false) (hgen : fd.scope.isGenerator = false) (hk : fd.scope.kind = .function) : codeC (model prog w) A (.call (.ref a) args) R s := by
  refine codeC.tree rfl (.of ?_)
  show wpAny _ A.in1 (callAny (.ref a) args) _ _ s
  refine nd_load ho (nd_bind (nd_pure ?_))
  refine exE4 hcd fun c oc vs tq hh9 => anE4 hh9 fun hc hoc hdc hq => ?_
  dsimp only
  rw [hd']
  dsimp only
  delta callFunction
  rw [hco, hgen, hbody, hc]
  dsimp only
  refine wpAny_bind (m := field (.ref c) 1) (wpAny_field hoc hdc hq (wpAny_bind (wpAny_pure ?_)))
  refine wpAny_bind (hbind _ _ _ _ (wpAny_bind ?_))
  rw [← hc]
  refine wpAny_newFunctionEnv hcell hloc (fun h₁ hns hsb => wpAny_bind (wpAny_enterFrame (hlim.fresh _ hsb) hroom (wpAny_pure (And.intro rfl (codeC_func (h h₁ hns fun b o e => ?_)))))) hk
  exact hsb.extBut b o (Nat.ne_of_lt (Heap.lt_size e)) (Heap.get?_push_of_some _ e)
theorem codeC_def {env : Env} {outer : List Env} {name qual : Str} {params : Arguments} {body : List Stmt} {scope : Scope} {dV kV doc pm cdv ct oc : Value} {an od : Option Addr} {osl : Array (Option Value)} {args : Args} {binds : List (Str × Value)}
    (B : Below A₀ base outer h₀) (F : Fr h₀ L s.heap m) (X₀ : K.In h₀) (N : News h₀ L s.heap news) (T : Top p loose mean mg mb h₀) (hA : A.frames = some (env :: outer)) (hf : env.frame = some L) (hke : env.scope.kind = .function)
    (ho : K.lookup f = some ⟨oc, od, .func (fnOf name qual params body scope dV kV doc pm an cdv ct), osl⟩) (hcd : codeIn K cdv qual = true) (hroom : A.depth < recursionLimit)
    (hbind : BindsTo s (fnOf name qual params body scope dV kV doc pm an cdv ct) args binds) (hloc : ∀ y ∈ binds, scope.names.lookup y.1 = some .local)
    (h : ∀ g L' h₁, Fr h₀ L g m → Fr g L' h₁ (fun y => binds.reverse.lookup y) → News g L' h₁ news → Below A base (env :: outer) g → K.In g → Top p loose mean mg mb g →
      wpC (model prog w) (A.deeper (envOf qual scope L' f cdv)) (execs body (envOf qual scope L' f cdv))
        (fun fl s' => LeaveK h₀ L m g R (match fl with | .ret v => v | _ => .none) s')
        (fun e s' => wpAny (model prog w) (A.deeper (envOf qual scope L' f cdv)) (leaving (envOf qual scope L' f cdv) e) (fun _ s'' => R (.error e) s'') (fun e' s'' => R (.error e') s'') s')
        { s with heap := h₁, toks := s.toks + binds.length })
    (hco : scope.isCoroutine = false) (hgen : scope.isGenerator = false) (hk : scope.kind = .function) (hcell : ∀ x ∈ scope.names, x.2 ≠ .cell) : codeC (model prog w) A (.call (.ref f) args) R s := by
  obtain ⟨FG, BG, st, lv⟩ := groundX (R := R) B F N hA hf hke
  refine codeC_call (fd := fnOf name qual params body scope dV kV doc pm an cdv ct) (body := body) (binds := binds) hroom ((X₀.keeps F.keep) _ _ ho) rfl (T.nolimit.keeps F.keep) (codeRec_of (X₀.keeps F.keep) hcd) rfl hbind hcell hloc (fun h₁ hns hk₁ => ?_) hco hgen hk
  exact .mono (h _ s.heap.objs.size h₁ FG ⟨hns, fun b o e => hk₁ b o (of_hideAll _ e), Nat.le_of_eq (hideAll_size _ _)⟩
    (fun p hp => ⟨hk₁ _ _ (N p hp).1, Nat.ne_of_lt (Heap.lt_size (N p hp).1), hideAll_none _ (List.mem_map_of_mem hp)⟩) BG (X₀.keeps st) (T.keeps st)) (fun fl s' hl => lv _ _ hl) fun _ _ y => y
end

noncomputable def baRest (v obj : Value) : Sem Fin := do
  if !(← isInstance obj (.type "bytearray")) then rule "type.call.new-gave-other-type"; return ← ret obj
  match ← PySem.holding [obj] (callSpecial? obj "__init__" [v] []) with
  | none => ret obj
  | some r =>
    if r != .none then
      rule "type.call.init-returned-value"
      raiseError "TypeError" s!"__init__() should return None, not '{← typeNameOf r}'"
    ret obj
theorem ba_tree (v : Value) : Builtin.«type.__call__» ⟨[.type "bytearray", v], []⟩ = (PySem.holding [.builtin "bytearray.__new__"] (PySem.call (.builtin "bytearray.__new__") [.type "bytearray", v] []) >>= baRest v) := by kernel_rfl
theorem ba_entry : entryFor table "bytearray.__init__" = some Builtin.«bytearray.__init__» := by first | exact entryFor_of_fast (by kernel_rfl) | exact entryFor_of_tree (by kernel_rfl)
theorem ba_entry_new : entryFor table "bytearray.__new__" = some Builtin.«list.__new__» := entryFor_alias (id' := "list.__new__") (by kernel_rfl) (by first | rfl | decide +kernel) (by decide +kernel) (by kernel_rfl)
theorem ba_slot_init : Slot "bytearray" "__init__" "bytearray.__init__" :=
  .of (owner := "bytearray") (n := "__init__") (by rw [typeLookup_type, builtinLookup_eq_fast]; kernel_rfl) (by decide +kernel) (by decide +kernel) (by decide +kernel)
    (by first | exact .inl (by decide +kernel) | exact .inr (by decide +kernel)) (by rw [isSubtype_type]; kernel_rfl)
theorem ba_newCall (a : Value) : checkBuiltinCall "bytearray.__new__" ⟨[.type "bytearray", a], []⟩ = pure () := by kernel_rfl
theorem ba_plain_new : plainId "bytearray.__new__" = true := by decide +kernel
theorem ba_plain_init : plainId "bytearray.__init__" = true := by decide +kernel
theorem ba_args (a b : Value) : argsOk "bytearray.__init__" ⟨[a, b], []⟩ := by unfold argsOk; kernel_rfl
theorem ba_release : typeLookup (.type "bytearray") "__release_buffer__" = pure (some (.builtin "bytearray.__release_buffer__")) := by rw [typeLookup_type, builtinLookup_eq_fast]; kernel_rfl
theorem ba_bind (v : Value) : Builtin.Bytes.bindOptional "bytearray.__init__" "bytearray" ["source", "encoding", "errors"] [v] [] = pure [some v, none, none] := by kernel_rfl
theorem ba_split : ("bytearray.__new__".splitOn ".__new__").headD "" = "bytearray" := by simp +decide [String.splitOn, String.splitOnAux]
theorem ba_asStr (i : Int) (t : Tok) : asStr? (Value.int i t) = pure none := by kernel_rfl
theorem ba_asIndex (i : Int) (t : Tok) : asIndex (Value.int i t) = pure i := rfl
theorem ba_calm1 (v : Value) : calm (.builtin "type.__call__" ⟨[.type "bytearray", v], []⟩) = true := by kernel_rfl
theorem ba_calm2 (a v : Value) : calm (.builtin "bytearray.__init__" ⟨[a, v], []⟩) = true := by kernel_rfl
section
variable {prog : Program} {w : World} {A : Around} {E : Value → Shared → Prop} {s : Shared} {R : Result → Shared → Prop}
theorem ba_new (v : Value) {Q₁ : Value → Shared → Prop} (h : Q₁ (.ref s.heap.objs.size) { s with heap := s.heap.push { cls := .type "bytearray", data := .bytearray #[] } }) :
    codeAny (model prog w) A (.call (.builtin "bytearray.__new__") ⟨[.type "bytearray", v], []⟩) (wants Q₁ E) s := by
  refine codeAny_of_tree ?_
  show wpAny _ A.in1 (do checkBuiltinCall "bytearray.__new__" ⟨[.type "bytearray", v], []⟩; again (.builtin "bytearray.__new__" ⟨[.type "bytearray", v], []⟩)) _ _ s
  refine wpAny_bind (wpAny_of_eq (ba_newCall v) (wpAny_pure ⟨plainId_quiet ba_plain_new _, codeAny_builtin_stack ba_entry_new rfl fun p st => ?_⟩))
  rw [Around.under_plainId ba_plain_new _]
  have hsub := PySem.F.sub_bytearray_bytearray
  have hown := ba_split
  obtain ⟨hp, g, d, tk, os⟩ := s
  lk
  rw [hown]
  wp_walk
  exact h
end
section
variable {prog : Program} {w : World} {A : Around} {E : Value → Shared → Prop} {s : Shared} {R : Result → Shared → Prop}
noncomputable abbrev baObj (b : Array UInt8) : Obj := { cls := .type "bytearray", data := .bytearray b }
theorem ba_isType {a : Addr} {b : Array UInt8} (h : s.heap.get? a = some (baObj b)) : s.TypeIs (.ref a) "bytearray" := ⟨_, h, rfl⟩
theorem ba_specInt {i : Int} {t : Tok} {Q : Option Value → Shared → Prop} (h : Q (some (.builtin "int.__index__")) s) : wpAny (model prog w) A (specialOf (Value.int i t) (Str.ofString "__index__")) Q E s := wpAny_specialOf (T := "int") (by rfl) PySem.int_index h
theorem ba_write {a : Addr} {b : Array UInt8} {f : Array UInt8 → Array UInt8} {Q : Unit → Shared → Prop} (ha : s.heap.get? a = some (baObj b)) (hz : (f b).size ≤ 1000)
    (h : ∀ h', h'.get? a = some (baObj (f b)) → Heap.SameBut a s.heap h' → Q () { s with heap := h' }) : wpAny (model prog w) A (Builtin.Bytes.write (.ref a) f) Q E s := by
  have hg : (s.heap.update a (Obj.mapBytearray f)).get? a = some (baObj (f b)) := by
    rw [Heap.get?_update_self _ ha (by rfl)]
    rfl
  unfold Builtin.Bytes.write updateBytearray
  refine wpAny_bind (wpAny_load ha ?_)
  refine wpAny_bind (wpAny_update ha ?_)
  unfold lookBehind
  refine wpAny_bind (wpAny_loadPart hg ?_)
  have e : (baObj (f b)).data.pastItsLine = none := by
    show (if (f b).size > sizeLine then some "bytearray:memory" else none) = none
    rw [if_neg (by rw [sizeLine_eq]; lia)]
  rw [e]
  exact wpAny_pure (h _ hg (Heap.SameBut.update ..))
end
namespace ba_init_z
noncomputable def zS (prog : Program) (w : World) (A : Around) (E : Value → Shared → Prop) (s : Shared) (a : Addr) (t : Tok) (Q : Fin → Shared → Prop) : Prop := ∀ (n : Nat) (hn : n ≤ 1000) (ha : s.heap.get? a = some (baObj #[])) (h : ∀ h', h'.get? a = some (baObj (Array.replicate n 0)) → Heap.SameBut a s.heap h' → Q (.done (.ret .none)) { s with heap := h' }), wpC (model prog w) A (Builtin.«bytearray.__init__» ⟨[.ref a, .int n t], []⟩) Q E s
noncomputable abbrev zT : Type := (Program) × (World) × (Around) × (Value → Shared → Prop) × (Shared) × (Addr) × (Tok) × (Fin → Shared → Prop)
noncomputable def zP (x : zT) : Prop := zS x.1 x.2.1 x.2.2.1 x.2.2.2.1 x.2.2.2.2.1 x.2.2.2.2.2.1 x.2.2.2.2.2.2.1 x.2.2.2.2.2.2.2
theorem zne : Nonempty zT := ⟨(default, dW, {}, fun _ _ => True, {}, (0 : Nat), (0 : Nat), fun _ _ => True)⟩
noncomputable def zc : zT := @Classical.epsilon _ zne fun x => ¬ zP x
@[irreducible] noncomputable def prog : Program := zc.1
@[irreducible] noncomputable def w : World := zc.2.1
@[irreducible] noncomputable def A : Around := zc.2.2.1
@[irreducible] noncomputable def E : Value → Shared → Prop := zc.2.2.2.1
@[irreducible] noncomputable def s : Shared := zc.2.2.2.2.1
@[irreducible] noncomputable def a : Addr := zc.2.2.2.2.2.1
@[irreducible] noncomputable def t : Tok := zc.2.2.2.2.2.2.1
@[irreducible] noncomputable def Q : Fin → Shared → Prop := zc.2.2.2.2.2.2.2
theorem zmain : zS prog w A E s a t Q := by
  unfold zS
  intro n hn ha h
  have hT := ba_isType (s := s) ha
  unfold Builtin.«bytearray.__init__»
  refine .bindA (m := Builtin.Bytes.ownRelease _) ?_
  unfold Builtin.Bytes.ownRelease Builtin.Bytes.slotIsOwn
  refine wpAny_bind (wpAny_bind (wpAny_specialOf hT ba_release ?_))
  dsimp only
  rw [if_neg (by decide +kernel), show (Value.type (String.dropRight "bytearray.__release_buffer__" ("__release_buffer__".length + 1))) = Value.type "bytearray" by decide +kernel]
  refine wpAny_isInstance hT PySem.F.sub_bytearray_bytearray (wpAny_pure ?_)
  rw [if_neg (by decide)]
  refine .bindA (wpAny_of_eq (ba_bind _) ?_)
  dsimp only
  refine .bindA (wpAny_of_eq (a := ()) rfl ?_)
  refine .bindA (wpAny_of_eq (a := ()) rfl ?_)
  refine .bind ?_
  unfold orM
  refine .bind (m := Builtin.Bytes.exported _) (.exported ?_)
  refine .of ?_
  dsimp only [toBool]
  refine wpAny_bind (m := Builtin.Bytes.exportsOf _) ?_
  unfold Builtin.Bytes.exportsOf
  refine wpAny_bind (wpAny_load ha ?_)
  refine wpAny_pure (wpAny_pure ?_)
  refine .of ?_
  rw [if_neg (by decide)]
  refine wpAny_bind (ba_write ha (by show (#[] : Array UInt8).size ≤ 1000; decide) fun h₁ e₁ b₁ => ?_)
  refine wpAny_bind ?_
  rw [ba_asStr]
  refine wpAny_pure ?_
  rw [if_neg (by decide)]
  refine wpAny_bind ?_
  rw [if_neg (by decide)]
  rw [if_neg (by decide)]
  refine wpAny_pure ?_
  refine wpAny_bind ?_
  refine ba_specInt ?_
  rw [if_pos (by rfl)]
  refine wpAny_bind ?_
  rw [ba_asIndex]
  refine wpAny_attempt ?_
  refine wpAny_pure ?_
  dsimp only
  rw [if_neg (by
    unfold Builtin.Bytes.fitsIndex
    simp only [Bool.not_eq_true', Bool.not_eq_true]
    simp only [Bool.and_eq_false_iff, decide_eq_false_iff_not]
    lia), if_neg (by lia)]
  rw [if_neg (by simp only [beq_iff_eq]; lia)]
  rw [if_neg (by unfold Builtin.Bytes.tooLong; rw [sizeLine_eq, decide_eq_true_eq, Int.toNat_natCast]; lia)]
  refine wpAny_bind (wpAny_rule ?_)
  rw [Int.toNat_natCast]
  by_cases h0 : (n : Int) > 0
  · rw [if_pos h0]
    refine wpAny_bind (ba_write e₁ (by show (Array.replicate n (0 : UInt8)).size ≤ 1000; rw [Array.size_replicate]; exact hn) fun h₂ e₂ b₂ => ?_)
    exact wpAny_pure (h h₂ e₂ (b₁.trans b₂))
  · rw [if_neg h0]
    obtain rfl : n = 0 := by lia
    exact wpAny_pure (h h₁ e₁ b₁)
end ba_init_z
theorem ba_init {prog : Program} {w : World} {A : Around} {E : Value → Shared → Prop} {s : Shared} {a : Addr} {n : Nat} {t : Tok} {Q : Fin → Shared → Prop} (hn : n ≤ 1000) (ha : s.heap.get? a = some (baObj #[])) (h : ∀ h', h'.get? a = some (baObj (Array.replicate n 0)) → Heap.SameBut a s.heap h' → Q (.done (.ret .none)) { s with heap := h' }) : wpC (model prog w) A (Builtin.«bytearray.__init__» ⟨[.ref a, .int n t], []⟩) Q E s := by
  exact @clz _ ba_init_z.zP ba_init_z.zne (by with_unfolding_all exact ba_init_z.zmain) (prog, w, A, E, s, a, t, Q) n hn ha h
section
variable {prog : Program} {w : World} {A : Around} {E : Value → Shared → Prop} {s : Shared} {R : Result → Shared → Prop}
end
section
variable {prog : Program} {w : World} {A : Around} {E : Value → Shared → Prop} {s : Shared} {R : Result → Shared → Prop} {h₀ : Heap} {L : Addr} {m : Nm} {news : Led}
theorem codeC_builtin {id : String} {args : Args} {b : Builtin} (hc : calm (.builtin id args) = true) (hb : entryFor table id = some b)
    (h : wpC (model prog w) (A.under (.builtin id args)) (b args) (fun fin s' => match fin with | .done f => R (.ok f) s' | .again c' => c'.quiet = true ∧ codeC (model prog w) A c' R s') (fun e s' => R (.error e) s') s) : codeC (model prog w) A (.builtin id args) R s := by
  refine codeC.tree hc ?_
  show wpC _ _ (match entryFor table id with | some b => b args | none => unsupported ((withoutEnding? id "#data").getD id)) _ _ s
  rw [hb]; exact h
theorem ba_call {n : Nat} {t : Tok} {Q : Value → Shared → Prop} (hn : n ≤ 1000) (F : Fr h₀ L s.heap m) (N : News h₀ L s.heap news)
    (h : ∀ a h', Fr h₀ L h' m → News h₀ L h' ((a, baObj (Array.replicate n 0)) :: news) → (∀ p ∈ news, p.1 < a) → Q (.ref a) { s with heap := h' }) :
    wpC (model prog w) A (PySem.call (.type "bytearray") [.int n t] []) Q E s := by
  refine .call (codeC.tree rfl (.of ?_))
  show wpAny _ _ (callAny (.type "bytearray") _) _ _ _
  refine wpAny_pure ⟨Code.quiet_builtin _ (by decide +kernel), codeC_builtin (ba_calm1 _) PySem.F.entry_type_call ?_⟩
  rw [ba_tree]
  refine .bindA (wpAny_holding (wpAny_call (codeAny_mono (ba_new (E := fun _ _ => False) (Q₁ := fun v s' => v = .ref s.heap.objs.size ∧ s' = { s with heap := s.heap.push (baObj #[]) }) _ ⟨rfl, rfl⟩) fun r s' hr => ?_)))
  cases r with
  | error e => exact (show False from hr).elim
  | ok fl =>
    cases fl with
    | ret obj =>
      obtain ⟨rfl, rfl⟩ := hr
      have hg : (s.heap.push (baObj #[])).get? s.heap.objs.size = some (baObj #[]) := Heap.get?_push_size _ rfl
      have hT : ({ s with heap := s.heap.push (baObj #[]) } : Shared).TypeIs (.ref s.heap.objs.size) "bytearray" := ba_isType hg
      unfold baRest
      refine .bindA (wpAny_isInstance hT PySem.F.sub_bytearray_bytearray ?_)
      refine .ite ?_
      rw [if_neg (by decide)]
      refine .bind (.holding ?_)
      unfold callSpecial?
      refine .bindA (wpAny_specialOf hT ba_slot_init.lookup ?_)
      refine .holding (.bindA (wpAny_of_eq (ba_slot_init.bind _) ?_))
      refine .bind (.call (codeC.tree rfl (.of ?_)))
      show wpAny _ _ (do checkBuiltinCall "bytearray.__init__" ⟨[.ref s.heap.objs.size, .int n t], []⟩; again (.builtin "bytearray.__init__" ⟨[.ref s.heap.objs.size, .int n t], []⟩)) _ _ _
      refine wpAny_bind (ba_slot_init.check _ _ _ _ _ _ _ _ hT (ba_args _ _) (wpAny_pure ⟨plainId_quiet ba_plain_init _, codeC_builtin (ba_calm2 _ _) ba_entry (ba_init hn hg fun h' e' b' => ?_)⟩))
      refine .pure ?_
      refine .ite ?_
      rw [if_neg (by decide)]
      refine .pure ?_
      have FP := F.push (baObj #[])
      have NP := News.push F N (baObj #[])
      have hne : s.heap.objs.size ≠ L := (NP _ (.head _)).2.1
      have h0 : h₀.get? s.heap.objs.size = none := (NP _ (.head _)).2.2
      refine h _ h' (FP.change b' hne h0) (news_set (pre := []) NP (fun _ hp => nomatch hp) (fun p hp => Nat.ne_of_lt (Heap.lt_size (N p hp).1)) b' e') fun p hp => Heap.lt_size (N p hp).1
    | _ => exact hr.elim
end

section
variable {M : Model} {A : Around} {E : Value → Shared → Prop} {s : Shared} {env : Env}
theorem cN_execs_cons {st : Stmt} {rest : List Stmt} {Q : Flow → Shared → Prop} (h : wpC M A (exec st env) (fun f s' => match f with | .next => wpC M A (execs rest env) Q E s' | f => Q f s') E s) : wpC M A (execs (st :: rest) env) Q E s := by
  rw [PySem.execs_cons]
  refine .bind (.mono h (fun f s' h' => ?_) fun _ _ e => e)
  cases f with
  | next => exact h'
  | _ => exact .pure h'
theorem cN_If {test : PySem.Expr} {body orelse : List Stmt} {pos : Pos} {Q : Flow → Shared → Prop} (h : wpC M A (isTrue test env (eval test env)) (fun b s₂ => if b then wpAny M A (execs body env) Q E s₂ else wpAny M A (execs orelse env) Q E s₂) E s) : wpC M A (exec (.If test body orelse pos) env) Q E s := by
  rw [arm_exec_If]
  refine .bindA (wpAny_standAt (.bind (.mono h (fun b s' h' => ?_) fun _ _ e => e)))
  cases b <;> exact .of h'
theorem cN_isTrue_Compare1 {l r : PySem.Expr} {op : CmpOp} {pos : Pos} {whole : Sem Value} {Q : Bool → Shared → Prop}
    (h : wpC M A (eval l env) (fun a s₁ => wpAny M A (eval r env) (fun b s₂ => wpAny M A (compareOp op a b) (fun c s₃ => wpAny M A (truthy c) Q E s₃) E s₂) E s₁) E s)
    (hm : behindInMarks op r = false := by with_unfolding_all rfl) : wpC M A (isTrue (.Compare l [op] [r] pos) env whole) Q E s := fun Γ p hΓ hC => by
  simp only [isTrue_Compare1, markedBehindIn_of_false hm, Sem.wp_bind', Sem.wp_holding, Sem.wp_cmd_standAt, Sem.wp_operate]
  exact Sem.wp_mono M Γ _ (fun a p₁ s₁ h₁ => Sem.wp_mono M Γ _ (fun b _ s₂ h₂ => Sem.wp_mono M Γ _ (fun c p₃ s₃ h₃ => h₃ Γ p₃ hΓ)
    (fun _ _ _ h' => h') _ _ (h₂ Γ _ hΓ)) (fun _ _ _ h' => h') _ _ (h₁ Γ p₁ hΓ)) (fun _ _ _ h' => h') _ _ (h Γ p hΓ hC)
theorem cN_Call {func : PySem.Expr} {args : List PySem.Expr} {pos : Pos} {Q : Value → Shared → Prop}
    (h : wpAny M A (eval func env) (fun f s₁ => wpC M A (callWith pos f [] (backTo pos (starEach args env)) []) Q E s₁) E s)
    (he : eval (.Call func args [] pos) env = (do callWith pos (← eval func env) [] (backTo pos (starEach args env)) (backToKw pos (keywordEach [] env))) := by rfl) : wpC M A (eval (.Call func args [] pos) env) Q E s := by
  rw [he]; exact .bindA h
theorem cN_callTail {r : Value} {Q : Value → Shared → Prop} (h : Q r s) : wpAny M A (PySem.holding [r] point >>= fun _ => pure r) Q E s := wpAny_bind (wpAny_holding (wpAny_point (wpAny_pure h)))
theorem cN_callWith {P : Heap → Prop} {pos : Pos} {f : Value} {first : List Value} {args : List (Bool × Sem Value)} {Q : Value → Shared → Prop} (hplain : args.any (·.1) = false)
    (hk : ∀ h, P h → ∃ k, (k = Keeper.frame ∨ k = Keeper.machine ∨ k = Keeper.boundFrame) ∧ Looks M h (keeperOf f) k)
    (h : wpAny M A (evalArgs f true args []) (fun a s₁ => P s₁.heap ∧ wpC M A (PySem.call f (first ++ a.pos) a.kw) Q E s₁) E s) : wpC M A (PySem.callWith pos f first args []) Q E s := by
  unfold PySem.callWith
  refine .bindA (wpAny_holding (wpAny_mono h (fun a s₁ h₁ => .bindA (wpAny_standAt ?_)) fun _ _ x => x))
  obtain ⟨k, hk', L⟩ := hk _ h₁.1
  rw [hplain, List.any_nil, Bool.or_false]
  refine .bindA (L.here ?_)
  have tail : ∀ {t : Sem Value}, wpC M A t Q E s₁ → wpC M A (t >>= fun r => PySem.holding [r] point >>= fun _ => pure r) Q E s₁ := fun ht => .bind (.mono ht (fun r s₂ hr => .of (cN_callTail hr)) fun _ _ x => x)
  have marked (mk : Value) : wpC M A (callMarked mk f (first ++ a.pos) a.kw) Q E s₁ := fun Γ p hΓ hC => by
    unfold callMarked
    rw [Sem.wp_keep]
    exact h₁.2 Γ p hΓ hC
  rcases hk' with rfl | rfl | rfl <;> dsimp only <;> first | exact tail h₁.2 | (split <;> first | exact tail h₁.2 | exact tail (marked _))
theorem cN_callType {pos : Pos} {T : String} {x : Sem Value} {Q : Value → Shared → Prop} (h : wpC M A x (fun v s₁ => wpC M A (PySem.call (.type T) [v] []) Q E s₁) E s) : wpC M A (PySem.callWith pos (.type T) [] [(false, x)] []) Q E s := by
  unfold PySem.callWith evalArgs
  refine .bind (.holding ?_)
  dsimp only
  refine .bind (m := spliced [(false, x)]) ?_
  unfold spliced
  refine .bind (.mono h (fun v s₁ h₁ => ?_) fun _ _ e => e)
  refine .bindA (wpAny_pure ?_)
  refine .bindA (wpAny_holding (wpAny_pure ?_))
  refine .pure ?_
  refine .bindA (wpAny_pure ?_)
  dsimp only [List.cons_append, List.nil_append, Option.toList, List.append_nil]
  refine .holding ?_
  rw [if_pos (by rfl)]
  refine .bindA (wpAny_of_eq (a := []) rfl ?_)
  refine .bindA (wpAny_pure ?_)
  refine .pure ?_
  refine .bindA (wpAny_standAt ?_)
  refine .bindA (wpAny_of_eq (a := Keeper.machine) rfl ?_)
  exact .bind (.mono h₁ (fun r s₂ hr => .of (cN_callTail hr)) fun _ _ x => x)
theorem cN_ListComp {elt iter target : PySem.Expr} {ifs : List PySem.Expr} {scope : Scope} {pos : Pos} {Q : Value → Shared → Prop}
    (h : wpC M A (eval iter env) (fun x s₁ => wpAny M A (comprehension (.ListComp elt [⟨target, iter, ifs, 0⟩] scope pos) scope env (firstIterPos [⟨target, iter, ifs, 0⟩] pos) (newList []) false (pure x) none) Q E s₁) E s)
    : wpC M A (eval (.ListComp elt [⟨target, iter, ifs, 0⟩] scope pos) env) Q E s := by
  have e : eval (.ListComp elt [⟨target, iter, ifs, 0⟩] scope pos) env = (eval iter env >>= fun x => comprehension (.ListComp elt [⟨target, iter, ifs, 0⟩] scope pos) scope env (firstIterPos [⟨target, iter, ifs, 0⟩] pos) (newList []) false (pure x) none) := by
    rw [eval_ListComp]
    rfl
  rw [e]
  exact .bind (.mono h (fun x s₁ h₁ => .of h₁) fun _ _ e => e)
theorem cN_Assign_Name {x : Str} {pos' pos : Pos} {value : PySem.Expr} {Q : Flow → Shared → Prop}
    (h : wpC M A (eval value env) (fun v s₁ => wpAny M A (storeName env x v) (fun _ => Q .next) E s₁) E s) (hs : swapsWith value (some (.Name x pos')) pos.line env = pure false := by rfl) : wpC M A (exec (.Assign [.Name x pos'] value pos) env) Q E s := fun Γ p hΓ hC => by
  simp only [exec_Assign_Name env x pos' value pos hs, Sem.wp_bind', Sem.wp_cmd_standAt, Sem.wp_bindName, Sem.wp_pure']
  exact Sem.wp_mono M Γ _ (fun v _ s₁ h₁ => h₁ Γ _ hΓ) (fun _ _ _ h' => h') _ _ (h Γ _ hΓ hC)
end

theorem ba_slot_set : Slot "bytearray" "__setitem__" "bytearray.__setitem__" :=
  .of (owner := "bytearray") (n := "__setitem__") (by rw [typeLookup_type, builtinLookup_eq_fast]; kernel_rfl) (by decide +kernel) (by decide +kernel) (by decide +kernel)
    (by first | exact .inl (by decide +kernel) | exact .inr (by decide +kernel)) (by rw [isSubtype_type]; kernel_rfl)
theorem ba_entry_set : entryFor table "bytearray.__setitem__" = some Builtin.«bytearray.__setitem__» := entryFor_of_tree (by kernel_rfl)
theorem ba_args_set (a b c : Value) : argsOk "bytearray.__setitem__" ⟨[a, b, c], []⟩ := by unfold argsOk; kernel_rfl
theorem ba_fits {k : Int} (h0 : 0 ≤ k) (h1 : k < 2000) : (!Builtin.Bytes.fitsIndex k) = false := by
  unfold Builtin.Bytes.fitsIndex
  rw [decide_eq_true (by lia), decide_eq_true (by lia)]
  rfl
section
variable {prog : Program} {w : World} {A : Around} {E : Value → Shared → Prop} {s : Shared} {R : Result → Shared → Prop} {h₀ : Heap} {L : Addr} {m : Nm} {news : Led}
theorem ba_sub_key {k : Int} {t : Tok} {Q : Option Int → Shared → Prop} (h0 : 0 ≤ k) (h1 : k < 2000) (h : Q (some k) s) : wpAny (model prog w) A (Builtin.Bytes.subscript? (.int k t)) Q E s := by
  unfold Builtin.Bytes.subscript?
  refine wpAny_bind ?_
  refine ba_specInt ?_
  rw [if_neg (by decide)]
  refine wpAny_bind ?_
  rw [ba_asIndex]
  refine wpAny_pure ?_
  rw [ba_fits h0 h1]
  rw [if_neg (by decide)]
  exact wpAny_pure h
theorem ba_byte {v : Int} {t : Tok} {Q : UInt8 → Shared → Prop} (h0 : 0 ≤ v) (h1 : v < 256) (h : Q v.toNat.toUInt8 s) : wpAny (model prog w) A (Builtin.Bytes.byteValue (.int v t)) Q E s := by
  unfold Builtin.Bytes.byteValue
  refine wpAny_bind ?_
  rw [ba_asIndex]
  refine wpAny_pure ?_
  rw [if_neg (by simp only [Bool.or_eq_true, decide_eq_true_eq]; lia)]
  exact wpAny_pure h
theorem ba_payload {a : Addr} {b : Array UInt8} {Q : Array UInt8 → Shared → Prop} (ha : s.heap.get? a = some (baObj b)) (h : Q b s) : wpAny (model prog w) A (Builtin.Bytes.payload (.ref a)) Q E s := by
  unfold Builtin.Bytes.payload Builtin.Bytes.payload?
  refine wpAny_bind (wpAny_bind (wpAny_load ha ?_))
  exact wpAny_pure (wpAny_pure h)
theorem ba_setItem {a : Addr} {b : Array UInt8} {k v : Int} {t u : Tok} {Q : Unit → Shared → Prop} (ha : s.heap.get? a = some (baObj b)) (h0 : 0 ≤ k) (hn : k < b.size) (hz : b.size ≤ 1000) (hv0 : 0 ≤ v) (hv1 : v < 256)
    (hQ : ∀ h', h'.get? a = some (baObj (b.setIfInBounds k.toNat v.toNat.toUInt8)) → Heap.SameBut a s.heap h' → Q () { s with heap := h' }) : wpAny (model prog w) A (setItem (.ref a) (.int k t) (.int v u)) Q E s := by
  have hT := ba_isType (s := s) ha
  unfold setItem
  try with_reducible refine wpAny_holding ?_
  first | refine wpAny_bind (wpAny_pure ?_) | skip
  refine wpAny_bind (wpAny_sequenceKey hT (by decide) ?_)
  refine wpAny_bind (wpAny_callSpecial?_slot (name := Str.ofString "__setitem__") hT ba_slot_set (wpAny_call_entry ba_slot_set hT ba_entry_set ?_ (ba_args_set _ _ _)))
  unfold Builtin.«bytearray.__setitem__»
  dsimp only
  rw [if_neg (by decide)]
  refine wpAny_bind ?_
  refine ba_sub_key h0 (by lia) ?_
  dsimp only
  refine wpAny_bind ?_
  refine ba_byte hv0 hv1 ?_
  refine wpAny_bind ?_
  refine ba_payload ha ?_
  have hk : seqIndex? k b.size = some k.toNat := by
    unfold seqIndex?
    have hn' : ¬ k < 0 := by lia
    simp only [hn', if_false]
    rw [if_pos (by simp only [Bool.and_eq_true, decide_eq_true_eq]; lia)]
  rw [hk]
  dsimp only
  refine wpAny_bind ?_
  refine ba_write ha (by rw [Array.size_setIfInBounds]; exact hz) fun h' e' b' => ?_
  exact wpAny_pure ⟨.none, rfl, wpAny_pure (hQ h' e' b')⟩
end
theorem ba_no_bytes : typeLookup (.type "bytearray") "__bytes__" = pure none := by rw [typeLookup_type, builtinLookup_eq_fast]; kernel_rfl
theorem ba_no_index : typeLookup (.type "bytearray") "__index__" = pure none := by rw [typeLookup_type, builtinLookup_eq_fast]; kernel_rfl
theorem ba_buffer : typeLookup (.type "bytearray") "__buffer__" = pure (some (.builtin "bytearray.__buffer__")) := by rw [typeLookup_type, builtinLookup_eq_fast]; kernel_rfl
section
variable {prog : Program} {w : World} {A : Around} {E : Value → Shared → Prop} {s : Shared} {R : Result → Shared → Prop} {h₀ : Heap} {L : Addr} {m : Nm} {news : Led}
theorem ba_ownRelease {a : Addr} {b : Array UInt8} {Q : Bool → Shared → Prop} (ha : s.heap.get? a = some (baObj b)) (h : Q false s) : wpAny (model prog w) A (Builtin.Bytes.ownRelease (.ref a)) Q E s := by
  have hT := ba_isType (s := s) ha
  unfold Builtin.Bytes.ownRelease Builtin.Bytes.slotIsOwn
  refine wpAny_bind (wpAny_bind (wpAny_specialOf hT ba_release ?_))
  dsimp only
  rw [if_neg (by decide +kernel), show (Value.type (String.dropRight "bytearray.__release_buffer__" ("__release_buffer__".length + 1))) = Value.type "bytearray" by decide +kernel]
  exact wpAny_isInstance hT PySem.F.sub_bytearray_bytearray (wpAny_pure h)
theorem ba_bytes_new {a : Addr} {b : Array UInt8} {Q : Value → Shared → Prop} (ha : s.heap.get? a = some (baObj b)) (hz : b.size ≤ 1000) (hQ : Q (.bytes b s.toks) { s with toks := s.toks + 1 }) :
    codeAny (model prog w) A (.call (.builtin "bytes.__new__") ⟨[.type "bytes", .ref a], []⟩) (wants Q E) s := by
  refine codeAny_of_tree ?_
  show wpAny _ A.in1 (do checkBuiltinCall "bytes.__new__" ⟨[.type "bytes", .ref a], []⟩; again (.builtin "bytes.__new__" ⟨[.type "bytes", .ref a], []⟩)) _ _ s
  refine wpAny_bind (wpAny_of_eq (PySem.F.bm_newCall _) (wpAny_pure ⟨plainId_quiet PySem.F.bm_plain _, codeAny_builtin PySem.F.bm_entry ?_⟩))
  rw [Around.under_plainId PySem.F.bm_plain _]
  have hT := ba_isType (s := s) ha
  unfold Builtin.«bytes.__new__»
  refine wpAny_bind (wpAny_of_eq (a := true) rfl ?_)
  refine bm_if_false rfl ?_
  refine wpAny_bind (wpAny_of_eq PySem.F.bm_sub ?_)
  refine bm_if_false rfl ?_
  refine wpAny_bind (wpAny_of_eq (PySem.F.bm_bind _) ?_)
  refine wpAny_bind (wpAny_of_eq (a := ()) rfl ?_)
  refine wpAny_bind (wpAny_of_eq (a := ()) rfl ?_)
  refine bm_if_false rfl ?_
  refine wpAny_bind (wpAny_specialOf hT ba_no_bytes ?_)
  refine wpAny_bind (wpAny_bind ?_)
  show wpAny _ _ (load a >>= _) _ _ _
  refine wpAny_bind (wpAny_load ha ?_)
  refine wpAny_pure (wpAny_pure ?_)
  refine bm_if_false rfl ?_
  refine wpAny_bind (wpAny_specialOf hT ba_no_index ?_)
  refine bm_if_true rfl ?_
  first
    | show wpAny _ _ (Builtin.Bytes.buffer? "bytes.__new__" (.ref a) true >>= _) _ _ _
    | (refine wpAny_bind ?_; show wpAny _ _ (Builtin.Bytes.buffer? "bytes.__new__" (.ref a) true >>= _) _ _ _)
  refine wpAny_bind ?_
  unfold Builtin.Bytes.buffer?
  refine wpAny_bind (wpAny_specialOf hT ba_buffer ?_)
  dsimp only
  refine wpAny_bind ?_
  unfold Builtin.Bytes.slotIsOwn
  refine wpAny_bind (wpAny_specialOf hT ba_buffer ?_)
  dsimp only
  rw [if_neg (by decide +kernel), show (Value.type (String.dropRight "bytearray.__buffer__" ("__buffer__".length + 1))) = Value.type "bytearray" by decide +kernel]
  refine wpAny_isInstance hT PySem.F.sub_bytearray_bytearray ?_
  rw [if_neg (by decide)]
  refine wpAny_bind (wpAny_specialOf hT ba_buffer ?_)
  (try dsimp only)
  refine wpAny_bind ?_
  refine ba_ownRelease ha ?_
  rw [if_neg (by decide)]
  refine wpAny_bind ?_
  refine ba_payload ha ?_
  refine wpAny_pure ?_
  (try dsimp only)
  refine wpAny_bind (wpAny_rule ?_)
  refine wpAny_bind ?_
  unfold mkBytes
  rw [if_neg (by rw [sizeLine_eq]; lia)]
  refine wpAny_bind (wpAny_fresh ?_)
  refine wpAny_pure ?_
  exact wpAny_of_eq (a := Fin.done (.ret (.bytes b s.toks))) (by kernel_rfl) hQ
theorem ba_to_bytes {a : Addr} {b : Array UInt8} {Q : Value → Shared → Prop} (ha : s.heap.get? a = some (baObj b)) (hz : b.size ≤ 1000) (hQ : Q (.bytes b s.toks) { s with toks := s.toks + 1 }) :
    wpAny (model prog w) A (PySem.call (.type "bytes") [.ref a] []) Q E s := by
  refine callType_codes (Q₁ := fun obj s₁ => s₁.TypeIs obj "bytes" ∧ Q obj s₁) PySem.F.bm_called (PySem.F.bm_typeCall _) PySem.F.entry_object_init (ba_bytes_new ha hz ⟨PySem.W.typeIs_bytes _ _ _, hQ⟩) fun obj s₁ h₁ => ?_
  exact ⟨h₁.1, PySem.F.args_object_init_2 obj _, object_init_meets PySem.F.bm_called.init.lookup PySem.F.bm_called.made (by decide) prog w A.in1 _ s₁ ⟨h₁.1, rfl, h₁.2⟩⟩
end
section
variable {prog : Program} {w : World} {A : Around} {E : Value → Shared → Prop} {s : Shared} {h₀ : Heap} {L : Addr} {m : Nm} {rest : Led}
theorem ba_store {a : Addr} {b : Array UInt8} {k v : Int} {t u : Tok} {Q : Unit → Shared → Prop} (F : Fr h₀ L s.heap m) (N : News h₀ L s.heap ((a, baObj b) :: rest)) (ap : ∀ p ∈ rest, p.1 ≠ a) (h0 : 0 ≤ k) (hn : k < b.size) (hz : b.size ≤ 1000) (hv0 : 0 ≤ v) (hv1 : v < 256)
    (h : ∀ h', Fr h₀ L h' m → News h₀ L h' ((a, baObj (b.setIfInBounds k.toNat v.toNat.toUInt8)) :: rest) → Q () { s with heap := h' }) : wpAny (model prog w) A (setItem (.ref a) (.int k t) (.int v u)) Q E s :=
  ba_setItem (N _ (.head _)).1 h0 hn hz hv0 hv1 fun h' e' b' => h h' (F.change b' (N _ (.head _)).2.1 (N _ (.head _)).2.2) (news_set (pre := []) N (fun _ hp => nomatch hp) ap b' e')
end

theorem fresh_M_swap : True := by
  k_with_none
  w_on
  w_top off
  (k_with "1 my rest" => (intro z hz; have hz' := hz; simp only [List.contains_cons, Bool.or_eq_false_iff, beq_eq_false_iff_ne, ne_eq, List.contains_nil, and_true] at hz'; simp only [hz', hz, if_false, Bool.false_eq_true, ↓reduceIte]))
  (k_with "1 my enterClean" => (refine' codeC_def ?k1 ?k2 ?k3 ?k4 ?k5 ?kA ?kF ?kK ?k6 ?k7 ?k8 ?k9 ?kB ?_ ?c2 ?c3 ?c4 ?c5; walk_at "ce"; (case k9 => exact BindsTo.of_eq rfl); (case c5 => decide); (case kB => exact locs rfl); (case c2 => exact rfl); (case c3 => exact rfl); (case c4 => exact rfl); k_whole; intro g' L' h' FG' F' N' B' X' T'; (try dsimp only); (try k_lift B'); (try k_fold)))
  (k_with "1 ce" => ((case kA => first | assumption | exact rfl); (case kF => first | assumption | exact rfl); (case kK => first | assumption | exact rfl); (case k1 => k_asm); (case k2 => k_asm); (case k3 => k_asm); (case k4 => k_asm); (case k5 => k_asm); (case k6 => k_is); (case k7 => k_is); (case k8 => first | assumption | ktr_room)))
  (k_with "1 eval Name" => (k_here; k_dflt (refine' nameX_L ?F ?v ?_ ?a ?b ?c; (case F => k_asm); (case a => rfl); (case b => rfl); (case v => first | exact @rfl (Option Value) (some _) | assumption); (case c => decide); k_whole)))
  trivial
noncomputable abbrev CallsC (w : World) (mean : Mean) (mg mb : Nm) (d : Nat) (news : Led) (t : Sem Value) (R : Heap → Addr → Nm → Shared → (Value → Shared → Prop) → Prop) : Prop :=
  ∀ (dp un : Nat) (gd : Option (List Code)) (cn : Str) (cs : Scope) (a : Addr) (ccd : Value) (cl : List (Str × Addr)) (outer : List Env) (A₀ : Around) (base h₀ : Heap) (L : Addr) (m : Str → Option Value) (s : Shared) (Q E : Value → Shared → Prop),
    Below A₀ base outer h₀ → Fr h₀ L s.heap m → (KH w).In h₀ → News h₀ L s.heap news → Top VW LW mean mg mb h₀ → cs.kind = .function →
    dp + d < recursionLimit → un + 8 * d < cLine → R h₀ L m s Q →
      wpC (model prg w) (ktrTop dp un gd cn cs L a ccd cl outer) t Q E s
noncomputable def swA (d : Array UInt8) : Nat → Array UInt8
  | 0 => Array.replicate 9 0
  | j + 1 => (swA d j).setIfInBounds (8 - j) (d.getD j 0)
theorem swA_size (d : Array UInt8) : ∀ j, (swA d j).size = 9
  | 0 => rfl
  | j + 1 => by
    show ((swA d j).setIfInBounds (8 - j) (d.getD j 0)).size = 9
    rw [Array.size_setIfInBounds, swA_size d j]
noncomputable def SwO (m₀ : Nm) (a : Addr) (news : Led) (d : Array UInt8) (i : Nat) (m : Nm) (nw : Led) : Prop :=
  (∀ z, ([Str.ofString "i", Str.ofString "j"] : List Str).contains z = false → m z = m₀ z) ∧ nw = (a, baObj (if i = 0 then Array.replicate 9 0 else swA d 9)) :: news
noncomputable def SwI (m₀ : Nm) (a : Addr) (news : Led) (d : Array UInt8) (j : Nat) (m : Nm) (nw : Led) : Prop :=
  (∀ z, ([Str.ofString "j"] : List Str).contains z = false → m z = m₀ z) ∧ nw = (a, baObj (swA d j)) :: news
theorem frame_but1 {x : Str} {m₀ m₁ : Nm} {v : Option Value} {h₀ h : Heap} {L : Addr} (hf : ∀ z, ([x] : List Str).contains z = false → m₁ z = m₀ z) (F : Fr h₀ L h (fun y => if y = x then v else m₁ y)) : Fr h₀ L h (fun y => if y = x then v else m₀ y) :=
  frame_as F fun z => by
    by_cases h1 : z = x
    · simp only [h1, if_true]
    · simp only [h1, if_false]
      exact (hf z (by simp [h1])).symm
theorem frame_end1 {x : Str} {m₀ m₁ : Nm} {h₀ h : Heap} {L : Addr} (hf : ∀ z, ([x] : List Str).contains z = false → m₁ z = m₀ z) (F : Fr h₀ L h m₁) : Fr h₀ L h (fun y => if y = x then m₁ y else m₀ y) :=
  frame_as F fun z => by
    by_cases h1 : z = x
    · simp only [h1, if_true]
    · simp only [h1, if_false]
      exact (hf z (by simp [h1])).symm
theorem frame_end2 {x x' : Str} {m₀ m₁ : Nm} {h₀ h : Heap} {L : Addr} (hf : ∀ z, ([x, x'] : List Str).contains z = false → m₁ z = m₀ z) (F : Fr h₀ L h m₁) : Fr h₀ L h (fun y => if y = x then m₁ y else if y = x' then m₁ y else m₀ y) :=
  frame_as F fun z => by
    by_cases h1 : z = x
    · simp only [h1, if_true]
    · by_cases h2 : z = x'
      · simp only [h2, if_true]
        split <;> rfl
      · simp only [h1, h2, if_false]
        exact (hf z (by simp [h1, h2])).symm
theorem frame_but2 {x x' : Str} {m₀ m₁ : Nm} {v : Option Value} {h₀ h : Heap} {L : Addr} (hf : ∀ z, ([x, x'] : List Str).contains z = false → m₁ z = m₀ z) (F : Fr h₀ L h (fun y => if y = x then v else m₁ y)) :
    Fr h₀ L h (fun y => if y = x then v else if y = x' then m₁ y else m₀ y) :=
  frame_as F fun z => by
    by_cases h1 : z = x
    · simp only [h1, if_true]
    · by_cases h2 : z = x'
      · simp only [h2, if_true]
      · simp only [h1, h2, if_false]
        exact (hf z (by simp [h1, h2])).symm
theorem sw_step {d : Array UInt8} {l : List UInt8} (hl : d = l.toArray) {j : Nat} {k k' : Int} (hk : k = j) (hk' : k' = 8 - j) (hj : j < 9) : (swA d j).setIfInBounds k'.toNat ((((l.getD k.toNat 0).toNat : Nat) : Int).toNat.toUInt8) = swA d (j + 1) := by
  subst hl hk hk'
  show _ = (swA l.toArray j).setIfInBounds (8 - j) (l.toArray.getD j 0)
  have e1 : ((8 : Int) - (j : Int)).toNat = 8 - j := by lia
  rw [e1]
  congr 1
  simp
theorem sw_nine (b0 b1 b2 b3 b4 b5 b6 b7 b8 : UInt8) : swA #[b0, b1, b2, b3, b4, b5, b6, b7, b8] 9 = #[b8, b7, b6, b5, b4, b3, b2, b1, b0] := by
  simp [swA, Array.replicate]
namespace swap_call_z
noncomputable def zS (w : World) (mean : Mean) (mg : Nm) (mb : Nm) (news : Led) (b0 : UInt8) (b1 : UInt8) (b2 : UInt8) (b3 : UInt8) (b4 : UInt8) (b5 : UInt8) (b6 : UInt8) (b7 : UInt8) (b8 : UInt8) (t : Tok) (t2 : Tok) : Prop := CallsC w mean mg mb 12 news (call (.ref 163) [Value.bytes #[b0, b1, b2, b3, b4, b5, b6, b7, b8] t, .int 9 t2])
      (Ret news (fun t => .bytes #[b8, b7, b6, b5, b4, b3, b2, b1, b0] t))
noncomputable abbrev zT : Type := (World) × (Mean) × (Nm) × (Nm) × (Led) × (UInt8) × (UInt8) × (UInt8) × (UInt8) × (UInt8) × (UInt8) × (UInt8) × (UInt8) × (UInt8) × (Tok) × (Tok)
noncomputable def zP (x : zT) : Prop := zS x.1 x.2.1 x.2.2.1 x.2.2.2.1 x.2.2.2.2.1 x.2.2.2.2.2.1 x.2.2.2.2.2.2.1 x.2.2.2.2.2.2.2.1 x.2.2.2.2.2.2.2.2.1 x.2.2.2.2.2.2.2.2.2.1 x.2.2.2.2.2.2.2.2.2.2.1 x.2.2.2.2.2.2.2.2.2.2.2.1 x.2.2.2.2.2.2.2.2.2.2.2.2.1 x.2.2.2.2.2.2.2.2.2.2.2.2.2.1 x.2.2.2.2.2.2.2.2.2.2.2.2.2.2.1 x.2.2.2.2.2.2.2.2.2.2.2.2.2.2.2
theorem zne : Nonempty zT := ⟨(dW, fun _ => none, fun _ => none, fun _ => none, [], 0, 0, 0, 0, 0, 0, 0, 0, 0, (0 : Nat), (0 : Nat))⟩
noncomputable def zc : zT := @Classical.epsilon _ zne fun x => ¬ zP x
@[irreducible] noncomputable def w : World := zc.1
@[irreducible] noncomputable def mean : Mean := zc.2.1
@[irreducible] noncomputable def mg : Nm := zc.2.2.1
@[irreducible] noncomputable def mb : Nm := zc.2.2.2.1
@[irreducible] noncomputable def news : Led := zc.2.2.2.2.1
@[irreducible] noncomputable def b0 : UInt8 := zc.2.2.2.2.2.1
@[irreducible] noncomputable def b1 : UInt8 := zc.2.2.2.2.2.2.1
@[irreducible] noncomputable def b2 : UInt8 := zc.2.2.2.2.2.2.2.1
@[irreducible] noncomputable def b3 : UInt8 := zc.2.2.2.2.2.2.2.2.1
@[irreducible] noncomputable def b4 : UInt8 := zc.2.2.2.2.2.2.2.2.2.1
@[irreducible] noncomputable def b5 : UInt8 := zc.2.2.2.2.2.2.2.2.2.2.1
@[irreducible] noncomputable def b6 : UInt8 := zc.2.2.2.2.2.2.2.2.2.2.2.1
@[irreducible] noncomputable def b7 : UInt8 := zc.2.2.2.2.2.2.2.2.2.2.2.2.1
@[irreducible] noncomputable def b8 : UInt8 := zc.2.2.2.2.2.2.2.2.2.2.2.2.2.1
@[irreducible] noncomputable def t : Tok := zc.2.2.2.2.2.2.2.2.2.2.2.2.2.2.1
@[irreducible] noncomputable def t2 : Tok := zc.2.2.2.2.2.2.2.2.2.2.2.2.2.2.2
theorem zmain : zS w mean mg mb news b0 b1 b2 b3 b4 b5 b6 b7 b8 t t2 := by
  unfold zS
  dsimp only [CallsC, Ret, KH, VW, prg]
  k_fill
  intros; rename_i hret
  refine wpC.call ?_
  walk_at "my enterClean"
  refine cN_execs_cons (cN_Assign_Name (cN_Call ?_))
  k_steps
  refine cN_callType (.of ?_)
  rw [if_neg Bool.false_ne_true]
  k_steps
  refine ba_call (n := 9) (by decide) (by k_asm) (by k_asm) ?_
  rename Fr _ _ _ _ => Fo
  rename News _ _ _ _ => No
  intro a9 h9 F9 N9 l9
  clear Fo No
  k_steps
  refine .of ?_
  (k_with "pyIter ref" => refine hold ?_)
  k_steps
  refine rangeS_inv (n := 1) (SwO _ a9 news #[b0, b1, b2, b3, b4, b5, b6, b7, b8]) rfl (by assumption) (by show Builtin.Range.small 0 9 9 = true; decide) (by show Builtin.Range.rangeSize 0 9 9 = 1; decide) (by k_asm) (by k_asm) ⟨fun _ _ => rfl, rfl⟩ ?_ ?_
  · intro I o i t m₁ nw h tk hi hJ off F N
    obtain rfl : i = 0 := by lia
    obtain ⟨hfr, rfl⟩ := hJ
    have F2 := frame_but2 hfr F
    clear F
    rw [if_pos rfl] at N
    rename Fr _ _ _ (fun y => if y = Str.ofString "swapped_data" then _ else _) => Fold
    clear Fold
    k_steps
    refine range_inv (n := 9) (SwI _ a9 ((I, o) :: news) #[b0, b1, b2, b3, b4, b5, b6, b7, b8]) rfl (by assumption) (by decide) (by decide) (by k_asm) (newsSwap (by k_asm)) ⟨fun _ _ => rfl, rfl⟩ ?_ ?_
    · intro I' j t' m₂ nw' h' tk' hj hJ' off' F' N'
      obtain ⟨hfr', rfl⟩ := hJ'
      have F3 := frame_but1 hfr' F'
      clear F'
      k_steps
      refine ba_store (by k_asm) (newsSwap (by k_asm)) (ap_cons (fun e => off' _ (.head _) e.symm) (ap_cons (fun e => off _ (.head _) e.symm) fun p hp e => Nat.lt_irrefl _ (e ▸ l9 p hp))) (by lia) (by rw [swA_size]; lia) (by rw [swA_size]; decide) (by lia) (by have := UInt8.toNat_lt ([b0, b1, b2, b3, b4, b5, b6, b7, b8].getD (0 + (0 : Nat) * 9 + (0 + (j : Int))).toNat 0); lia) ?_
      rename News _ _ _ _ => Nold
      clear Nold
      intro h5 F5 N5
      rw [sw_step (d := #[b0, b1, b2, b3, b4, b5, b6, b7, b8]) rfl (by lia) (by lia) hj] at N5
      (k_with "UnrPost" => refine hold ?_)
      k_steps
      exact UnrPost.mk (by k_asm) N5 ((a9, baObj (swA #[b0, b1, b2, b3, b4, b5, b6, b7, b8] (j + 1))) :: (I, o) :: news) (.tail _ (.head _))
        (fun q hq => (List.mem_cons.mp hq).elim (fun e => e ▸ .head _) fun hq => .tail _ (.tail _ hq)) (ap_cons (off' _ (.head _)) fun q hq => off' q (.tail _ hq)) ⟨by walk_at "my rest", rfl⟩
    · intro m₂ nw' h' tk' hJ' F' N'
      obtain ⟨hfr', rfl⟩ := hJ'
      have F3 := frame_end1 hfr' F'
      clear F'
      (k_with "UnrPost" => refine hold ?_)
      k_steps
      exact UnrPost.mk (by k_asm) N' ((a9, baObj (swA #[b0, b1, b2, b3, b4, b5, b6, b7, b8] 9)) :: news) (.tail _ (.head _))
        (fun q hq => (List.mem_cons.mp hq).elim (fun e => e ▸ .head _) fun hq => .tail _ (.tail _ hq)) (ap_cons (off _ (.head _)) fun q hq => off q (.tail _ hq)) ⟨by walk_at "my rest", by rw [if_neg (by decide)]⟩
  · intro m₁ nw h tk hJ F N
    obtain ⟨hfr, rfl⟩ := hJ
    have F2 := frame_end2 hfr F
    clear F
    rw [if_neg (by decide)] at N
    rename Fr _ _ _ (fun y => if y = Str.ofString "swapped_data" then _ else _) => Fold
    clear Fold
    (k_with "call type:bytes cons nil" => refine hold ?_)
    k_steps
    have hX : ∃ X, swA #[b0, b1, b2, b3, b4, b5, b6, b7, b8] 9 = X ∧ X = #[b8, b7, b6, b5, b4, b3, b2, b1, b0] := ⟨_, rfl, sw_nine _ _ _ _ _ _ _ _ _⟩
    obtain ⟨X, hX, rfl⟩ := hX
    rw [hX] at N
    refine ba_to_bytes (N _ (.head _)).1 (by show (9 : Nat) ≤ 1000; decide) ?_
    k_steps
    exact hret _ _ _ (by assumption) (newsSub (by assumption) fun p hp => .tail _ hp)
end swap_call_z
theorem swap_call (w : World) (mean : Mean) (mg mb : Nm) (news : Led) (b0 b1 b2 b3 b4 b5 b6 b7 b8 : UInt8) (t t2 : Tok) : CallsC w mean mg mb 12 news (call (.ref 163) [Value.bytes #[b0, b1, b2, b3, b4, b5, b6, b7, b8] t, .int 9 t2])
      (Ret news (fun t => .bytes #[b8, b7, b6, b5, b4, b3, b2, b1, b0] t)) := by
  exact @clz _ swap_call_z.zP swap_call_z.zne (by with_unfolding_all exact swap_call_z.zmain) (w, mean, mg, mb, news, b0, b1, b2, b3, b4, b5, b6, b7, b8, t, t2)

theorem toNat_split {a b c : Int} (h1 : b ≤ a) (h2 : 0 ≤ b + c) : (a + c).toNat = (a - b).toNat + (b + c).toNat := by
  rw [← Int.toNat_add (Int.sub_nonneg_of_le h1) h2]
  congr 1
  rw [← Int.add_assoc, Int.sub_add_cancel]
theorem ge0 {a c : Int} (h : -c ≤ a) : 0 ≤ a + c := by lia
theorem near_d {W a b c d : Nat} (hdm : a + c = W) (hm : c < d) (hn : (W - b) + (b - W) ≤ (W - a) + (a - W)) : W ≤ b + d ∧ b ≤ W + d := by
  have e1 : W - a = c := by rw [← hdm]; exact Nat.add_sub_cancel_left _ _
  have e2 : a - W = 0 := Nat.sub_eq_zero_of_le (hdm ▸ Nat.le_add_right a c)
  rw [e1, e2, Nat.add_zero] at hn
  have h1 := Nat.sub_le_iff_le_add.mp (Nat.le_trans (Nat.le_add_right _ _) hn)
  have h2 := Nat.sub_le_iff_le_add.mp (Nat.le_trans (Nat.le_add_left _ _) hn)
  have hcd := Nat.le_of_lt hm
  exact ⟨Nat.le_trans h1 (Nat.add_comm b d ▸ Nat.add_le_add_right hcd b), Nat.le_trans h2 (Nat.add_comm W d ▸ Nat.add_le_add_right hcd W)⟩
theorem near_0 {W b : Nat} (hn : (W - b) + (b - W) ≤ (W - W) + (W - W)) : b = W := by
  rw [Nat.sub_self] at hn
  have h1 := Nat.le_zero.mp (Nat.le_trans (Nat.le_add_right _ _) hn)
  have h2 := Nat.le_zero.mp (Nat.le_trans (Nat.le_add_left _ _) hn)
  exact Nat.le_antisymm (Nat.le_of_sub_eq_zero h2) (Nat.le_of_sub_eq_zero h1)
open Float64 in
theorem V_repr : ∀ (k n : Nat), n ≤ 2 ^ 53 → ∃ t, V t = n * 2 ^ k
  | 0, n, h => ⟨0 * 2 ^ 52 + n, V_at h (.inr rfl)⟩
  | k + 1, n, h => by
    rcases Nat.lt_or_ge n (2 ^ 52) with h1 | h1
    · obtain ⟨t, ht⟩ := V_repr k (n * 2) (by lia)
      exact ⟨t, by rw [ht, Nat.pow_succ, Nat.mul_comm (2 ^ k) 2, ← Nat.mul_assoc]⟩
    · exact ⟨(k + 1) * 2 ^ 52 + n, V_at h (.inl h1)⟩
noncomputable def FU : Nat := 2 ^ 1036
theorem FU_pos : 0 < FU := Nat.two_pow_pos _
theorem FU_74 : 2 ^ 1074 = FU * 2 ^ 38 := by unfold FU; rw [← Nat.pow_add]
theorem FU_88 : FU * 2 ^ 52 = 2 ^ 1088 := by unfold FU; rw [← Nat.pow_add]
noncomputable def FB : Nat := (2 ^ 54 - 1) * 2 ^ 2045
theorem FU_big : 2 * (FU * 2 ^ 52) < FB := by
  have e : (2 : Nat) ^ 2045 = 2 ^ 1009 * FU := by unfold FU; rw [← Nat.pow_add]
  have h := FU_pos
  have h2 : 0 < (2 : Nat) ^ 1009 := Nat.two_pow_pos _
  unfold FB
  rw [e]
  generalize (2 : Nat) ^ 1009 = q at h2
  generalize FU = u at h
  have h3 : 1 * u ≤ q * u := Nat.mul_le_mul_right _ h2
  generalize q * u = z at h3
  lia
noncomputable def Fi (x : UInt64) : Prop := ∃ a m e, Float64.decode x = .fin a m e
open Float64 in
theorem right_near {r : UInt64} {neg : Bool} {W D : Nat} (h : Right r neg W D) (hD : 0 < D) (hW : W ≤ D * (FU * 2 ^ 52)) :
    Fi r ∧ ∃ v : Nat, val r = sgn neg v ∧ W ≤ D * v + D * FU ∧ D * v ≤ W + D * FU := by
  obtain ⟨t, rfl, hle, hinf, hnear⟩ := h
  have hbig := FU_big
  have hinf : t = infMag ↔ D * FB ≤ 2 * W := hinf
  have hlt : t < infMag := by
    rcases Nat.lt_or_ge t infMag with h1 | h1
    · exact h1
    · exfalso
      have := hinf.mp (Nat.le_antisymm hle h1)
      have h3 : D * (2 * (FU * 2 ^ 52)) < D * FB := Nat.mul_lt_mul_of_pos_left hbig hD
      have e : D * (2 * (FU * 2 ^ 52)) = 2 * (D * (FU * 2 ^ 52)) := by ac_rfl
      rw [e] at h3
      exact Nat.lt_irrefl _ (Nat.lt_of_lt_of_le h3 (Nat.le_trans this (Nat.mul_le_mul_left 2 hW)))
  have hfi : Fi (pack neg t) := by
    obtain ⟨m, e, h, _⟩ := decode_pack neg hlt
    exact ⟨_, _, _, h⟩
  refine ⟨hfi, V t, val_pack neg hlt, ?_⟩
  have hDU : 0 < D * FU := Nat.mul_pos hD FU_pos
  have hq : W / (D * FU) ≤ 2 ^ 53 := by
    have : W / (D * FU) ≤ 2 ^ 52 := by
      rw [Nat.div_le_iff_le_mul hDU]
      have e : D * (FU * 2 ^ 52) = 2 ^ 52 * (D * FU) := by ac_rfl
      rw [e] at hW
      clear hbig hnear e hlt hinf hle
      generalize D * FU = x at *
      lia
    lia
  obtain ⟨t', ht'⟩ := V_repr 1036 _ hq
  have hn := (hnear hlt t').1
  rw [ht', show (2 : Nat) ^ 1036 = FU from rfl] at hn
  have hdm := Nat.div_add_mod W (D * FU)
  have hm := Nat.mod_lt W hDU
  have e : D * (W / (D * FU) * FU) = D * FU * (W / (D * FU)) := by ac_rfl
  rw [e] at hn
  clear hbig hnear hq e hinf hW
  generalize D * FU * (W / (D * FU)) = a at *
  generalize W % (D * FU) = c at *
  generalize D * FU = d at *
  generalize D * V t = b at *
  unfold dist at hn
  exact near_d hdm hm hn
open Float64 in
theorem right_exact {r : UInt64} {neg : Bool} {W D n k : Nat} (h : Right r neg W D) (hD : 0 < D) (hW : W ≤ D * (FU * 2 ^ 52)) (hn : n ≤ 2 ^ 53) (e : W = D * (n * 2 ^ k)) : val r = sgn neg (n * 2 ^ k) := by
  obtain ⟨t, rfl, hle, hinf, hnear⟩ := h
  have hbig := FU_big
  have hinf : t = infMag ↔ D * FB ≤ 2 * W := hinf
  have hlt : t < infMag := by
    rcases Nat.lt_or_ge t infMag with h1 | h1
    · exact h1
    · exfalso
      have := hinf.mp (Nat.le_antisymm hle h1)
      have h3 : D * (2 * (FU * 2 ^ 52)) < D * FB := Nat.mul_lt_mul_of_pos_left hbig hD
      have e : D * (2 * (FU * 2 ^ 52)) = 2 * (D * (FU * 2 ^ 52)) := by ac_rfl
      rw [e] at h3
      exact Nat.lt_irrefl _ (Nat.lt_of_lt_of_le h3 (Nat.le_trans this (Nat.mul_le_mul_left 2 hW)))
  rw [val_pack neg hlt]
  obtain ⟨t', ht'⟩ := V_repr k n hn
  have hn := (hnear hlt t').1
  rw [ht', ← e] at hn
  unfold dist at hn
  have : D * V t = D * (n * 2 ^ k) := by
    rw [← e]
    clear hbig hnear hinf hW
    generalize D * V t = b at *
    exact near_0 hn
  rw [Nat.eq_of_mul_eq_mul_left hD this]
noncomputable def FS : Rat := (FU : Rat) * 274877906944
theorem FU_ratpos : (0 : Rat) < (FU : Rat) := by
  have := FU_pos
  exact_mod_cast this
theorem FS_pos : 0 < FS := Rat.mul_pos FU_ratpos (by decide)
theorem FS_is : ((2 ^ 1074 : Nat) : Rat) = FS := by rw [FU_74, Rat.natCast_mul]; rfl
noncomputable def rv (x : UInt64) : Rat := (Float64.val x : Rat) / FS
noncomputable abbrev eps : Rat := 1 / 274877906944
theorem rat_cancel {b c : Rat} (hb : 0 < b) : c * b * b⁻¹ = c := by
  rw [Rat.mul_assoc, Rat.mul_inv_cancel b (by grind), Rat.mul_one]
theorem rat_div_le {a b c : Rat} (hb : 0 < b) (h : a ≤ c * b) : a / b ≤ c := by
  have h1 : 0 ≤ b⁻¹ := Rat.le_of_lt (Rat.inv_pos.mpr hb)
  have := Rat.mul_le_mul_of_nonneg_right h h1
  rw [rat_cancel hb] at this
  rwa [Rat.div_def]
theorem rat_le_div {a b c : Rat} (hb : 0 < b) (h : c * b ≤ a) : c ≤ a / b := by
  have h1 : 0 ≤ b⁻¹ := Rat.le_of_lt (Rat.inv_pos.mpr hb)
  have := Rat.mul_le_mul_of_nonneg_right h h1
  rw [rat_cancel hb] at this
  rwa [Rat.div_def]

open Float64 in
theorem signed_near {neg : Bool} {W v D : Nat} (h1 : W ≤ D * v + D * FU) (h2 : D * v ≤ W + D * FU) : sgn neg W - ((D * FU : Nat) : Int) ≤ (D : Int) * sgn neg v ∧ (D : Int) * sgn neg v ≤ sgn neg W + ((D * FU : Nat) : Int) := by
  generalize D * FU = u at *
  have e : (D : Int) * sgn neg v = sgn neg (D * v) := by
    unfold sgn
    cases neg
    · simp
    · simp [Int.mul_neg]
  rw [e]
  generalize D * v = q at *
  unfold sgn
  cases neg
  · simp only [Bool.false_eq_true, if_false]; lia
  · simp only [if_true]; lia
theorem near_rat {r : UInt64} {N : Int} {D : Nat} {q : Rat} (hD : 0 < D) (h1 : N - ((D * FU : Nat) : Int) ≤ (D : Int) * Float64.val r) (h2 : (D : Int) * Float64.val r ≤ N + ((D * FU : Nat) : Int)) (hq : (N : Rat) = q * ((D : Rat) * FS)) :
    q - eps ≤ rv r ∧ rv r ≤ q + eps := by
  have hDr : (0 : Rat) < (D : Rat) := by exact_mod_cast hD
  have hU := FU_ratpos
  have a1 : (N : Rat) - (D : Rat) * (FU : Rat) ≤ (D : Rat) * (Float64.val r : Rat) := by
    have := Rat.intCast_le_intCast.mpr h1
    rw [Rat.intCast_sub, Rat.intCast_mul, Rat.intCast_natCast, Rat.intCast_natCast, Rat.natCast_mul] at this
    exact this
  have a2 : (D : Rat) * (Float64.val r : Rat) ≤ (N : Rat) + (D : Rat) * (FU : Rat) := by
    have := Rat.intCast_le_intCast.mpr h2
    rw [Rat.intCast_add, Rat.intCast_mul, Rat.intCast_natCast, Rat.intCast_natCast, Rat.natCast_mul] at this
    exact this
  have hS := FS_pos
  have eS : FS = (FU : Rat) * 274877906944 := rfl
  have hDS : 0 < (D : Rat) := hDr
  -- cancel D
  have key : ∀ {p z : Rat}, (D : Rat) * p ≤ (D : Rat) * z → p ≤ z := fun {p z} h => by
    have := Rat.mul_le_mul_of_nonneg_left h (Rat.le_of_lt (Rat.inv_pos.mpr hDr))
    rw [← Rat.mul_assoc, ← Rat.mul_assoc, Rat.inv_mul_cancel _ (by grind), Rat.one_mul, Rat.one_mul] at this
    exact this
  have b1 : q * FS - (FU : Rat) ≤ (Float64.val r : Rat) := key (by rw [hq] at a1; grind)
  have b2 : (Float64.val r : Rat) ≤ q * FS + (FU : Rat) := key (by rw [hq] at a2; grind)
  have e3 : (FU : Rat) = eps * FS := by rw [eS]; grind
  rw [e3] at b1 b2
  constructor
  · exact rat_le_div hS (by grind)
  · exact rat_div_le hS (by grind)
theorem val_rv (x : UInt64) : (Float64.val x : Rat) = rv x * FS := by
  unfold rv
  have := FS_pos
  exact (Rat.div_mul_cancel (by grind)).symm
theorem zero_val (b : Bool) : Fi (Float64.zero b) ∧ Float64.val (Float64.zero b) = 0 := by
  have h0 : 0 < Float64.infMag := by decide
  constructor
  · obtain ⟨m, e, h, _⟩ := Float64.decode_pack b h0
    exact ⟨_, _, _, h⟩
  · rw [show Float64.zero b = Float64.pack b 0 from rfl, Float64.val_pack b h0]
    cases b <;> decide
theorem abs_le_of {s : Int} {k : Nat} (h1 : -(k : Int) ≤ s) (h2 : s ≤ k) : s.natAbs ≤ k := by lia
noncomputable abbrev Big : Rat := 16384
theorem big_int {s : Int} {q : Rat} (hq : (s : Rat) = q * FS) (h1 : -Big ≤ q) (h2 : q ≤ Big) : s.natAbs ≤ FU * 2 ^ 52 := by
  have hS := FS_pos
  have eS : FS = (FU : Rat) * 274877906944 := rfl
  have p1 : q * FS ≤ Big * FS := Rat.mul_le_mul_of_nonneg_right h2 (Rat.le_of_lt hS)
  have p2 : -Big * FS ≤ q * FS := Rat.mul_le_mul_of_nonneg_right h1 (Rat.le_of_lt hS)
  have e : Big * FS = ((FU * 2 ^ 52 : Nat) : Rat) := by
    rw [Rat.natCast_mul, eS, show ((2 ^ 52 : Nat) : Rat) = 4503599627370496 from rfl]
    grind
  have e' : -Big * FS = ((-((FU * 2 ^ 52 : Nat) : Int) : Int) : Rat) := by
    rw [Rat.intCast_neg, Rat.intCast_natCast, ← e]; grind
  rw [← hq, e] at p1
  rw [← hq, e'] at p2
  have p1' : s ≤ ((FU * 2 ^ 52 : Nat) : Int) := by
    rw [← Rat.intCast_natCast] at p1
    exact Rat.intCast_le_intCast.mp p1
  have p2' := Rat.intCast_le_intCast.mp p2
  exact abs_le_of p2' p1'
theorem eps_pos : (0 : Rat) ≤ eps := by decide +kernel
open Float64 in
theorem add_near {x y : UInt64} (hx : Fi x) (hy : Fi y) (h1 : -Big ≤ rv x + rv y) (h2 : rv x + rv y ≤ Big) : Fi (add x y) ∧ rv x + rv y - eps ≤ rv (add x y) ∧ rv (add x y) ≤ rv x + rv y + eps := by
  obtain ⟨a, m, e, dx⟩ := hx
  obtain ⟨b, k, f, dy⟩ := hy
  have hr := add_right dx dy
  have hq : ((val x + val y : Int) : Rat) = (rv x + rv y) * FS := by
    rw [Rat.intCast_add, val_rv, val_rv]; grind
  by_cases h0 : val x + val y = 0
  · rw [hr.1 h0]
    have hz := zero_val (a && b)
    refine ⟨hz.1, ?_⟩
    have : rv x + rv y = 0 := by
      rw [h0] at hq
      have hS := FS_pos
      have : (rv x + rv y) * FS = 0 := hq.symm
      rcases Rat.mul_eq_zero.mp this with h | h
      · exact h
      · grind
    have e2 : rv (zero (a && b)) = 0 := by unfold rv; rw [hz.2, Rat.div_def]; exact Rat.zero_mul _
    rw [this, e2]
    have := eps_pos
    grind
  · have R := hr.2 h0
    obtain ⟨hf, v, ev, b1, b2⟩ := right_near R (by decide) (by rw [Nat.one_mul]; exact big_int hq h1 h2)
    refine ⟨hf, ?_⟩
    have s := signed_near (neg := decide (val x + val y < 0)) b1 b2
    rw [← ev] at s
    have e3 : sgn (decide (val x + val y < 0)) (val x + val y).natAbs = val x + val y := by
      unfold sgn
      by_cases h : val x + val y < 0
      · simp only [h, decide_true, if_true]; lia
      · simp only [h, decide_false, Bool.false_eq_true, if_false]; lia
    rw [e3] at s
    refine near_rat (N := val x + val y) (D := 1) (by decide) s.1 s.2 ?_
    rw [hq]
    rw [show ((1 : Nat) : Rat) = 1 from rfl, Rat.one_mul]
theorem fi_nan {y : UInt64} (h : Fi y) : Fi (Float64.neg y) := by
  obtain ⟨b, k, f, dy⟩ := h
  exact ⟨_, _, _, Float64.neg_decode dy⟩
theorem rv_neg {y : UInt64} (h : Fi y) : rv (Float64.neg y) = -rv y := by
  obtain ⟨b, k, f, dy⟩ := h
  unfold rv
  rw [Float64.neg_val dy, Rat.intCast_neg, Rat.div_def, Rat.div_def, Rat.neg_mul]
open Float64 in
theorem sub_near {x y : UInt64} (hx : Fi x) (hy : Fi y) (h1 : -Big ≤ rv x - rv y) (h2 : rv x - rv y ≤ Big) : Fi (Float64.sub x y) ∧ rv x - rv y - eps ≤ rv (Float64.sub x y) ∧ rv (Float64.sub x y) ≤ rv x - rv y + eps := by
  have h := add_near hx (fi_nan hy)
  rw [rv_neg hy] at h
  have := h (by grind) (by grind)
  have e : Float64.sub x y = Float64.add x (Float64.neg y) := by with_unfolding_all rfl
  rw [e]
  refine ⟨this.1, ?_⟩
  grind
open Float64 in
theorem sgn_prod (a b : Bool) (p q : Nat) : sgn a p * sgn b q = sgn (a != b) (p * q) := by
  unfold sgn
  cases a <;> cases b <;> simp [Int.mul_neg, Int.neg_mul]
open Float64 in
theorem val_sgn {x : UInt64} {a : Bool} {m : Nat} {e : Int} (h : decode x = .fin a m e) : val x = sgn a (val x).natAbs := by rw [val_natAbs h, ← val_eq h]
theorem big_nat {N : Int} {W : Nat} {D : Nat} {q : Rat} (hW : W = N.natAbs) (hD : 0 < D) (hq : (N : Rat) = q * ((D : Rat) * FS)) (h1 : -Big ≤ q) (h2 : q ≤ Big) : W ≤ D * (FU * 2 ^ 52) := by
  have hDr : (0 : Rat) < (D : Rat) := by exact_mod_cast hD
  have hS := FS_pos
  have hDS : 0 < (D : Rat) * FS := Rat.mul_pos hDr hS
  have eS : FS = (FU : Rat) * 274877906944 := rfl
  have p1 : q * ((D : Rat) * FS) ≤ Big * ((D : Rat) * FS) := Rat.mul_le_mul_of_nonneg_right h2 (Rat.le_of_lt hDS)
  have p2 : -Big * ((D : Rat) * FS) ≤ q * ((D : Rat) * FS) := Rat.mul_le_mul_of_nonneg_right h1 (Rat.le_of_lt hDS)
  have e : Big * ((D : Rat) * FS) = ((D * (FU * 2 ^ 52) : Nat) : Rat) := by
    rw [Rat.natCast_mul, Rat.natCast_mul, eS, show ((2 ^ 52 : Nat) : Rat) = 4503599627370496 from rfl]
    grind
  have e' : -Big * ((D : Rat) * FS) = ((-((D * (FU * 2 ^ 52) : Nat) : Int) : Int) : Rat) := by
    rw [Rat.intCast_neg, Rat.intCast_natCast, ← e]; grind
  rw [← hq, e] at p1
  rw [← hq, e'] at p2
  have p1' : N ≤ ((D * (FU * 2 ^ 52) : Nat) : Int) := by
    rw [← Rat.intCast_natCast] at p1
    exact Rat.intCast_le_intCast.mp p1
  have p2' := Rat.intCast_le_intCast.mp p2
  rw [hW]
  exact abs_le_of p2' p1'
open Float64 in
theorem mul_near {x y : UInt64} (hx : Fi x) (hy : Fi y) (h1 : -Big ≤ rv x * rv y) (h2 : rv x * rv y ≤ Big) : Fi (mul x y) ∧ rv x * rv y - eps ≤ rv (mul x y) ∧ rv (mul x y) ≤ rv x * rv y + eps := by
  obtain ⟨a, m, e, dx⟩ := hx
  obtain ⟨b, k, f, dy⟩ := hy
  have R := mul_right dx dy
  have hN : sgn (a != b) ((val x).natAbs * (val y).natAbs) = val x * val y := by rw [← sgn_prod, ← val_sgn dx, ← val_sgn dy]
  have hq : ((val x * val y : Int) : Rat) = (rv x * rv y) * (((2 ^ 1074 : Nat) : Rat) * FS) := by
    rw [Rat.intCast_mul, val_rv, val_rv, FS_is]; grind
  obtain ⟨hf, v, ev, b1, b2⟩ := right_near R (Nat.two_pow_pos _) (big_nat (N := val x * val y) (by rw [Int.natAbs_mul]) (Nat.two_pow_pos _) hq h1 h2)
  refine ⟨hf, ?_⟩
  have s := signed_near (neg := a != b) b1 b2
  rw [← ev, hN] at s
  exact near_rat (N := val x * val y) (Nat.two_pow_pos _) s.1 s.2 hq
open Float64 in
theorem div_near {x y : UInt64} {q : Rat} (hx : Fi x) (hy : Fi y) (h0 : val y ≠ 0) (hq : rv x = q * rv y) (h1 : -Big ≤ q) (h2 : q ≤ Big) : Fi (div x y) ∧ q - eps ≤ rv (div x y) ∧ rv (div x y) ≤ q + eps := by
  obtain ⟨a, m, e, dx⟩ := hx
  obtain ⟨b, k, f, dy⟩ := hy
  have hk : k ≠ 0 := by
    rintro rfl
    apply h0
    rw [val_eq dy, Nat.zero_mul]
    cases b <;> rfl
  have R := div_right dx dy hk
  have hD : 0 < (val y).natAbs := by lia
  have hN : sgn (a != b) ((val x).natAbs * 2 ^ 1074) = val x * sgn b (2 ^ 1074) := by rw [← sgn_prod, ← val_sgn dx]
  have hb : ∀ z : Nat, ((sgn b z : Int) : Rat) = (z : Rat) * ((sgn b 1 : Int) : Rat) := by
    intro z
    cases b
    · show ((z : Int) : Rat) = (z : Rat) * ((1 : Int) : Rat); rw [Rat.intCast_natCast]; grind
    · show ((-(z : Int) : Int) : Rat) = (z : Rat) * ((-(1 : Int) : Int) : Rat); rw [Rat.intCast_neg, Rat.intCast_natCast]; grind
  have hyy : (val y : Rat) = ((val y).natAbs : Rat) * ((sgn b 1 : Int) : Rat) := by
    conv => lhs; rw [val_sgn dy]
    exact hb _
  have hsq : ((sgn b 1 : Int) : Rat) * ((sgn b 1 : Int) : Rat) = 1 := by cases b <;> decide +kernel
  have hS := FS_pos
  have hvx : (val x : Rat) = q * (val y : Rat) := by rw [val_rv x, hq, val_rv y]; grind
  have hq' : ((val x * sgn b (2 ^ 1074) : Int) : Rat) = q * (((val y).natAbs : Rat) * FS) := by
    rw [Rat.intCast_mul, hb, FS_is, hvx, hyy]
    have : q * (((val y).natAbs : Rat) * ((sgn b 1 : Int) : Rat)) * (FS * ((sgn b 1 : Int) : Rat)) = q * (((val y).natAbs : Rat) * FS) * (((sgn b 1 : Int) : Rat) * ((sgn b 1 : Int) : Rat)) := by grind
    rw [this, hsq, Rat.mul_one]
  obtain ⟨hf, v, ev, b1, b2⟩ := right_near R hD (big_nat (N := val x * sgn b (2 ^ 1074)) (by rw [Int.natAbs_mul, sgn_natAbs]) hD hq' h1 h2)
  refine ⟨hf, ?_⟩
  have s := signed_near (neg := a != b) b1 b2
  rw [← ev, hN] at s
  exact near_rat (N := val x * sgn b (2 ^ 1074)) hD s.1 s.2 hq'

open Float64 in
theorem floor_pos {m n : Nat} {e : Int} (he : -1074 ≤ e) (h1 : n * 2 ^ 1074 ≤ m * 2 ^ (e + 1074).toNat) (h2 : m * 2 ^ (e + 1074).toNat < (n + 1) * 2 ^ 1074) : floorOf false m e = n := by
  unfold floorOf
  by_cases h0 : e ≥ 0
  · rw [if_pos h0]
    have e1 : (e + 1074).toNat = e.toNat + 1074 := Int.toNat_add h0 (by decide)
    rw [e1, Nat.pow_add, ← Nat.mul_assoc] at h1 h2
    have hC : 0 < (2 : Nat) ^ 1074 := Nat.two_pow_pos _
    have a := Nat.le_of_mul_le_mul_right h1 hC
    have b := Nat.lt_of_mul_lt_mul_right h2
    have c : m * 2 ^ e.toNat = n := by lia
    show (m : Int) * 2 ^ e.toNat = n
    rw [← c]
    push_cast
    rfl
  · rw [if_neg h0]
    generalize hk : (-e).toNat = k
    have ek : ((k : Nat) : Int) = -e := by rw [← hk]; exact Int.toNat_of_nonneg (Int.neg_nonneg_of_nonpos (Int.le_of_lt (Int.not_le.mp h0)))
    have hk2 : k ≤ 1074 := Int.ofNat_le.mp (by rw [ek]; exact Int.neg_le_of_neg_le he)
    have e1 : (e + 1074).toNat = 1074 - k := by
      rw [← Int.toNat_sub, ek, Int.sub_neg, Int.add_comm]
      rfl
    have e2 : (2 : Nat) ^ 1074 = 2 ^ k * 2 ^ (1074 - k) := by rw [← Nat.pow_add]; congr 1; exact (Nat.add_sub_of_le hk2).symm
    rw [e1, e2, ← Nat.mul_assoc] at h1
    rw [e1, e2, ← Nat.mul_assoc] at h2
    have hC : 0 < (2 : Nat) ^ (1074 - k) := Nat.two_pow_pos _
    have a := Nat.le_of_mul_le_mul_right h1 hC
    have b := Nat.lt_of_mul_lt_mul_right h2
    show (m : Int).fdiv (2 ^ k) = n
    rw [Int.fdiv_eq_ediv_of_nonneg _ (Int.le_of_lt (Int.pow_pos (by decide)))]
    have c : m / 2 ^ k = n := Nat.div_eq_of_lt_le a b
    rw [← c]
    push_cast
    rfl
open Float64 in
theorem trunc_near {x : UInt64} {a : Bool} {m : Nat} {e : Int} {n : Nat} (h : decode x = .fin a m e) (h1 : ((n * 2 ^ 1074 : Nat) : Int) ≤ val x) (h2 : val x < (((n + 1) * 2 ^ 1074 : Nat) : Int)) : truncOf a m e = n := by
  have he := decode_ge h
  have hv := val_eq h
  have hC : 0 < (2 : Nat) ^ 1074 := Nat.two_pow_pos _
  unfold truncOf
  cases a with
  | false =>
    have hW : val x = ((m * 2 ^ (e + 1074).toNat : Nat) : Int) := hv
    rw [hW] at h1 h2
    exact floor_pos he (by exact_mod_cast h1) (by exact_mod_cast h2)
  | true =>
    have hW : val x = -((m * 2 ^ (e + 1074).toNat : Nat) : Int) := hv
    rw [hW] at h1 h2
    have hP : 0 < (2 : Nat) ^ (e + 1074).toNat := Nat.two_pow_pos _
    have z1 : m * 2 ^ (e + 1074).toNat = 0 := by
      generalize m * 2 ^ (e + 1074).toNat = W at *
      generalize n * 2 ^ 1074 = N at *
      lia
    have z2 : n * 2 ^ 1074 = 0 := by
      rw [z1] at h1
      generalize n * 2 ^ 1074 = N at *
      lia
    have hm : m = 0 := by
      rcases Nat.mul_eq_zero.mp z1 with h | h
      · exact h
      · lia
    have hn : n = 0 := by
      rcases Nat.mul_eq_zero.mp z2 with h | h
      · exact h
      · lia
    subst hm hn
    simp [ceilOf, floorOf, sgn]
theorem trunc_rv {x : UInt64} {n : Nat} (hx : Fi x) (h1 : (n : Rat) ≤ rv x) (h2 : rv x < (n : Rat) + 1) : ∃ a m e, Float64.decode x = .fin a m e ∧ Float64.truncOf a m e = n := by
  obtain ⟨a, m, e, h⟩ := hx
  have hv := val_rv x
  have hS := FS_pos
  have e1 : ((2 ^ 1074 : Nat) : Rat) = FS := FS_is
  refine ⟨a, m, e, h, trunc_near h ?_ ?_⟩
  · have : (((n * 2 ^ 1074 : Nat) : Int) : Rat) ≤ ((Float64.val x : Int) : Rat) := by
      rw [hv, Rat.intCast_natCast, Rat.natCast_mul, e1]
      exact Rat.mul_le_mul_of_nonneg_right h1 (Rat.le_of_lt hS)
    exact Rat.intCast_le_intCast.mp this
  · have : ((Float64.val x : Int) : Rat) < ((((n + 1) * 2 ^ 1074 : Nat) : Int) : Rat) := by
      rw [hv, Rat.intCast_natCast, Rat.natCast_mul, e1, Rat.natCast_add]
      exact Rat.mul_lt_mul_of_pos_right h2 hS
    exact Rat.intCast_lt_intCast.mp this

open Float64 in
theorem frac_near {n d : Nat} {q : Rat} (hd : 0 < d) (hq : (n : Rat) = q * (d : Rat)) (h1 : -Big ≤ q) (h2 : q ≤ Big) : Fi (ofFrac false n d) ∧ q - eps ≤ rv (ofFrac false n d) ∧ rv (ofFrac false n d) ≤ q + eps := by
  have R := ofFrac_right (neg := false) (n := n) (d := d) (W := n * 2 ^ 1074) (D := d) hd rfl hd
  have hN : sgn false (n * 2 ^ 1074) = ((n * 2 ^ 1074 : Nat) : Int) := rfl
  have hq' : (((n * 2 ^ 1074 : Nat) : Int) : Rat) = q * ((d : Rat) * FS) := by
    rw [Rat.intCast_natCast, Rat.natCast_mul, FS_is, hq]; grind
  obtain ⟨hf, v, ev, b1, b2⟩ := right_near R hd (big_nat (N := ((n * 2 ^ 1074 : Nat) : Int)) (Int.natAbs_natCast _).symm hd hq' h1 h2)
  refine ⟨hf, ?_⟩
  have s := signed_near (neg := false) b1 b2
  rw [← ev, hN] at s
  exact near_rat (N := ((n * 2 ^ 1074 : Nat) : Int)) hd s.1 s.2 hq'
open Float64 in
theorem frac_pow {n k : Nat} {q : Rat} (hk : k ≤ 1000) (hn : n ≤ 16384) (hq : (n : Rat) = q * ((2 ^ k : Nat) : Rat)) : Fi (ofFrac false n (2 ^ k)) ∧ rv (ofFrac false n (2 ^ k)) = q := by
  have hd : 0 < 2 ^ k := Nat.two_pow_pos k
  have R := ofFrac_right (neg := false) (n := n) (d := 2 ^ k) (W := n * 2 ^ 1074) (D := 2 ^ k) hd rfl hd
  have e : n * 2 ^ 1074 = 2 ^ k * (n * 2 ^ (1074 - k)) := by
    rw [Nat.mul_left_comm, ← Nat.pow_add]
    congr 2
    lia
  have hW : n * 2 ^ 1074 ≤ 2 ^ k * (FU * 2 ^ 52) := by
    rw [FU_88]
    have a : n * 2 ^ 1074 ≤ 2 ^ 14 * 2 ^ 1074 := Nat.mul_le_mul_right _ hn
    rw [← Nat.pow_add] at a
    exact Nat.le_trans a (Nat.le_mul_of_pos_left _ hd)
  have hv := right_exact R hd hW (Nat.le_trans hn (by decide)) e
  obtain ⟨hf, _⟩ := right_near R hd hW
  refine ⟨hf, ?_⟩
  unfold rv
  rw [hv]
  show (((n * 2 ^ (1074 - k) : Nat) : Int) : Rat) / FS = q
  have hS := FS_pos
  have hk' : (0 : Rat) < ((2 ^ k : Nat) : Rat) := by exact_mod_cast hd
  have e2 : ((2 ^ k : Nat) : Rat) * ((2 ^ (1074 - k) : Nat) : Rat) = FS := by
    rw [← Rat.natCast_mul, ← Nat.pow_add, ← FS_is]
    congr 2
    lia
  rw [Rat.intCast_natCast, Rat.natCast_mul, hq, ← e2, Rat.div_def]
  have h3 : ((2 ^ k : Nat) : Rat) * ((2 ^ (1074 - k) : Nat) : Rat) ≠ 0 := by rw [e2]; grind
  rw [Rat.mul_assoc q, Rat.mul_assoc q, Rat.mul_inv_cancel _ h3, Rat.mul_one]

noncomputable def Nr (x : UInt64) (q d : Rat) : Prop := Fi x ∧ q - d ≤ rv x ∧ rv x ≤ q + d
theorem abs_mul {u v a b : Rat} (h1 : -a ≤ u) (h2 : u ≤ a) (h3 : -b ≤ v) (h4 : v ≤ b) : -(a * b) ≤ u * v ∧ u * v ≤ a * b := by
  have p1 : 0 ≤ (a - u) * (b + v) := Rat.mul_nonneg (by grind) (by grind)
  have p2 : 0 ≤ (a + u) * (b - v) := Rat.mul_nonneg (by grind) (by grind)
  have p3 : 0 ≤ (a - u) * (b - v) := Rat.mul_nonneg (by grind) (by grind)
  have p4 : 0 ≤ (a + u) * (b + v) := Rat.mul_nonneg (by grind) (by grind)
  constructor <;> grind
theorem Nr.add {x y : UInt64} {p q d d' : Rat} (hx : Nr x p d) (hy : Nr y q d') (h1 : -Big ≤ p + q - d - d') (h2 : p + q + d + d' ≤ Big) : Nr (Float64.add x y) (p + q) (d + d' + eps) := by
  obtain ⟨fx, a1, a2⟩ := hx
  obtain ⟨fy, b1, b2⟩ := hy
  obtain ⟨f, c1, c2⟩ := add_near fx fy (by grind) (by grind)
  exact ⟨f, by grind, by grind⟩
theorem Nr.sub {x y : UInt64} {p q d d' : Rat} (hx : Nr x p d) (hy : Nr y q d') (h1 : -Big ≤ p - q - d - d') (h2 : p - q + d + d' ≤ Big) : Nr (Float64.sub x y) (p - q) (d + d' + eps) := by
  obtain ⟨fx, a1, a2⟩ := hx
  obtain ⟨fy, b1, b2⟩ := hy
  obtain ⟨f, c1, c2⟩ := sub_near fx fy (by grind) (by grind)
  exact ⟨f, by grind, by grind⟩
theorem Nr.mul {x y : UInt64} {p q d d' A B : Rat} (hx : Nr x p d) (hy : Nr y q d') (hA : -A ≤ rv x ∧ rv x ≤ A) (hB : -B ≤ q ∧ q ≤ B) (h1 : -Big ≤ p * q - (A * d' + d * B)) (h2 : p * q + (A * d' + d * B) ≤ Big) : Nr (Float64.mul x y) (p * q) (A * d' + d * B + eps) := by
  obtain ⟨fx, a1, a2⟩ := hx
  obtain ⟨fy, b1, b2⟩ := hy
  have e : rv x * rv y = p * q + (rv x * (rv y - q) + (rv x - p) * q) := by grind
  have m1 := abs_mul (u := rv x) (v := rv y - q) hA.1 hA.2 (b := d') (by grind) (by grind)
  have m2 := abs_mul (u := rv x - p) (v := q) (a := d) (by grind) (by grind) hB.1 hB.2
  obtain ⟨f, c1, c2⟩ := mul_near fx fy (by rw [e]; grind) (by rw [e]; grind)
  rw [e] at c1 c2
  exact ⟨f, by grind, by grind⟩

theorem compare_scale {p q C : Int} (hC : 0 < C) : compare p q = compare (p * C) (q * C) := by
  simp only [compare, compareOfLessAndEq]
  have h1 : p < q ↔ p * C < q * C := ⟨fun h => Int.mul_lt_mul_of_pos_right h hC, fun h => Int.lt_of_mul_lt_mul_right h (Int.le_of_lt hC)⟩
  have h2 : p = q ↔ p * C = q * C := ⟨fun h => by rw [h], fun h => Int.eq_of_mul_eq_mul_right (by lia) h⟩
  by_cases a : p < q
  · rw [if_pos a, if_pos (h1.mp a)]
  · rw [if_neg a, if_neg fun h => a (h1.mpr h)]
    by_cases b : p = q
    · rw [if_pos b, if_pos (h2.mp b)]
    · rw [if_neg b, if_neg fun h => b (h2.mpr h)]
open Float64 in
theorem cmp_val {x y : UInt64} (hx : Fi x) (hy : Fi y) : cmp x y = some (compare (val x) (val y)) := by
  obtain ⟨a, m, e, dx⟩ := hx
  obtain ⟨b, k, f, dy⟩ := hy
  have ge := decode_ge dx
  have gf := decode_ge dy
  have h0 : 0 ≤ min e f + 1074 := ge0 (Int.le_min.mpr ⟨ge, gf⟩)
  have ex : val x = sgn a (m * 2 ^ (e - min e f).toNat) * ((2 ^ (min e f + 1074).toNat : Nat) : Int) := by
    rw [val_eq dx, ← sgn_mul, Nat.mul_assoc, ← Nat.pow_add]
    congr 3
    exact toNat_split (Int.min_le_left e f) h0
  have ey : val y = sgn b (k * 2 ^ (f - min e f).toNat) * ((2 ^ (min e f + 1074).toNat : Nat) : Int) := by
    rw [val_eq dy, ← sgn_mul, Nat.mul_assoc, ← Nat.pow_add]
    congr 3
    exact toNat_split (Int.min_le_right e f) h0
  unfold cmp
  rw [dx, dy]
  show some (compare (sgn a (m * 2 ^ (e - min e f).toNat)) (sgn b (k * 2 ^ (f - min e f).toNat))) = _
  rw [ex, ey, ← compare_scale (by exact_mod_cast Nat.two_pow_pos _)]
theorem rv_lt {x y : UInt64} : rv x < rv y ↔ Float64.val x < Float64.val y := by
  have hS := FS_pos
  have a := val_rv x
  have b := val_rv y
  constructor
  · intro h
    have h1 : rv x * FS < rv y * FS := Rat.mul_lt_mul_of_pos_right h hS
    rw [← a, ← b] at h1
    exact Rat.intCast_lt_intCast.mp h1
  · intro h
    have h1 : ((Float64.val x : Int) : Rat) < ((Float64.val y : Int) : Rat) := Rat.intCast_lt_intCast.mpr h
    rw [a, b] at h1
    exact Rat.not_le.mp fun hn => absurd h1 (Rat.not_lt.mpr (Rat.mul_le_mul_of_nonneg_right hn (Rat.le_of_lt hS)))

noncomputable abbrev qCode : Array Nat := #[14, 8, 1, 2, 4294967295, 1, 1, 34, 0, 16, 34, 28, 22, 0, 4294967295, 7, 11, 13, 7, 21, 16, 34, 16, 92, 0, 15, 8, 6, 16, 92, 2, 15, 2, 0, 1, 16, 34, 1]
noncomputable abbrev qM (T : Array Nat) (st : Nat) (must : Bool) (pc pos handed : Nat) (outer : Bool) (loops : Array Sre.Loop) (inner : Option Nat) (frames : List Sre.Frame) (weight : Nat) (answer : Option Bool) (seen : Sre.Seen) (oc : Option Sre.Outcome) : Sre.M :=
  { code := qCode, text := T, lim := T.size, start := st, lastStart := T.size, wholeText := false, mustAdvance := must, pc := pc, pos := pos, handed := handed, outermost := outer, marks := #[], lastmark := -1, lastindex := -1, loops := loops, inner := inner, frames := frames, weight := weight, answer := answer, seen := seen, outcome := oc }
noncomputable abbrev fStart (s : Nat) (first : Bool) : Sre.Frame := { wait := .nextStart, pc := 9, pos := s, outermost := first }
noncomputable abbrev qKept : Sre.Kept := { lastmark := -1, lastindex := -1, whole := true, marks := #[] }
noncomputable abbrev fPoss (q : Nat) (c : Int) (first : Bool) : Sre.Frame := { wait := .possMore, pc := 11, pos := q, outermost := first, count := c, kept := qKept, loop := 0 }
noncomputable abbrev fBr (a q : Nat) : Sre.Frame := { wait := .nextBranch, pc := a, pos := q, outermost := false, kept := qKept }
noncomputable abbrev qLoops : Array Sre.Loop := #[{ pc := 0, outer := none }]
noncomputable abbrev qS (T : Array Nat) (s : Nat) (must first : Bool) (seen : Sre.Seen) : Sre.M := qM T s must 9 s s first #[] none [fStart s first] 1 none seen none
noncomputable abbrev qP (T : Array Nat) (st q : Nat) (c : Int) (must first : Bool) (seen : Sre.Seen) : Sre.M := qM T st must 15 q q false qLoops (some 0) [fPoss q c first, fStart st first] 2 none seen none
section
variable {T : Array Nat} {s st q : Nat} {c : Int} {must first : Bool} {seen : Sre.Seen} {fr : List Sre.Frame} {wt : Nat} {hd' : Nat} {outer : Bool} {lps : Array Sre.Loop} {inn : Option Nat}
theorem q_exec {m : Sre.M} (h1 : m.outcome = none) (h2 : m.answer = none) (h3 : m.pc < m.code.size) : m.step = m.exec := by
  unfold Sre.M.step
  rw [h1, h2]
  simp only [Option.isSome_none, Bool.false_eq_true, if_false]
  rw [if_pos h3]
theorem q_no9 (h : q < T.size) (hx : T.getD q 0 ≠ 34) : (qM T st must 9 q hd' outer lps inn fr wt none seen none).step = qM T st must 9 q hd' outer lps inn fr wt (some false) (seen.add 16) none := by
  have e : (T.getD q 0 == 34) = false := by simpa using hx
  rw [q_exec rfl rfl (by exact (by decide : 9 < 38))]
  unfold Sre.M.exec
  show (if q ≥ T.size then _ else _) = _
  rw [if_neg (by lia)]
  show (match (Except.ok (T.getD q 0 == 34, seen.add 16) : Except String (Bool × Sre.Seen)) with | .error why => _ | .ok (false, seen) => _ | .ok (true, seen) => _) = _
  rw [e]
  rfl
theorem q_no28 (h : q < T.size) (hx : T.getD q 0 ≠ 92) : (qM T st must 28 q hd' outer lps inn fr wt none seen none).step = qM T st must 28 q hd' outer lps inn fr wt (some false) (seen.add 16) none := by
  have e : (T.getD q 0 == 92) = false := by simpa using hx
  rw [q_exec rfl rfl (by exact (by decide : 28 < 38))]
  unfold Sre.M.exec
  show (if q ≥ T.size then _ else _) = _
  rw [if_neg (by lia)]
  show (match (Except.ok (T.getD q 0 == 92, seen.add 16) : Except String (Bool × Sre.Seen)) with | .error why => _ | .ok (false, seen) => _ | .ok (true, seen) => _) = _
  rw [e]
  rfl
theorem q_yes9 (h : q < T.size) (hx : T.getD q 0 = 34) : (qM T st must 9 q hd' outer lps inn fr wt none seen none).step = qM T st must 11 (q + 1) hd' outer lps inn fr wt none (seen.add 16) none := by
  have e : (T.getD q 0 == 34) = true := by simpa using hx
  rw [q_exec rfl rfl (by exact (by decide : 9 < 38))]
  unfold Sre.M.exec
  show (if q ≥ T.size then _ else _) = _
  rw [if_neg (by lia)]
  show (match (Except.ok (T.getD q 0 == 34, seen.add 16) : Except String (Bool × Sre.Seen)) with | .error why => _ | .ok (false, seen) => _ | .ok (true, seen) => _) = _
  rw [e]
  rfl
theorem q_yes28 (h : q < T.size) (hx : T.getD q 0 = 92) : (qM T st must 28 q hd' outer lps inn fr wt none seen none).step = qM T st must 30 (q + 1) hd' outer lps inn fr wt none (seen.add 16) none := by
  have e : (T.getD q 0 == 92) = true := by simpa using hx
  rw [q_exec rfl rfl (by exact (by decide : 28 < 38))]
  unfold Sre.M.exec
  show (if q ≥ T.size then _ else _) = _
  rw [if_neg (by lia)]
  show (match (Except.ok (T.getD q 0 == 92, seen.add 16) : Except String (Bool × Sre.Seen)) with | .error why => _ | .ok (false, seen) => _ | .ok (true, seen) => _) = _
  rw [e]
  rfl
theorem q_yes35 (h : q < T.size) (hx : T.getD q 0 = 34) : (qM T st must 35 q hd' outer lps inn fr wt none seen none).step = qM T st must 37 (q + 1) hd' outer lps inn fr wt none (seen.add 16) none := by
  have e : (T.getD q 0 == 34) = true := by simpa using hx
  rw [q_exec rfl rfl (by exact (by decide : 35 < 38))]
  unfold Sre.M.exec
  show (if q ≥ T.size then _ else _) = _
  rw [if_neg (by lia)]
  show (match (Except.ok (T.getD q 0 == 34, seen.add 16) : Except String (Bool × Sre.Seen)) with | .error why => _ | .ok (false, seen) => _ | .ok (true, seen) => _) = _
  rw [e]
  rfl
theorem q_lit_end (h : T.size ≤ q) : (qM T st must 9 q hd' outer lps inn fr wt none seen none).step = qM T st must 9 q hd' outer lps inn fr wt (some false) (seen.add 16) none := by
  rw [q_exec rfl rfl (by first | exact (by decide : 9 < 38) | exact (by decide : 17 < 38))]
  unfold Sre.M.exec
  show (if q ≥ T.size then _ else _) = _
  rw [if_pos h]
  rfl
theorem q_next (h : s < T.size) : (qM T st must 9 q hd' outer #[] none [fStart s first] 1 (some false) seen none).step = qS T (s + 1) false false seen := by
  show (if s < T.size then _ else _) = _
  rw [if_pos h]
  rfl
theorem q_last (h : T.size ≤ s) : (qM T st must 9 q hd' outer #[] none [fStart s first] 1 (some false) seen none).step = qM T st must 9 s hd' first #[] none [] 0 (some false) seen none := by
  show (if s < T.size then _ else _) = _
  rw [if_neg (by lia)]
  rfl
theorem q_poss : (qM T st must 11 q hd' first #[] none [fStart st first] 1 none seen none).step = qP T st q 0 must first (seen.add 28) := by kernel_rfl
theorem q_branch : (qP T st q c must first seen).step = qM T st must 17 q q false qLoops (some 0) [fBr 16 q, fPoss q c first, fStart st first] 3 none (seen.add 7) none := rfl
theorem q_in_yes (h : q < T.size) (h1 : T.getD q 0 ≠ 34) (h2 : T.getD q 0 ≠ 92) : ∃ seen', (qM T st must 17 q hd' outer lps inn fr wt none seen none).step = qM T st must 25 (q + 1) hd' outer lps inn fr wt none seen' none := by
  refine ⟨(((((seen.add 13).add 21).add 16).add 16).add 0), ?_⟩
  have e1 : (T.getD q 0 == 34) = false := by simpa using h1
  have e2 : (T.getD q 0 == 92) = false := by simpa using h2
  rw [q_exec rfl rfl (by first | exact (by decide : 9 < 38) | exact (by decide : 17 < 38))]
  unfold Sre.M.exec
  show (if q ≥ T.size then _ else _) = _
  rw [if_neg (by lia)]
  show (match (if (T.getD q 0 == 34) = true then (Except.ok (false, ((seen.add 13).add 21).add 16) : Except String (Bool × Sre.Seen)) else if (T.getD q 0 == 92) = true then Except.ok (false, (((seen.add 13).add 21).add 16).add 16) else Except.ok (true, ((((seen.add 13).add 21).add 16).add 16).add 0)) with | .error why => _ | .ok (false, seen) => _ | .ok (true, seen) => _) = _
  rw [e1, e2]
  rfl
theorem q_in_no (h : q < T.size) (h1 : T.getD q 0 = 34 ∨ T.getD q 0 = 92) : ∃ seen', (qM T st must 17 q hd' outer lps inn fr wt none seen none).step = qM T st must 17 q hd' outer lps inn fr wt (some false) seen' none := by
  rcases h1 with h1 | h1
  · refine ⟨(((seen.add 13).add 21).add 16), ?_⟩
    have e1 : (T.getD q 0 == 34) = true := by simpa using h1
    rw [q_exec rfl rfl (by exact (by decide : 17 < 38))]
    unfold Sre.M.exec
    show (if q ≥ T.size then _ else _) = _
    rw [if_neg (by lia)]
    show (match (if (T.getD q 0 == 34) = true then (Except.ok (false, ((seen.add 13).add 21).add 16) : Except String (Bool × Sre.Seen)) else if (T.getD q 0 == 92) = true then Except.ok (false, (((seen.add 13).add 21).add 16).add 16) else Except.ok (true, ((((seen.add 13).add 21).add 16).add 16).add 0)) with | .error why => _ | .ok (false, seen) => _ | .ok (true, seen) => _) = _
    rw [e1]
    rfl
  · refine ⟨((((seen.add 13).add 21).add 16).add 16), ?_⟩
    have e1 : (T.getD q 0 == 34) = false := by rw [h1]; decide
    have e2 : (T.getD q 0 == 92) = true := by simpa using h1
    rw [q_exec rfl rfl (by exact (by decide : 17 < 38))]
    unfold Sre.M.exec
    show (if q ≥ T.size then _ else _) = _
    rw [if_neg (by lia)]
    show (match (if (T.getD q 0 == 34) = true then (Except.ok (false, ((seen.add 13).add 21).add 16) : Except String (Bool × Sre.Seen)) else if (T.getD q 0 == 92) = true then Except.ok (false, (((seen.add 13).add 21).add 16).add 16) else Except.ok (true, ((((seen.add 13).add 21).add 16).add 16).add 0)) with | .error why => _ | .ok (false, seen) => _ | .ok (true, seen) => _) = _
    rw [e1, e2]
    rfl
theorem q_jump25 : (qM T st must 25 q hd' outer lps inn fr wt none seen none).step = qM T st must 34 q hd' outer lps inn fr wt none (seen.add 15) none := by
  rw [q_exec rfl rfl (by exact (by decide : 25 < 38))]; rfl
theorem q_jump31 : (qM T st must 31 q hd' outer lps inn fr wt none seen none).step = qM T st must 34 q hd' outer lps inn fr wt none (seen.add 15) none := by
  rw [q_exec rfl rfl (by exact (by decide : 31 < 38))]; rfl
theorem q_any (h : q < T.size) (h1 : T.getD q 0 ≠ 10) : (qM T st must 30 q hd' outer lps inn fr wt none seen none).step = qM T st must 31 (q + 1) hd' outer lps inn fr wt none (seen.add 2) none := by
  have e : (T.getD q 0 != 10) = true := by simpa using h1
  rw [q_exec rfl rfl (by exact (by decide : 30 < 38))]
  unfold Sre.M.exec
  show (if q ≥ T.size then _ else _) = _
  rw [if_neg (by lia)]
  show (match (Except.ok (T.getD q 0 != 10, seen.add 2) : Except String (Bool × Sre.Seen)) with | .error why => _ | .ok (false, seen) => _ | .ok (true, seen) => _) = _
  rw [e]
  rfl
theorem q_succ34 : (qM T st must 34 q hd' false lps inn fr wt none seen none).step = qM T st must 34 q q false lps inn fr wt (some true) (seen.add 1) none := by
  rw [q_exec rfl rfl (by exact (by decide : 34 < 38))]; rfl
theorem q_succ37 : (qM T st false 37 q hd' outer lps inn fr wt none seen none).step = qM T st false 37 q q outer lps inn fr wt (some true) (seen.add 1) none := by
  rw [q_exec rfl rfl (by exact (by decide : 37 < 38))]
  cases outer <;> rfl
theorem q_br_yes {pc q' a : Nat} : (qM T st must pc q' hd' outer lps inn (fBr a q :: fr) (wt + 1) (some true) seen none).step = qM T st must a q hd' false lps inn fr wt (some true) seen none := rfl
theorem q_br_no16 {pc q' : Nat} : (qM T st must pc q' hd' outer qLoops (some 0) [fBr 16 q, fPoss q c first, fStart st first] 3 (some false) seen none).step = qM T st must 28 q q false qLoops (some 0) [fBr 27 q, fPoss q c first, fStart st first] 3 none seen none := rfl
theorem q_br_no27 {pc q' : Nat} : (qM T st must pc q' hd' outer qLoops (some 0) [fBr 27 q, fPoss q c first, fStart st first] 3 (some false) seen none).step = qM T st must 27 q hd' false qLoops (some 0) [fPoss q c first, fStart st first] 2 (some false) seen none := rfl
theorem q_poss_yes {pc q' : Nat} (hc : 0 ≤ c) (hq : hd' ≠ q) : (qM T st must pc q' hd' outer qLoops (some 0) [fPoss q c first, fStart st first] 2 (some true) seen none).step = qP T st hd' (c + 1) must first seen := by
  show (if (c + 1 : Int) < ((0 : Nat) : Int) then _ else if ((decide ((c + 1 : Int) < ((4294967295 : Nat) : Int)) || ((4294967295 : Nat) == Sre.maxRepeat)) && (some q != some hd')) = true then _ else _) = _
  rw [if_neg (by lia), if_pos (by
    rw [show ((4294967295 : Nat) == Sre.maxRepeat) = true by decide, Bool.or_true, Bool.true_and]
    simp only [bne_iff_ne, ne_eq, Option.some.injEq]
    exact fun e => hq e.symm)]
  rfl
theorem q_poss_no {pc q' : Nat} (hc : 0 ≤ c) : (qM T st must pc q' hd' outer qLoops (some 0) [fPoss q c first, fStart st first] 2 (some false) seen none).step = qM T st must 35 q q first #[] none [fStart st first] 1 none seen none := by
  show (if (c : Int) < ((0 : Nat) : Int) then _ else if ((decide ((c : Int) < ((4294967295 : Nat) : Int)) || ((4294967295 : Nat) == Sre.maxRepeat)) && (some q != some q)) = true then _ else _) = _
  rw [if_neg (by lia), if_neg (by simp)]
  rfl
theorem q_end_yes {pc q' : Nat} : ((qM T st must pc q' hd' outer lps inn [fStart st first] 1 (some true) seen none).step).step = qM T st must 9 st hd' first lps inn [] 0 (some true) seen (some .matched) := rfl
end

noncomputable def Goes (n : Nat) (a b : Sre.M) : Prop := ∀ k, Sre.M.runFor (n + k) a = Sre.M.runFor k b
theorem Goes.refl (a : Sre.M) : Goes 0 a a := fun k => by rw [Nat.zero_add]
theorem Goes.step {n : Nat} {a a' b : Sre.M} (h : a.outcome = none) (e : a.step = a') (g : Goes n a' b) : Goes (n + 1) a b := fun k => by
  have : n + 1 + k = (n + k) + 1 := by lia
  rw [this]
  show (if a.outcome.isSome then a else Sre.M.runFor (n + k) a.step) = _
  rw [h, if_neg (by decide), e]
  exact g k
theorem Goes.trans {n n' : Nat} {a b c : Sre.M} (g : Goes n a b) (g' : Goes n' b c) : Goes (n + n') a c := fun k => by
  rw [Nat.add_assoc, g, g']
section
variable {T : Array Nat} {s st q : Nat} {c : Int} {first : Bool} {seen : Sre.Seen}
theorem p_ord (hc : 0 ≤ c) (h : q < T.size) (h1 : T.getD q 0 ≠ 34) (h2 : T.getD q 0 ≠ 92) : ∃ seen', Goes 6 (qP T st q c false first seen) (qP T st (q + 1) (c + 1) false first seen') := by
  obtain ⟨s1, e1⟩ := q_in_yes (st := st) (must := false) (hd' := q) (outer := false) (lps := qLoops) (inn := some 0) (fr := [fBr 16 q, fPoss q c first, fStart st first]) (wt := 3) (seen := seen.add 7) h h1 h2
  exact ⟨_, .step rfl q_branch (.step rfl e1 (.step rfl q_jump25 (.step rfl q_succ34 (.step rfl q_br_yes (.step rfl (q_poss_yes hc (by lia)) (.refl _))))))⟩
theorem p_esc (hc : 0 ≤ c) (h : q + 1 < T.size) (h1 : T.getD q 0 = 92) (h2 : T.getD (q + 1) 0 ≠ 10) : ∃ seen', Goes 9 (qP T st q c false first seen) (qP T st (q + 2) (c + 1) false first seen') := by
  obtain ⟨s1, e1⟩ := q_in_no (st := st) (must := false) (hd' := q) (outer := false) (lps := qLoops) (inn := some 0) (fr := [fBr 16 q, fPoss q c first, fStart st first]) (wt := 3) (seen := seen.add 7) (by lia) (.inr h1)
  exact ⟨_, .step rfl q_branch (.step rfl e1 (.step rfl q_br_no16 (.step rfl (q_yes28 (by lia) h1) (.step rfl (q_any h h2) (.step rfl q_jump31 (.step rfl q_succ34 (.step rfl q_br_yes (.step rfl (q_poss_yes hc (by lia)) (.refl _)))))))))⟩
noncomputable def Found (n : Nat) (a : Sre.M) (st e : Nat) : Prop := (Sre.M.runFor n a).outcome = some .matched ∧ (Sre.M.runFor n a).start = st ∧ (Sre.M.runFor n a).handed = e
theorem Found.of {n k : Nat} {a b : Sre.M} {st e : Nat} (g : Goes n a b) (h : Found k b st e) : Found (n + k) a st e := by
  unfold Found
  rw [g]
  exact h
theorem p_close (hc : 0 ≤ c) (h : q < T.size) (h1 : T.getD q 0 = 34) : Found 10 (qP T st q c false first seen) st (q + 1) := by
  obtain ⟨s1, e1⟩ := q_in_no (st := st) (must := false) (hd' := q) (outer := false) (lps := qLoops) (inn := some 0) (fr := [fBr 16 q, fPoss q c first, fStart st first]) (wt := 3) (seen := seen.add 7) h (.inl h1)
  have g : Goes 8 (qP T st q c false first seen) _ := .step rfl q_branch (.step rfl e1 (.step rfl q_br_no16 (.step rfl (q_no28 h (by rw [h1]; decide)) (.step rfl q_br_no27 (.step rfl (q_poss_no hc) (.step rfl (q_yes35 h h1) (.step rfl q_succ37 (.refl _))))))))
  exact Found.of (k := 2) g ⟨rfl, rfl, rfl⟩
theorem s_open (h : s < T.size) (h1 : T.getD s 0 = 34) : ∃ seen', Goes 2 (qS T s false first seen) (qP T s (s + 1) 0 false first seen') := ⟨_, .step rfl (q_yes9 h h1) (.step rfl q_poss (.refl _))⟩
theorem s_skip (h : s < T.size) (h1 : T.getD s 0 ≠ 34) : ∃ seen', Goes 2 (qS T s false first seen) (qS T (s + 1) false false seen') := ⟨_, .step rfl (q_no9 h h1) (.step rfl (q_next h) (.refl _))⟩
theorem s_fail (h : T.size ≤ s) : (Sre.M.runFor 3 (qS T s false first seen)).outcome = some .failed := by
  have g : Goes 2 (qS T s false first seen) _ := .step rfl (q_lit_end h) (.step rfl (q_last h) (.refl _))
  rw [show 3 = 2 + 1 from rfl, g]
  rfl
theorem s_skips : ∀ (j : Nat) {s : Nat} {first : Bool} {seen : Sre.Seen}, s + j ≤ T.size → (∀ i, s ≤ i → i < s + j → T.getD i 0 ≠ 34) → ∃ first' seen', Goes (2 * j) (qS T s false first seen) (qS T (s + j) false first' seen')
  | 0, s, first, seen, _, _ => ⟨first, seen, .refl _⟩
  | j + 1, s, first, seen, h, hn => by
    obtain ⟨s1, g1⟩ := s_skip (first := first) (seen := seen) (show s < T.size by lia) (hn s (by lia) (by lia))
    obtain ⟨f2, s2, g2⟩ := s_skips j (s := s + 1) (first := false) (seen := s1) (by lia) (fun i h1 h2 => hn i (by lia) (by lia))
    refine ⟨f2, s2, ?_⟩
    rw [show s + (j + 1) = s + 1 + j by lia, show 2 * (j + 1) = 2 + 2 * j by lia]
    exact g1.trans g2
theorem s_lab5 (h : s + 5 ≤ T.size) (h0 : T.getD s 0 = 34) (h1 : T.getD (s + 1) 0 = 40) (h2 : T.getD (s + 2) 0 = 92) (h3 : T.getD (s + 3) 0 = 34) (h4 : T.getD (s + 4) 0 = 34) : Found 27 (qS T s false first seen) s (s + 5) := by
  obtain ⟨s1, g1⟩ := s_open (first := first) (seen := seen) (show s < T.size by lia) h0
  obtain ⟨s2, g2⟩ := p_ord (T := T) (st := s) (first := first) (seen := s1) (c := 0) (q := s + 1) (by decide) (by lia) (by rw [h1]; decide) (by rw [h1]; decide)
  obtain ⟨s3, g3⟩ := p_esc (T := T) (st := s) (first := first) (seen := s2) (c := 1) (q := s + 2) (by decide) (by lia) h2 (by rw [show s + 2 + 1 = s + 3 from rfl, h3]; decide)
  exact Found.of (g1.trans (g2.trans g3)) (p_close (q := s + 4) (by decide) (by lia) h4)
theorem s_lab3 (h : s + 3 ≤ T.size) (h0 : T.getD s 0 = 34) (h1 : T.getD (s + 1) 0 = 41) (h2 : T.getD (s + 2) 0 = 34) : Found 18 (qS T s false first seen) s (s + 3) := by
  obtain ⟨s1, g1⟩ := s_open (first := first) (seen := seen) (show s < T.size by lia) h0
  obtain ⟨s2, g2⟩ := p_ord (T := T) (st := s) (first := first) (seen := s1) (c := 0) (q := s + 1) (by decide) (by lia) (by rw [h1]; decide) (by rw [h1]; decide)
  exact Found.of (g1.trans g2) (p_close (q := s + 2) (by decide) (by lia) h2)
theorem s_lab4 (h : s + 4 ≤ T.size) (h0 : T.getD s 0 = 34) (h1 : T.getD (s + 1) 0 = 92) (h2 : T.getD (s + 2) 0 = 92) (h3 : T.getD (s + 3) 0 = 34) : Found 21 (qS T s false first seen) s (s + 4) := by
  obtain ⟨s1, g1⟩ := s_open (first := first) (seen := seen) (show s < T.size by lia) h0
  obtain ⟨s2, g2⟩ := p_esc (T := T) (st := s) (first := first) (seen := s1) (c := 0) (q := s + 1) (by decide) (by lia) h1 (by rw [show s + 1 + 1 = s + 2 from rfl, h2]; decide)
  exact Found.of (g1.trans g2) (p_close (q := s + 3) (by decide) (by lia) h3)
theorem search_is {p : Nat} (h1 : p + 2 ≤ T.size) : Sre.forSearch qCode T 0 p T.size false = qS T p false true (({} : Sre.Seen).add 14) := by
  show (if (decide (p > T.size) || decide (T.size - p < 2)) = true then _ else _) = _
  rw [if_neg (by simp only [Bool.or_eq_true, decide_eq_true_eq]; lia)]
  have e : max p (T.size - (2 - 1)) = max p (T.size - (2 - 1)) := rfl
  rfl
theorem search_short {p : Nat} (h1 : T.size < p + 2) : (Sre.M.runFor 1 (Sre.forSearch qCode T 0 p T.size false)).outcome = some .failed := by
  have e : Sre.forSearch qCode T 0 p T.size false = (if (decide (p > T.size) || decide (T.size - p < 2)) = true then _ else _) := rfl
  rw [e, if_pos (by simp only [Bool.or_eq_true, decide_eq_true_eq]; lia)]
  rfl
end

theorem runFor_add : ∀ (a b : Nat) (m : Sre.M), Sre.M.runFor (a + b) m = Sre.M.runFor b (Sre.M.runFor a m)
  | 0, b, m => by rw [Nat.zero_add]; rfl
  | a + 1, b, m => by
    rw [show a + 1 + b = (a + b) + 1 by lia]
    show (if m.outcome.isSome then m else Sre.M.runFor (a + b) m.step) = Sre.M.runFor b (if m.outcome.isSome then m else Sre.M.runFor a m.step)
    by_cases h : m.outcome.isSome
    · rw [if_pos h, if_pos h]
      cases b with
      | zero => rfl
      | succ b =>
        show m = (if m.outcome.isSome then m else _)
        rw [if_pos h]
    · rw [if_neg h, if_neg h]
      exact runFor_add a b _
theorem runFor_done {m : Sre.M} (h : m.outcome.isSome) : ∀ n, Sre.M.runFor n m = m
  | 0 => rfl
  | n + 1 => by
    show (if m.outcome.isSome then m else _) = m
    rw [if_pos h]
theorem runFor_eq {a b : Nat} {m : Sre.M} (ha : (Sre.M.runFor a m).outcome.isSome) (hb : (Sre.M.runFor b m).outcome.isSome) : Sre.M.runFor a m = Sre.M.runFor b m := by
  rcases Nat.le_total a b with h | h
  · obtain ⟨k, rfl⟩ := Nat.exists_eq_add_of_le h
    rw [runFor_add, runFor_done ha]
  · obtain ⟨k, rfl⟩ := Nat.exists_eq_add_of_le h
    rw [runFor_add, runFor_done hb]
section
variable {M : Model} {A : Around} {E : Value → Shared → Prop} {s : Shared}
theorem re_drive : ∀ (turns n : Nat) (m : Sre.M) {Q : Sre.M → Shared → Prop}, (Sre.M.runFor n m).outcome.isSome → n ≤ 4 * turns → 0 < turns → Q (Sre.M.runFor n m) s → wpAny M A (Builtin.Re.reDrive turns m) Q E s
  | 0, _, _, _, _, _, h0, _ => absurd h0 (Nat.lt_irrefl _)
  | t + 1, n, m, Q, h, hn, _, hq => by
    show wpAny M A (if (Sre.M.runFor 4 m).outcome.isSome then pure (Sre.M.runFor 4 m) else do rule "sre.turn"; Builtin.Re.reDrive t (Sre.M.runFor 4 m)) Q E s
    by_cases h4 : (Sre.M.runFor 4 m).outcome.isSome
    · rw [if_pos h4]
      rw [runFor_eq h h4] at hq
      exact wpAny_pure hq
    · rw [if_neg h4]
      have hn4 : 4 < n := by
        rcases Nat.lt_or_ge 4 n with h1 | h1
        · exact h1
        · obtain ⟨k, hk⟩ := Nat.exists_eq_add_of_le h1
          exfalso
          apply h4
          rw [hk, runFor_add, runFor_done h]
          exact h
      obtain ⟨k, rfl⟩ := Nat.exists_eq_add_of_le (Nat.le_of_lt hn4)
      rw [runFor_add] at h hq
      refine wpAny_bind (wpAny_rule ?_)
      exact re_drive t k _ h (by lia) (by lia) hq
theorem for_skip {f : Nat → PUnit → Sem (ForInStep PUnit)} (hf : ∀ i r (s : Shared) (Q : ForInStep PUnit → Shared → Prop), Q (.yield ⟨⟩) s → wpAny M A (f i r) Q E s) : ∀ (l : List Nat) {Q : PUnit → Shared → Prop}, Q ⟨⟩ s → wpAny M A (forIn l PUnit.unit f) Q E s
  | [], _, h => wpAny_pure h
  | i :: l, Q, h => by
    rw [List.forIn_cons]
    refine wpAny_bind (hf i _ s _ ?_)
    exact for_skip hf l h
theorem re_run {m : Sre.M} {n : Nat} {Q : Option Sre.M → Shared → Prop} (h : (Sre.M.runFor n m).outcome.isSome) (hn : n ≤ 100000)
    (hq : ((Sre.M.runFor n m).outcome = some .matched ∧ Q (some (Sre.M.runFor n m)) s) ∨ ((Sre.M.runFor n m).outcome = some .failed ∧ Q none s)) : wpAny M A (Builtin.Re.reRunToEnd m) Q E s := by
  unfold Builtin.Re.reRunToEnd
  refine wpAny_bind (re_drive _ n m h (by lia) (by lia) ?_)
  refine wpAny_bind (for_skip (fun i r s Q h => ?_) _ ?_)
  · split
    · exact wpAny_bind (wpAny_rule (wpAny_pure h))
    · exact wpAny_pure h
  · rcases hq with ⟨e, h⟩ | ⟨e, h⟩ <;> (rw [e]; exact wpAny_pure h)
theorem re_found {T : Array Nat} {t : Builtin.Re.ReTarget} {p n st e : Nat} {Q : Option Sre.M → Shared → Prop} (hc : t.code = qCode) (ht : t.text = T) (hg : t.groups = 0) (hl : t.lim = T.size) (hp : p + 2 ≤ T.size)
    (h : Found n (qS T p false true (({} : Sre.Seen).add 14)) st e) (hn : n ≤ 100000) (hq : ∀ m : Sre.M, m.start = st → m.handed = e → Q (some m) s) : wpAny M A (Builtin.Re.reNextFound t p false) Q E s := by
  unfold Builtin.Re.reNextFound
  rw [hc, ht, hg, hl, search_is hp]
  exact re_run (n := n) (by rw [h.1]; rfl) hn (.inl ⟨h.1, hq _ h.2.1 h.2.2⟩)
theorem re_none {T : Array Nat} {t : Builtin.Re.ReTarget} {p : Nat} {Q : Option Sre.M → Shared → Prop} (hc : t.code = qCode) (ht : t.text = T) (hg : t.groups = 0) (hl : t.lim = T.size) (hp : p ≤ T.size) (hz : T.size ≤ 40000)
    (h : ∀ i, p ≤ i → i < T.size → T.getD i 0 ≠ 34) (hq : Q none s) : wpAny M A (Builtin.Re.reNextFound t p false) Q E s := by
  unfold Builtin.Re.reNextFound
  rw [hc, ht, hg, hl]
  rcases Nat.lt_or_ge T.size (p + 2) with h1 | h1
  · have e := search_short (T := T) h1
    exact re_run (n := 1) (by rw [e]; rfl) (by decide) (.inr ⟨by rw [e], hq⟩)
  · rw [search_is h1]
    obtain ⟨f', s', g⟩ := s_skips (T := T) (first := true) (seen := ({} : Sre.Seen).add 14) (T.size - p) (s := p) (by lia) (fun i h1 h2 => h i h1 (by lia))
    rw [show p + (T.size - p) = T.size by lia] at g
    have e : (Sre.M.runFor (2 * (T.size - p) + 3) (qS T p false true (({} : Sre.Seen).add 14))).outcome = some .failed := by
      rw [g]
      exact s_fail (Nat.le_refl _)
    exact re_run (n := 2 * (T.size - p) + 3) (by rw [e]; rfl) (by lia) (.inr ⟨e, hq⟩)
end

section
variable {prog : Program} {w : World} {A : Around} {E : Value → Shared → Prop} {s : Shared} {b : Array UInt8} {t : Tok}
theorem by_own {Q : Bool → Shared → Prop} (h : Q true s) : wpAny (model prog w) A (Builtin.Bytes.slotIsOwn (.bytes b t) "__buffer__") Q E s := by
  have hT : s.TypeIs (.bytes b t) "bytes" := PySem.W.typeIs_bytes _ _ _
  unfold Builtin.Bytes.slotIsOwn
  refine wpAny_bind (wpAny_specialOf hT PySem.W.KBy.look_buffer ?_)
  dsimp only
  rw [if_neg (by decide +kernel), show (Value.type (String.dropRight "bytes.__buffer__" ("__buffer__".length + 1))) = Value.type "bytes" by decide +kernel]
  exact wpAny_isInstance hT PySem.F.sub_bytes_bytes h
theorem by_ownRelease {Q : Bool → Shared → Prop} (h : Q false s) : wpAny (model prog w) A (Builtin.Bytes.ownRelease (.bytes b t)) Q E s := by
  have hT : s.TypeIs (.bytes b t) "bytes" := PySem.W.typeIs_bytes _ _ _
  unfold Builtin.Bytes.ownRelease Builtin.Bytes.slotIsOwn
  refine wpAny_bind (wpAny_bind (wpAny_specialOf hT PySem.W.KBy.look_release ?_))
  exact wpAny_pure (wpAny_pure h)
theorem by_payload {Q : Array UInt8 → Shared → Prop} (h : Q b s) : wpAny (model prog w) A (Builtin.Bytes.payload (.bytes b t)) Q E s := by
  unfold Builtin.Bytes.payload Builtin.Bytes.payload?
  exact wpAny_bind (wpAny_pure (wpAny_pure h))
theorem by_buffer {id : String} {full : Bool} {Q : Option (Array UInt8) → Shared → Prop} (h : Q (some b) s) : wpAny (model prog w) A (Builtin.Bytes.buffer? id (.bytes b t) full) Q E s := by
  have hT : s.TypeIs (.bytes b t) "bytes" := PySem.W.typeIs_bytes _ _ _
  unfold Builtin.Bytes.buffer?
  refine wpAny_bind (wpAny_specialOf hT PySem.W.KBy.look_buffer ?_)
  (try dsimp only)
  refine wpAny_bind ?_
  refine by_own ?_
  rw [if_neg (by decide)]
  refine wpAny_bind (wpAny_specialOf hT PySem.W.KBy.look_buffer ?_)
  (try dsimp only)
  refine wpAny_bind ?_
  refine by_ownRelease ?_
  rw [if_neg (by decide)]
  refine wpAny_bind ?_
  refine by_payload ?_
  exact wpAny_pure h
theorem by_quiet {id : String} {Q : Option (Array UInt8) → Shared → Prop} (h : Q (some b) s) : wpAny (model prog w) A (Builtin.Bytes.bufferQuiet? id (.bytes b t)) Q E s := by
  unfold Builtin.Bytes.bufferQuiet?
  refine wpAny_bind (wpAny_attempt (by_buffer ?_))
  exact wpAny_pure h
theorem by_take {id : String} {Q : Option (Array UInt8 × Option Value) → Shared → Prop} (h : Q (some (b, none)) s) : wpAny (model prog w) A (Builtin.Bytes.takeBufferQuiet? id (.bytes b t) 0) Q E s := by
  have hT : s.TypeIs (.bytes b t) "bytes" := PySem.W.typeIs_bytes _ _ _
  unfold Builtin.Bytes.takeBufferQuiet? Builtin.Bytes.takeBuffer?
  refine wpAny_bind (wpAny_attempt ?_)
  refine wpAny_bind (wpAny_specialOf hT PySem.W.KBy.look_buffer ?_)
  (try dsimp only)
  refine wpAny_bind ?_
  refine by_own ?_
  rw [if_neg (by decide)]
  refine wpAny_bind (wpAny_specialOf hT PySem.W.KBy.look_buffer ?_)
  (try dsimp only)
  refine wpAny_bind ?_
  refine by_buffer ?_
  exact wpAny_pure (wpAny_pure h)
theorem mk_bytes {x : Array UInt8} {Q : Value → Shared → Prop} (hz : x.size ≤ 100000) (h : Q (.bytes x s.toks) { s with toks := s.toks + 1 }) : wpAny (model prog w) A (mkBytes x) Q E s := by
  unfold mkBytes
  rw [if_neg (by rw [sizeLine_eq]; lia)]
  exact wpAny_bind (wpAny_fresh (wpAny_pure h))
theorem re_text {Q : Array Nat × Nat → Shared → Prop} (h : Q (b.map (·.toNat), 1) s) : wpAny (model prog w) A (Builtin.Re.reTextOf (.bytes b t)) Q E s := by
  unfold Builtin.Re.reTextOf
  refine wpAny_bind (wpAny_of_eq (a := none) (by kernel_rfl) ?_)
  (try dsimp only)
  refine wpAny_bind ?_
  refine by_quiet ?_
  exact wpAny_pure h
end

noncomputable abbrev qPat (a b c d : Tok) : Obj := { cls := .type "re.Pattern", data := .fields #[.bytes #[34, 40, 63, 58, 91, 94, 34, 92, 92, 93, 124, 92, 92, 46, 41, 42, 43, 34] a, .int 0 b, .int 0 c, .none, .none, .ref 42, .int 1 d] }
theorem q_look (p : Params) : ∃ a b c d, (hd.heap_39 p).lookup 43 = some (qPat a b c d) := ⟨292, 333, 0, 0, by kernel_rfl⟩
noncomputable abbrev qVals : Array Value := #[.int 14 0, .int 8 0, .int 1 0, .int 2 0, .int 4294967295 0, .int 1 0, .int 1 0, .int 34 0, .int 0 0, .int 16 0, .int 34 0, .int 28 0, .int 22 0, .int 0 0, .int 4294967295 0, .int 7 0, .int 11 0, .int 13 0, .int 7 0, .int 21 0, .int 16 0, .int 34 0, .int 16 0, .int 92 0, .int 0 0, .int 15 0, .int 8 0, .int 6 0, .int 16 0, .int 92 0, .int 2 0, .int 15 0, .int 2 0, .int 0 0, .int 1 0, .int 16 0, .int 34 0, .int 1 0]
theorem q_words (p : Params) : (hd.heap_39 p).lookup 42 = some { cls := .type "tuple", data := .seq qVals } := by kernel_rfl
theorem q_code : (qVals.map Builtin.Re.reRawOf).map (·.toNat) = qCode := by decide +kernel
section
variable {w : World} {A : Around} {E : Value → Shared → Prop} {s : Shared} {d : Array UInt8} {t : Tok}
theorem re_target {Q : Builtin.Re.ReTarget → Shared → Prop} (X : (hd.heap_39 w.params).In s.heap)
    (h : ∀ T : Builtin.Re.ReTarget, T.code = qCode → T.text = d.map (·.toNat) → T.groups = 0 → T.lim = d.size → T.kind = 1 → Q T s) : wpAny (model prg w) A (Builtin.Re.reWholeTarget (.ref 43) (.bytes d t)) Q E s := by
  obtain ⟨p1, p2, p3, p4, e1⟩ := q_look w.params
  have e2 := q_words w.params
  have hg := X _ _ e1
  have hc := X _ _ e2
  have hT : s.TypeIs (.bytes d t) "bytes" := PySem.W.typeIs_bytes _ _ _
  unfold Builtin.Re.reWholeTarget
  refine wpAny_bind ?_
  unfold fieldsOf
  refine wpAny_bind (wpAny_load hg ?_)
  refine wpAny_pure ?_
  refine wpAny_bind ?_
  refine re_text ?_
  (try dsimp only)
  rw [if_neg (by exact Bool.false_ne_true), if_neg (by exact Bool.false_ne_true)]
  unfold Builtin.Re.reNoCollectionInside
  rw [if_pos (by rfl)]
  refine wpAny_bind (wpAny_bind (wpAny_isInstance hT PySem.F.sub_bytes_bytes ?_))
  rw [if_neg (by decide)]
  refine wpAny_pure ?_
  refine wpAny_bind ?_
  unfold Builtin.Re.reRawItems seqItems?
  refine wpAny_bind (wpAny_bind (wpAny_load hc ?_))
  refine wpAny_pure (wpAny_pure (wpAny_pure ?_))
  refine h _ ?_ rfl rfl ?_ rfl
  · exact q_code
  · exact Array.size_map
end
inductive Strip : List UInt8 → List UInt8 → Prop
  | nil : Strip [] []
  | sign {c : UInt8} {r o : List UInt8} (hc : c ≠ 34) (h : Strip r o) : Strip (c :: r) (c :: o)
  | lab5 {r o : List UInt8} (h : Strip r o) : Strip (34 :: 40 :: 92 :: 34 :: 34 :: r) o
  | lab3 {r o : List UInt8} (h : Strip r o) : Strip (34 :: 41 :: 34 :: r) o
  | lab4 {r o : List UInt8} (h : Strip r o) : Strip (34 :: 92 :: 92 :: 34 :: r) o
noncomputable def IsLab (l : List UInt8) : Prop := l = [34, 40, 92, 34, 34] ∨ l = [34, 41, 34] ∨ l = [34, 92, 92, 34]
theorem strip_split {r o : List UInt8} (h : Strip r o) : (r = o ∧ ∀ x ∈ r, x ≠ 34) ∨ ∃ p l r' o', r = p ++ (l ++ r') ∧ o = p ++ o' ∧ Strip r' o' ∧ (∀ x ∈ p, x ≠ 34) ∧ IsLab l := by
  induction h with
  | nil => exact .inl ⟨rfl, (fun _ h => nomatch h)⟩
  | sign hc h ih =>
    rcases ih with ⟨rfl, hn⟩ | ⟨p, l, r', o', rfl, rfl, hs, hn, hl⟩
    · exact .inl ⟨rfl, List.forall_mem_cons.mpr ⟨hc, hn⟩⟩
    · exact .inr ⟨_ :: p, l, r', o', rfl, rfl, hs, List.forall_mem_cons.mpr ⟨hc, hn⟩, hl⟩
  | lab5 h => exact .inr ⟨[], [34, 40, 92, 34, 34], _, _, rfl, rfl, h, (fun _ h => nomatch h), .inl rfl⟩
  | lab3 h => exact .inr ⟨[], [34, 41, 34], _, _, rfl, rfl, h, (fun _ h => nomatch h), .inr (.inl rfl)⟩
  | lab4 h => exact .inr ⟨[], [34, 92, 92, 34], _, _, rfl, rfl, h, (fun _ h => nomatch h), .inr (.inr rfl)⟩
theorem getD_map {d : Array UInt8} {i : Nat} : (d.map (·.toNat)).getD i 0 = (d.toList.getD i 0).toNat := by
  rw [Array.getD_eq_getD_getElem?, Array.getElem?_map, List.getD_eq_getElem?_getD, Array.getElem?_toList]
  cases d[i]? <;> rfl
theorem lab_found {d : Array UInt8} {pre p l r' : List UInt8} {first : Bool} {seen : Sre.Seen} (e : d.toList = pre ++ (p ++ (l ++ r'))) (hn : ∀ x ∈ p, x ≠ 34) (hl : IsLab l) :
    ∃ n, n ≤ 2 * p.length + 27 ∧ Found n (qS (d.map (·.toNat)) pre.length false first seen) (pre.length + p.length) (pre.length + p.length + l.length) := by
  have hsz : (d.map (·.toNat)).size = pre.length + (p.length + (l.length + r'.length)) := by
    rw [Array.size_map, ← Array.length_toList, e]
    simp only [List.length_append]
  have at_ : ∀ i, (d.map (·.toNat)).getD (pre.length + p.length + i) 0 = ((l ++ r').getD i 0).toNat := fun i => by
    rw [getD_map, e]
    congr 1
    rw [List.getD_eq_getElem?_getD, List.getD_eq_getElem?_getD, List.getElem?_append_right (by lia), List.getElem?_append_right (by lia)]
    congr 2
    lia
  have skip : ∀ i, pre.length ≤ i → i < pre.length + p.length → (d.map (·.toNat)).getD i 0 ≠ 34 := fun i h1 h2 => by
    rw [getD_map, e]
    have hlt : i - pre.length < p.length := by lia
    have : (pre ++ (p ++ (l ++ r'))).getD i 0 = p[i - pre.length] := by
      rw [List.getD_eq_getElem?_getD, List.getElem?_append_right h1, List.getElem?_append_left hlt, List.getElem?_eq_getElem hlt]
      rfl
    rw [this]
    have hm := hn _ (List.getElem_mem hlt)
    intro hh
    apply hm
    exact UInt8.toNat_inj.mp hh
  rcases hl with rfl | rfl | rfl
  · obtain ⟨f', s', g⟩ := s_skips (first := first) (seen := seen) p.length (T := d.map (·.toNat)) (s := pre.length) (by lia) skip
    simp only [List.length_cons, List.length_nil] at hsz
    exact ⟨_, Nat.le_refl _, Found.of g (s_lab5 (by lia) (at_ 0) (at_ 1) (at_ 2) (at_ 3) (at_ 4))⟩
  · obtain ⟨f', s', g⟩ := s_skips (first := first) (seen := seen) p.length (T := d.map (·.toNat)) (s := pre.length) (by lia) skip
    simp only [List.length_cons, List.length_nil] at hsz
    exact ⟨_, by lia, Found.of (k := 18) g (s_lab3 (by lia) (at_ 0) (at_ 1) (at_ 2))⟩
  · obtain ⟨f', s', g⟩ := s_skips (first := first) (seen := seen) p.length (T := d.map (·.toNat)) (s := pre.length) (by lia) skip
    simp only [List.length_cons, List.length_nil] at hsz
    exact ⟨_, by lia, Found.of (k := 21) g (s_lab4 (by lia) (at_ 0) (at_ 1) (at_ 2) (at_ 3))⟩

noncomputable def BytesAre (vs : List Value) (bs : List (Array UInt8)) : Prop := vs.length = bs.length ∧ ∀ i, i < bs.length → ∃ t, vs[i]? = some (.bytes (bs.getD i #[]) t)
theorem BytesAre.nil : BytesAre [] [] := ⟨rfl, fun _ h => absurd h (Nat.not_lt_zero _)⟩
theorem BytesAre.snoc {vs : List Value} {bs : List (Array UInt8)} {b : Array UInt8} {t : Tok} (h : BytesAre vs bs) : BytesAre (vs ++ [.bytes b t]) (bs ++ [b]) := by
  refine ⟨by rw [List.length_append, List.length_append, h.1]; rfl, fun i hi => ?_⟩
  rw [List.length_append] at hi
  rw [List.getD_eq_getElem?_getD]
  rcases Nat.lt_or_eq_of_le (Nat.le_of_lt_succ hi) with c | c
  · rw [List.getElem?_append_left (by rw [h.1]; exact c), List.getElem?_append_left c, ← List.getD_eq_getElem?_getD]
    exact h.2 i c
  · rw [c, List.getElem?_concat_length, ← h.1, List.getElem?_concat_length]
    exact ⟨t, rfl⟩
noncomputable def catB : List (Array UInt8) → Array UInt8
  | [] => #[]
  | b :: bs => b ++ catB bs
theorem catB_app : ∀ (a b : List (Array UInt8)), catB (a ++ b) = catB a ++ catB b
  | [], b => by simp [catB]
  | x :: a, b => by
    show x ++ catB (a ++ b) = (x ++ catB a) ++ catB b
    rw [catB_app, Array.append_assoc]
theorem size_fold : ∀ (bs : List (Array UInt8)) (n : Nat), bs.foldl (fun x (b : Array UInt8) => x + b.size) n = n + (catB bs).size
  | [], n => rfl
  | b :: bs, n => by
    rw [List.foldl_cons, size_fold]
    show n + b.size + (catB bs).size = n + (b ++ catB bs).size
    rw [Array.size_append]
    lia
theorem joined_fold (bs : List (Array UInt8)) : ∀ (i : Nat) (acc : Array UInt8), ((bs.zipIdx i).foldl (fun out (p : Array UInt8 × Nat) => (if p.2 > 0 then out ++ (#[] : Array UInt8) else out) ++ p.1) acc) = acc ++ catB bs := by
  induction bs with
  | nil => intro i acc; simp [catB]
  | cons b bs ih =>
    intro i acc
    rw [List.zipIdx_cons, List.foldl_cons, ih]
    have e : (if i > 0 then acc ++ (#[] : Array UInt8) else acc) = acc := by split <;> simp
    show ((if i > 0 then acc ++ (#[] : Array UInt8) else acc) ++ b) ++ catB bs = acc ++ (b ++ catB bs)
    rw [e, Array.append_assoc]
theorem joined_cat (bs : List (Array UInt8)) : Builtin.Bytes.joined #[] bs = catB bs := by
  have := joined_fold bs 0 #[]
  unfold Builtin.Bytes.joined
  rw [this]
  simp
theorem bj_slot : Slot "bytes" "join" "bytes.join" :=
  .of (owner := "bytes") (n := "join") (by rw [typeLookup_type, builtinLookup_eq_fast]; kernel_rfl) (by decide +kernel) (by decide +kernel) (by decide +kernel)
    (by first | exact .inl (by decide +kernel) | exact .inr (by decide +kernel)) (by rw [isSubtype_type]; kernel_rfl)
theorem bj_entry : entryFor table "bytes.join" = some Builtin.«bytes.join» := entryFor_of_tree (by kernel_rfl)
theorem bj_args (a b : Value) : argsOk "bytes.join" ⟨[a, b], []⟩ := by unfold argsOk; kernel_rfl
section
variable {M : Model} {A : Around} {E : Value → Shared → Prop}
theorem forIn_inv {β : Type} {f : Nat → β → Sem (ForInStep β)} (I : Nat → β → Prop) (s : Shared) (n : Nat) (step : ∀ i b, i < n → I i b → wpAny M A (f i b) (fun r s' => ∃ b', r = .yield b' ∧ I (i + 1) b' ∧ s' = s) E s) :
    ∀ (k i : Nat) (b : β) {Q : β → Shared → Prop}, i + k = n → I i b → (∀ b', I n b' → Q b' s) → wpAny M A (forIn (List.range' i k) b f) Q E s
  | 0, i, b, Q, e, hI, hq => by
    rw [List.range'_zero]
    exact wpAny_pure (hq b (by rw [← e]; exact hI))
  | k + 1, i, b, Q, e, hI, hq => by
    rw [List.range'_succ, List.forIn_cons]
    refine wpAny_bind (wpAny_mono (step i b (by lia) hI) (fun r s' h => ?_) fun _ _ e => e)
    obtain ⟨b', rfl, hI', rfl⟩ := h
    exact forIn_inv I s' n step k (i + 1) b' (by lia) hI' hq
end
theorem jm_one {α : Sort _} (x : Value) (h1 : Value → α) (h2 : Array Value → α) : Builtin.Bytes.joinM.match_1 (fun _ => α) #[x] h1 h2 = h1 x := rfl
theorem jm_more {α : Sort _} {a : Array Value} (ha : a.size ≠ 1) (h1 : Value → α) (h2 : Array Value → α) : Builtin.Bytes.joinM.match_1 (fun _ => α) a h1 h2 = h2 a := by
  unfold Builtin.Bytes.joinM.match_1
  rw [dif_neg ha]
theorem join_go {M : Model} {A : Around} {E : Value → Shared → Prop} {s : Shared} {keep : List Value} : ∀ (taken : List (Value × Option Value)) {Q : Unit → Shared → Prop}, (∀ y ∈ taken, (∃ b t, y.1 = .bytes b t) ∧ y.2 = none) → Q () s → wpAny M A (Builtin.Bytes.joinLetGo taken keep) Q E s
  | [], _, _, h => wpAny_pure h
  | (x, w) :: rest, Q, h2, h => by
    obtain ⟨_, e⟩ := h2 _ (.head _)
    dsimp only at e
    subst e
    unfold Builtin.Bytes.joinLetGo
    refine wpAny_bind (wpAny_letGo ?_)
    exact join_go rest (fun y hy => h2 y (.tail _ hy)) h
section
variable {prog : Program} {w : World} {A : Around} {E : Value → Shared → Prop} {s : Shared}
end
namespace by_join_z
noncomputable def zS (prog : Program) (w : World) (A : Around) (E : Value → Shared → Prop) (s : Shared) (l : Addr) (n : Nat) (t : Tok) (Q : Value → Shared → Prop) : Prop := ∀ (vs : List Value) (bs : List (Array UInt8)) (hl : s.heap.get? l = some (listOf vs.toArray n)) (hb : BytesAre vs bs) (hz : (catB bs).size ≤ 1000) (hn : bs.length ≤ 1000) (hq : ∀ t tk, Q (.bytes (catB bs) t) { s with toks := tk }), wpAny (model prog w) A (PySem.call (.builtin "bytes.join") [.bytes #[] t, .ref l] []) Q E s
noncomputable abbrev zT : Type := (Program) × (World) × (Around) × (Value → Shared → Prop) × (Shared) × (Addr) × (Nat) × (Tok) × (Value → Shared → Prop)
noncomputable def zP (x : zT) : Prop := zS x.1 x.2.1 x.2.2.1 x.2.2.2.1 x.2.2.2.2.1 x.2.2.2.2.2.1 x.2.2.2.2.2.2.1 x.2.2.2.2.2.2.2.1 x.2.2.2.2.2.2.2.2
theorem zne : Nonempty zT := ⟨(default, dW, {}, fun _ _ => True, {}, (0 : Nat), 0, (0 : Nat), fun _ _ => True)⟩
noncomputable def zc : zT := @Classical.epsilon _ zne fun x => ¬ zP x
@[irreducible] noncomputable def prog : Program := zc.1
@[irreducible] noncomputable def w : World := zc.2.1
@[irreducible] noncomputable def A : Around := zc.2.2.1
@[irreducible] noncomputable def E : Value → Shared → Prop := zc.2.2.2.1
@[irreducible] noncomputable def s : Shared := zc.2.2.2.2.1
@[irreducible] noncomputable def l : Addr := zc.2.2.2.2.2.1
@[irreducible] noncomputable def n : Nat := zc.2.2.2.2.2.2.1
@[irreducible] noncomputable def t : Tok := zc.2.2.2.2.2.2.2.1
@[irreducible] noncomputable def Q : Value → Shared → Prop := zc.2.2.2.2.2.2.2.2
theorem zmain : zS prog w A E s l n t Q := by
  unfold zS
  intro vs bs hl hb hz hn hq
  have hT : s.TypeIs (.bytes #[] t) "bytes" := PySem.W.typeIs_bytes _ _ _
  have hTl : s.TypeIs (.ref l) "list" := ⟨_, hl, rfl⟩
  refine wpAny_call (codeAny_call_builtin bj_slot.plain bj_entry (bj_slot.check _ _ _ _ _ _ _ _ hT (bj_args _ _) ?_))
  unfold Builtin.«bytes.join» Builtin.Bytes.joinM
  dsimp only
  refine wpAny_bind (wpAny_of_eq (a := (Value.bytes #[] t, Value.ref l)) (by kernel_rfl) ?_)
  rw [if_pos (by decide)]
  refine wpAny_bind ?_
  unfold Builtin.Bytes.joinItems
  refine wpAny_bind (wpAny_typeOf hTl ?_)
  rw [if_pos (by decide)]
  refine wpAny_pure ?_
  unfold seqItems?
  refine wpAny_bind (wpAny_bind (wpAny_load hl ?_))
  refine wpAny_pure ?_
  dsimp only
  rw [if_pos (by decide)]
  have hlen := hb.1
  have hget := fun {i : Nat} (h : i < bs.length) => hb.2 i h
  by_cases h1 : vs.toArray.size = 1
  · have hx : ∃ b t', vs = [.bytes b t'] ∧ bs = [b] := by
      obtain ⟨v, rfl⟩ := List.length_eq_one_iff.mp h1
      obtain ⟨b, rfl⟩ := List.length_eq_one_iff.mp hlen.symm
      obtain ⟨t', e⟩ := hget (i := 0) Nat.zero_lt_one
      exact ⟨b, t', congrArg (· :: []) (Option.some.inj e), rfl⟩
    obtain ⟨b', t', rfl, rfl⟩ := hx
    rw [jm_one]
    refine wpAny_bind (wpAny_typeOf (T := "bytes") (PySem.W.typeIs_bytes _ _ _) ?_)
    rw [if_pos (by decide)]
    refine wpAny_bind (wpAny_rule (wpAny_pure ?_))
    have := hq t' s.toks
    rwa [show catB [b'] = b' by simp [catB]] at this
  · rw [jm_more h1]
    (try dsimp only)
    refine wpAny_bind ?_
    rw [Std.Legacy.Range.forIn_eq_forIn_range']
    have hsz : vs.toArray.size = bs.length := by rw [List.size_toArray, hlen]
    refine forIn_inv (I := fun i (x : Array (Array UInt8) × List (Value × Option Value)) => x.1.toList = bs.take i ∧ ∀ y ∈ x.2, (∃ b t, y.1 = .bytes b t) ∧ y.2 = none) s bs.length ?_ _ _ _ ?_ ?_ ?_
    · rintro i ⟨parts, taken⟩ hi ⟨h1, h2⟩
      obtain ⟨ti, hti⟩ := hget hi
      have hx : vs.toArray.getD i .none = .bytes (bs.getD i #[]) ti := by
        rw [Array.getD_eq_getD_getElem?, List.getElem?_toArray, hti]
        rfl
      have hany : (taken.any fun x => x.1.onHeap) = false := by
        rw [List.any_eq_false]
        intro x hx
        obtain ⟨⟨b, t, e⟩, _⟩ := h2 x hx
        rw [e]
        exact Bool.false_ne_true
      dsimp only
      refine wpAny_bind (wpAny_bind (wpAny_load hl ?_))
      refine wpAny_pure ?_
      dsimp only
      rw [if_neg (by rw [hany]; decide)]
      rw [hx]
      refine wpAny_bind (wpAny_holding ?_)
      refine by_take ?_
      dsimp only
      refine wpAny_bind (wpAny_bind (wpAny_load hl ?_))
      refine wpAny_pure ?_
      dsimp only
      rw [if_neg (by rw [bne_self_eq_false]; exact Bool.false_ne_true)]
      refine wpAny_pure ⟨_, rfl, ⟨?_, ?_⟩, rfl⟩
      · dsimp only
        rw [Array.toList_push, h1, List.take_add_one, List.getD_eq_getElem?_getD, List.getElem?_eq_getElem hi]
        rfl
      · dsimp only
        intro y hy
        rcases List.mem_append.mp hy with h | h
        · exact h2 y h
        · cases List.mem_singleton.mp h
          exact ⟨⟨_, _, rfl⟩, rfl⟩
    · simp only [hsz, Std.Legacy.Range.size]; lia
    · exact ⟨by simp, fun y h => nomatch h⟩
    · rintro ⟨parts, taken⟩ ⟨h1, h2⟩
      rw [List.take_length] at h1
      refine wpAny_bind ?_
      refine by_payload ?_
      dsimp only
      rw [h1, joined_cat]
      refine wpAny_ite ?_
      split
      · rename_i hlong
        exfalso
        revert hlong
        rw [← Array.foldl_toList, h1, size_fold]
        unfold Builtin.Bytes.tooLong
        rw [sizeLine_eq]
        simp
        lia
      · refine wpAny_bind ?_
        unfold Builtin.Bytes.Kind.new
        refine mk_bytes (by lia) ?_
        refine wpAny_bind (wpAny_holding (wpAny_point ?_))
        refine wpAny_bind (join_go taken h2 ?_)
        exact wpAny_pure (hq _ _)
end by_join_z
theorem by_join {prog : Program} {w : World} {A : Around} {E : Value → Shared → Prop} {s : Shared} {l : Addr} {vs : List Value} {bs : List (Array UInt8)} {n : Nat} {t : Tok} {Q : Value → Shared → Prop} (hl : s.heap.get? l = some (listOf vs.toArray n)) (hb : BytesAre vs bs) (hz : (catB bs).size ≤ 1000) (hn : bs.length ≤ 1000) (hq : ∀ t tk, Q (.bytes (catB bs) t) { s with toks := tk }) : wpAny (model prog w) A (PySem.call (.builtin "bytes.join") [.bytes #[] t, .ref l] []) Q E s := by
  exact @clz _ by_join_z.zP by_join_z.zne (by with_unfolding_all exact by_join_z.zmain) (prog, w, A, E, s, l, n, t, Q) vs bs hl hb hz hn hq
section
variable {prog : Program} {w : World} {A : Around} {E : Value → Shared → Prop} {s : Shared}
end

theorem sl_entry : entryFor table "re.Pattern.sub.loop" = some Builtin.«re.Pattern.sub.loop» := entryFor_of_tree (by kernel_rfl)
theorem codeAny_entry {prog : Program} {w : World} {A : Around} {s : Shared} {id : String} {args : Args} {b : Builtin} {R : Result → Shared → Prop} (hb : entryFor table id = some b)
    (h : wpAny (model prog w) (A.under (.builtin id args)) (b args) (fun fin s' => match fin with | .done f => R (.ok f) s' | .again c' => c'.quiet = true ∧ codeAny (model prog w) A c' R s') (fun e s' => R (.error e) s') s) :
    codeAny (model prog w) A (.builtin id args) R s := by
  refine codeAny_of_tree ?_
  show wpAny _ _ (match entryFor table id with | some b => b args | none => unsupported ((withoutEnding? id "#data").getD id)) _ _ s
  rw [hb]
  exact h
theorem strip_len {r o : List UInt8} (h : Strip r o) : o.length ≤ r.length := by
  induction h with
  | nil => exact Nat.le_refl _
  | sign hc h ih => exact Nat.succ_le_succ ih
  | lab5 h ih => simp only [List.length_cons]; lia
  | lab3 h ih => simp only [List.length_cons]; lia
  | lab4 h ih => simp only [List.length_cons]; lia
theorem quiet_loop {args : Args} : (Code.builtin "re.Pattern.sub.loop" args).quiet = true := by kernel_rfl
noncomputable abbrev loopArgs (l : Addr) (d : Array UInt8) (t r0 : Tok) (n : Int) (done : Nat) : Args :=
  ⟨[.ref 43, .bytes d t, .bytes #[] r0, rawInt 0, rawInt 0, rawInt n, rawInt done, rawInt done, .bool false, .ref l, .bool false], []⟩
section
variable {w : World} {A : Around} {E : Value → Shared → Prop} {h₀ : Heap} {L : Addr} {m : Nm} {news : Led}
theorem led_push {M : Model} {s : Shared} {l : Addr} {its : Array Value} {n : Nat} {v : Value} {Q : Unit → Shared → Prop} (F : Fr h₀ L s.heap m) (N : News h₀ L s.heap ((l, listOf its n) :: news)) (ap : ∀ p ∈ news, p.1 ≠ l) (hz : its.size ≤ 1000)
    (h : ∀ h', Fr h₀ L h' m → News h₀ L h' ((l, listOf (its.push v) (n + 1)) :: news) → Q () { s with heap := h' }) : wpAny M A (updateSeq l (·.push v)) Q E s := by
  have hx := (N _ (.head _)).1
  have hz' : its.size ≤ sizeLine := by rw [sizeLine_eq]; lia
  refine wpAny_updateSeq hx rfl (h _ (F.change (Heap.SameBut.update ..) (N _ (.head _)).2.1 (N _ (.head _)).2.2) (acc_newsSet N ap (Heap.SameBut.update ..) ?_)) hz' (by rw [Array.size_push, sizeLine_eq]; lia)
  rw [Heap.get?_update_self _ hx (by simp [Obj.mapSeq]; rfl)]
  simp [Obj.mapSeq]
theorem re_slice {s : Shared} {d : Array UInt8} {a b : Nat} {Q : Value → Shared → Prop} (hd : d.size ≤ 1000) (h : ∀ t tk, Q (.bytes (d.extract a b) t) { s with toks := tk }) : wpAny (model prg w) A (Builtin.Re.reSlice (d.map (·.toNat)) 1 a b) Q E s := by
  unfold Builtin.Re.reSlice
  rw [if_neg (by decide)]
  have e : ((d.map (·.toNat)).extract a b).map (·.toUInt8) = d.extract a b := by
    rw [← Array.map_extract, Array.map_map]
    have : ((fun x : Nat => x.toUInt8) ∘ fun x : UInt8 => x.toNat) = id := by
      funext x
      simp
    rw [this, Array.map_id]
  rw [e]
  exact mk_bytes (by rw [Array.size_extract]; lia) (h _ _)
theorem ext_mid {d : Array UInt8} {pre p x : List UInt8} (e : d.toList = pre ++ (p ++ x)) : d.extract pre.length (pre.length + p.length) = p.toArray := by
  apply Array.ext'
  rw [Array.toList_extract, e]
  simp [List.extract]
theorem no_quote {d : Array UInt8} {pre r : List UInt8} (e : d.toList = pre ++ r) (hn : ∀ x ∈ r, x ≠ 34) {i : Nat} (h1 : pre.length ≤ i) (h2 : i < d.size) : (d.map (·.toNat)).getD i 0 ≠ 34 := by
  rw [getD_map, e]
  have hsz : d.size = pre.length + r.length := by rw [← Array.length_toList, e, List.length_append]
  have hlt : i - pre.length < r.length := by lia
  have : (pre ++ r).getD i 0 = r[i - pre.length] := by
    rw [List.getD_eq_getElem?_getD, List.getElem?_append_right h1, List.getElem?_eq_getElem hlt]
    rfl
  rw [this]
  intro hh
  exact hn _ (List.getElem_mem hlt) (UInt8.toNat_inj.mp hh)
theorem lab_len {l : List UInt8} (h : IsLab l) : 3 ≤ l.length ∧ l.length ≤ 5 := by
  rcases h with rfl | rfl | rfl <;> decide
end
namespace sub_loop_z
noncomputable def zS (w : World) (A : Around) (E : Value → Shared → Prop) (h₀ : Heap) (L : Addr) (m : Nm) (news : Led) (l : Addr) (d : Array UInt8) (t : Tok) (r0 : Tok) (Q : Value → Shared → Prop) : Prop := ∀ (X : (KH w).In h₀) (ap : ∀ p ∈ news, p.1 ≠ l) (hd : d.size ≤ 200), ∀ (k : Nat) (r o pre out : List UInt8) (vs : List Value) (bs : List (Array UInt8)) (n : Int) (c : Nat) (s : Shared), r.length < k → Strip r o → d.toList = pre ++ r → BytesAre vs bs → (catB bs).toList = out → out.length ≤ pre.length → bs.length ≤ pre.length →
      Fr h₀ L s.heap m → News h₀ L s.heap ((l, listOf vs.toArray c) :: news) → (∀ t h' tk, Fr h₀ L h' m → News h₀ L h' news → Q (.bytes (out ++ o).toArray t) { s with heap := h', toks := tk }) →
      codeAny (model prg w) A (.builtin "re.Pattern.sub.loop" (loopArgs l d t r0 n pre.length)) (fun r s' => match r with | .ok (.ret v) => Q v s' | .ok _ => False | .error e => E e s') s
noncomputable abbrev zT : Type := (World) × (Around) × (Value → Shared → Prop) × (Heap) × (Addr) × (Nm) × (Led) × (Addr) × (Array UInt8) × (Tok) × (Tok) × (Value → Shared → Prop)
noncomputable def zP (x : zT) : Prop := zS x.1 x.2.1 x.2.2.1 x.2.2.2.1 x.2.2.2.2.1 x.2.2.2.2.2.1 x.2.2.2.2.2.2.1 x.2.2.2.2.2.2.2.1 x.2.2.2.2.2.2.2.2.1 x.2.2.2.2.2.2.2.2.2.1 x.2.2.2.2.2.2.2.2.2.2.1 x.2.2.2.2.2.2.2.2.2.2.2
theorem zne : Nonempty zT := ⟨(dW, {}, fun _ _ => True, default, (0 : Nat), fun _ => none, [], (0 : Nat), #[], (0 : Nat), (0 : Nat), fun _ _ => True)⟩
noncomputable def zc : zT := @Classical.epsilon _ zne fun x => ¬ zP x
@[irreducible] noncomputable def w : World := zc.1
@[irreducible] noncomputable def A : Around := zc.2.1
@[irreducible] noncomputable def E : Value → Shared → Prop := zc.2.2.1
@[irreducible] noncomputable def h₀ : Heap := zc.2.2.2.1
@[irreducible] noncomputable def L : Addr := zc.2.2.2.2.1
@[irreducible] noncomputable def m : Nm := zc.2.2.2.2.2.1
@[irreducible] noncomputable def news : Led := zc.2.2.2.2.2.2.1
@[irreducible] noncomputable def l : Addr := zc.2.2.2.2.2.2.2.1
@[irreducible] noncomputable def d : Array UInt8 := zc.2.2.2.2.2.2.2.2.1
@[irreducible] noncomputable def t : Tok := zc.2.2.2.2.2.2.2.2.2.1
@[irreducible] noncomputable def r0 : Tok := zc.2.2.2.2.2.2.2.2.2.2.1
@[irreducible] noncomputable def Q : Value → Shared → Prop := zc.2.2.2.2.2.2.2.2.2.2.2
theorem zmain : zS w A E h₀ L m news l d t r0 Q := by
  unfold zS
  intro X ap hd
  intro k
  induction k with
  | zero => exact fun r _ _ _ _ _ _ _ _ h => absurd h (Nat.not_lt_zero _)
  | succ k ih =>
    intro r o pre out vs bs n c s hk hs hd2 hb hout ho hbl F N hq
    have X' := X.keeps F.keep
    have hsz : d.size = pre.length + r.length := by rw [← Array.length_toList, hd2, List.length_append]
    have hvl := hb.1
    refine codeAny_entry sl_entry ?_
    unfold Builtin.«re.Pattern.sub.loop»
    dsimp only [loopArgs, rawInt]
    refine wpAny_bind ?_
    refine re_target X' ?_
    intro T t1 t2 t3 t4 t5
    rw [if_pos (by decide)]
    refine wpAny_bind ?_
    unfold Builtin.Re.reLiteralCannotBeTurned
    refine wpAny_bind (wpAny_of_eq (a := none) (by kernel_rfl) ?_)
    rw [if_pos (by decide)]
    refine wpAny_bind (wpAny_isInstance (PySem.W.typeIs_bytes _ _ _) PySem.F.sub_bytes_bytes ?_)
    rw [if_neg (by decide)]
    refine wpAny_pure ?_
    refine wpAny_bind ?_
    rw [if_neg (by exact Bool.false_ne_true)]
    rcases strip_split hs with ⟨rfl, hn⟩ | ⟨p, lb, r', o', rfl, rfl, hs', hn, hl⟩
    · refine re_none (T := d.map (·.toNat)) (p := pre.length) t1 t2 t3 (by rw [t4, Array.size_map]) (by rw [Array.size_map]; lia) (by rw [Array.size_map]; lia) (fun i h1 h2 => no_quote hd2 hn h1 (by rw [Array.size_map] at h2; exact h2)) ?_
      dsimp only
      by_cases hr : r = []
      · subst hr
        rw [if_neg (by rw [t4, Int.toNat_natCast]; simp only [List.length_nil] at hsz; lia)]
        have NN := N
        refine wpAny_bind ?_
        rw [t2, t5]
        refine re_slice (by lia) (fun tj tkj => ?_)
        rw [show d.extract 0 0 = #[] by simp]
        refine wpAny_bind ?_
        unfold seqItems?
        refine wpAny_bind (wpAny_load (NN _ (.head _)).1 (wpAny_pure ?_))
        (try dsimp only)
        by_cases hv : vs = []
        · subst hv
          obtain rfl : bs = [] := List.length_eq_zero_iff.mp hb.1.symm
          rw [if_pos (by rfl)]
          refine wpAny_bind (wpAny_pure ?_)
          rw [if_neg (by exact Bool.false_ne_true)]
          refine wpAny_pure ?_
          have := hq tj s.heap tkj F (newsSub N (fun p hp => .tail _ hp))
          have ho : out = [] := hout.symm
          subst ho
          exact this
        · rw [if_neg (by simpa using hv)]
          rw [if_neg (by decide)]
          refine wpAny_bind ?_
          refine by_join (s := { s with toks := tkj }) (NN _ (.head _)).1 hb (by rw [← Array.length_toList, hout]; lia) (by lia) (fun tr tkr => ?_)
          rw [if_neg (by exact Bool.false_ne_true)]
          refine wpAny_pure ?_
          have := hq tr s.heap tkr F (newsSub N (fun p hp => .tail _ hp))
          rw [List.append_nil, ← hout] at this
          exact this
      · have hr0 : 0 < r.length := List.length_pos_iff.mpr hr
        rw [if_pos (by rw [t4, Int.toNat_natCast]; lia)]
        refine wpAny_bind ?_
        rw [t2, t5, t4, Int.toNat_natCast]
        refine re_slice (by lia) (fun ts tks => ?_)
        have hext : d.extract pre.length d.size = r.toArray := by
          have := ext_mid (d := d) (pre := pre) (p := r) (x := []) (by rw [List.append_nil]; exact hd2)
          rw [hsz]; exact this
        rw [hext]
        refine wpAny_bind ?_
        refine led_push F N ap (by rw [List.size_toArray]; lia) (fun h1 F N => ?_)
        have NN := N
        rw [List.push_toArray] at NN
        have hb' : BytesAre (vs ++ [.bytes r.toArray ts]) (bs ++ [r.toArray]) := hb.snoc
        have hcat : catB (bs ++ [r.toArray]) = (out ++ r).toArray := by
          rw [catB_app]
          apply Array.ext'
          rw [Array.toList_append, hout]
          simp [catB]
        refine wpAny_bind ?_
        refine re_slice (by lia) (fun tj tkj => ?_)
        rw [show d.extract 0 0 = #[] by simp]
        refine wpAny_bind ?_
        unfold seqItems?
        refine wpAny_bind (wpAny_load (NN _ (.head _)).1 (wpAny_pure ?_))
        (try dsimp only)
        rw [if_neg (by simp)]
        rw [if_neg (by decide)]
        refine wpAny_bind ?_
        refine by_join (s := { s with heap := h1, toks := tkj }) (NN _ (.head _)).1 hb' (by rw [hcat, List.size_toArray, List.length_append]; lia) (by rw [List.length_append]; simp only [List.length_cons, List.length_nil]; lia) (fun tr tkr => ?_)
        rw [if_neg (by exact Bool.false_ne_true)]
        refine wpAny_pure ?_
        have := hq tr h1 tkr F (newsSub N (fun p hp => .tail _ hp))
        rw [← hcat] at this
        exact this
    · have hll := lab_len hl
      simp only [List.length_append] at hsz hk
      obtain ⟨nn, hnn, hf⟩ := lab_found (first := true) (seen := ({} : Sre.Seen).add 14) hd2 hn hl
      refine re_found (T := d.map (·.toNat)) (p := pre.length) t1 t2 t3 (by rw [t4, Array.size_map]) (by rw [Array.size_map]; lia) hf (by lia) ?_
      intro mm hm1 hm2
      dsimp only
      rw [hm1, hm2]
      have hne : (pre.length + p.length + lb.length == pre.length + p.length) = false := by
        rw [beq_eq_false_iff_ne]; lia
      rw [hne]
      have hlen3 : (pre ++ (p ++ lb)).length = pre.length + p.length + lb.length := by simp only [List.length_append]; lia
      have hd3 : d.toList = (pre ++ (p ++ lb)) ++ r' := by rw [hd2]; simp only [List.append_assoc]
      by_cases hp : p = []
      · subst hp
        rw [if_neg (by rw [Int.toNat_natCast, List.length_nil]; lia)]
        rw [if_pos (by decide)]
        refine wpAny_bind (wpAny_pure ?_)
        rw [if_pos (by rfl)]
        refine wpAny_bind ?_
        refine led_push F N ap (by rw [List.size_toArray]; lia) (fun h1 F N => ?_)
        refine wpAny_pure ⟨quiet_loop, ?_⟩
        have := ih r' o' (pre ++ ([] ++ lb)) out (vs ++ [.bytes #[] r0]) (bs ++ [#[]]) (n + 1) (c + 1) { s with heap := h1 } (by simp only [List.length_nil] at hk; lia) hs' hd3 hb.snoc (by rw [catB_app]; simpa [catB] using hout)
          (by rw [hlen3]; simp only [List.length_nil]; lia) (by rw [hlen3, List.length_append]; simp only [List.length_nil, List.length_cons]; lia) F (by rw [List.push_toArray] at N; exact N) (fun t h' tk F N => hq t h' tk F N)
        rw [hlen3] at this
        exact this
      · have hp0 : 0 < p.length := List.length_pos_iff.mpr hp
        rw [if_pos (by rw [Int.toNat_natCast]; lia)]
        refine wpAny_bind ?_
        rw [t2, t5, Int.toNat_natCast]
        refine re_slice (by lia) (fun ts tks => ?_)
        rw [ext_mid hd2]
        refine wpAny_bind ?_
        refine led_push F N ap (by rw [List.size_toArray]; lia) (fun h1 F N => ?_)
        rw [if_pos (by decide)]
        refine wpAny_bind (wpAny_pure ?_)
        rw [if_pos (by rfl)]
        refine wpAny_bind ?_
        refine led_push (s := { s with heap := h1, toks := tks }) F N ap (by rw [Array.size_push, List.size_toArray]; lia) (fun h2 F N => ?_)
        refine wpAny_pure ⟨quiet_loop, ?_⟩
        have := ih r' o' (pre ++ (p ++ lb)) (out ++ p) (vs ++ [.bytes p.toArray ts] ++ [.bytes #[] r0]) (bs ++ [p.toArray] ++ [#[]]) (n + 1) (c + 1 + 1) { s with heap := h2, toks := tks } (by lia) hs' hd3 hb.snoc.snoc (by rw [catB_app, catB_app, Array.toList_append, Array.toList_append, hout]; simp [catB])
          (by rw [hlen3, List.length_append]; lia) (by rw [hlen3]; simp only [List.length_append, List.length_nil, List.length_cons]; lia) F (by rw [List.push_toArray, List.push_toArray] at N; exact N) (fun t h' tk F N => by rw [List.append_assoc]; exact hq t h' tk F N)
        rw [hlen3] at this
        exact this
end sub_loop_z
theorem sub_loop {w : World} {A : Around} {E : Value → Shared → Prop} {h₀ : Heap} {L : Addr} {m : Nm} {news : Led} {l : Addr} {d : Array UInt8} {t r0 : Tok} {Q : Value → Shared → Prop} (X : (KH w).In h₀) (ap : ∀ p ∈ news, p.1 ≠ l) (hd : d.size ≤ 200) : ∀ (k : Nat) (r o pre out : List UInt8) (vs : List Value) (bs : List (Array UInt8)) (n : Int) (c : Nat) (s : Shared), r.length < k → Strip r o → d.toList = pre ++ r → BytesAre vs bs → (catB bs).toList = out → out.length ≤ pre.length → bs.length ≤ pre.length →
      Fr h₀ L s.heap m → News h₀ L s.heap ((l, listOf vs.toArray c) :: news) → (∀ t h' tk, Fr h₀ L h' m → News h₀ L h' news → Q (.bytes (out ++ o).toArray t) { s with heap := h', toks := tk }) →
      codeAny (model prg w) A (.builtin "re.Pattern.sub.loop" (loopArgs l d t r0 n pre.length)) (fun r s' => match r with | .ok (.ret v) => Q v s' | .ok _ => False | .error e => E e s') s := by
  exact @clz _ sub_loop_z.zP sub_loop_z.zne (by with_unfolding_all exact sub_loop_z.zmain) (w, A, E, h₀, L, m, news, l, d, t, r0, Q) X ap hd
section
variable {w : World} {A : Around} {E : Value → Shared → Prop} {h₀ : Heap} {L : Addr} {m : Nm} {news : Led}
end

theorem pat_plain : PlainAttrs "re.Pattern" := ⟨⟨"object.__getattribute__", by rw [typeLookup_type, builtinLookup_eq_fast]; kernel_rfl, by decide +kernel⟩, by rw [typeLookup_type, builtinLookup_eq_fast]; kernel_rfl⟩
theorem ps_slot : Slot "re.Pattern" "sub" "re.Pattern.sub" :=
  .of (owner := "re.Pattern") (n := "sub") (by rw [typeLookup_type, builtinLookup_eq_fast]; kernel_rfl) (by decide +kernel) (by decide +kernel) (by decide +kernel)
    (by first | exact .inl (by decide +kernel) | exact .inr (by decide +kernel)) (by rw [isSubtype_type]; kernel_rfl)
theorem ps_ty : typeOf (.builtin "re.Pattern.sub") = pure (.type "method_descriptor") := by kernel_rfl
theorem ps_entry : entryFor table "re.Pattern.sub" = some Builtin.«re.Pattern.sub» := entryFor_of_tree (by kernel_rfl)
theorem ps_args (a b c : Value) : argsOk "re.Pattern.sub" ⟨[a, b, c], []⟩ := by unfold argsOk; kernel_rfl
theorem by_noCall : typeLookup (.type "bytes") "__call__" = pure none := by rw [typeLookup_type, builtinLookup_eq_fast]; kernel_rfl
section
variable {w : World} {A : Around} {E : Value → Shared → Prop} {s : Shared} {h₀ : Heap} {L : Addr} {m : Nm} {news : Led}
theorem pat_method {pl : Sem Bool} {Q : Value × List Value → Shared → Prop} (X : (KH w).In h₀) (F : Fr h₀ L s.heap m) (h : Q (.builtin "re.Pattern.sub", [.ref 43]) s) : wpAny (model prg w) A (getMethod (.ref 43) "sub" pl) Q E s := by
  obtain ⟨p1, p2, p3, p4, e1⟩ := q_look w.params
  have hg := X.keeps F.keep _ _ e1
  exact getMethod_builtin ⟨_, hg, rfl⟩ pat_plain ps_slot ps_ty (fun a ha => by cases ha; exact ⟨_, hg, rfl⟩) h
theorem pat_sub {d : Array UInt8} {o : List UInt8} {t r0 : Tok} {Q : Value → Shared → Prop} (X : (KH w).In h₀) (hd : d.size ≤ 200) (hs : Strip d.toList o) (F : Fr h₀ L s.heap m) (N : News h₀ L s.heap news)
    (hq : ∀ t h' tk, Fr h₀ L h' m → News h₀ L h' news → Q (.bytes o.toArray t) { s with heap := h', toks := tk }) : wpAny (model prg w) A (call (.builtin "re.Pattern.sub") [.ref 43, .bytes #[] r0, .bytes d t]) Q E s := by
  obtain ⟨p1, p2, p3, p4, e1⟩ := q_look w.params
  have X' := X.keeps F.keep
  have hg := X' _ _ e1
  have hT : s.TypeIs (.ref 43) "re.Pattern" := ⟨_, hg, rfl⟩
  have hTr : s.TypeIs (.bytes #[] r0) "bytes" := PySem.W.typeIs_bytes _ _ _
  refine wpAny_call (codeAny_call_builtin ps_slot.plain ps_entry (ps_slot.check _ _ _ _ _ _ _ _ hT (ps_args _ _ _) ?_))
  unfold Builtin.«re.Pattern.sub» Builtin.Re.reSubstitute
  dsimp only
  refine wpAny_bind (wpAny_of_eq (a := [some (.bytes #[] r0), some (.bytes d t), none]) (by kernel_rfl) ?_)
  dsimp only
  refine wpAny_bind (wpAny_pure ?_)
  refine wpAny_bind (wpAny_specialOf hTr by_noCall ?_)
  rw [if_neg (by decide)]
  refine wpAny_bind (wpAny_of_eq (a := none) (by kernel_rfl) ?_)
  dsimp only
  refine wpAny_bind ?_
  refine by_quiet ?_
  dsimp only
  refine wpAny_bind (wpAny_pure ?_)
  rw [if_neg (by decide), if_pos (by simp)]
  refine wpAny_bind (wpAny_pure ?_)
  refine wpAny_bind (wpAny_holding ?_)
  refine re_target X' ?_
  intro T t1 t2 t3 t4 t5
  rw [if_neg (by exact Bool.false_ne_true)]
  refine wpAny_bind (wpAny_newList ?_)
  refine wpAny_pure ⟨quiet_loop, ?_⟩
  have N' := News.push F N { cls := .type "list", data := .seq ([] : List Value).toArray }
  have ap : ∀ p ∈ news, p.1 ≠ s.heap.objs.size := fun p hp => Nat.ne_of_lt (Heap.lt_size (N p hp).1)
  have := sub_loop (A := A) (E := E) (t := t) (r0 := r0) (Q := Q) X ap hd (d.toList.length + 1) d.toList o [] [] [] [] 0 0 { s with heap := s.heap.push { cls := .type "list", data := .seq ([] : List Value).toArray } } (Nat.lt_succ_self _) hs rfl .nil rfl (Nat.le_refl _) (Nat.le_refl _) (F.push _) N'
    (fun t h' tk F N => hq t h' tk F N)
  exact this
end

theorem bc_slot : Slot "bytes" "count" "bytes.count" :=
  .of (owner := "bytes") (n := "count") (by rw [typeLookup_type, builtinLookup_eq_fast]; kernel_rfl) (by decide +kernel) (by decide +kernel) (by decide +kernel)
    (by first | exact .inl (by decide +kernel) | exact .inr (by decide +kernel)) (by rw [isSubtype_type]; kernel_rfl)
theorem bc_ty : typeOf (.builtin "bytes.count") = pure (.type "method_descriptor") := by kernel_rfl
theorem bc_entry : entryFor table "bytes.count" = some Builtin.«bytes.count» := entryFor_of_tree (by kernel_rfl)
theorem bc_args (a b : Value) : argsOk "bytes.count" ⟨[a, b], []⟩ := by unfold argsOk; kernel_rfl
theorem occ_fold (d : Array UInt8) (c : UInt8) : ∀ n, n ≤ d.size →
    ∃ l k, ((List.range n).map (· + 0)).foldl (fun (acc : List Nat × Nat) (i : Nat) => if i ≥ acc.2 && d.extract i (i + (#[c] : Array UInt8).size) == #[c] then (i :: acc.1, i + (#[c] : Array UInt8).size) else acc) ([], 0) = (l, k) ∧ k ≤ n ∧ l.length = (d.toList.take n).count c
  | 0, _ => ⟨[], 0, rfl, Nat.le_refl _, rfl⟩
  | n + 1, h => by
    obtain ⟨l, k, e, hk, hl⟩ := occ_fold d c n (by lia)
    have hn : n < d.toList.length := by rw [Array.length_toList]; lia
    have hx : d.extract n (n + 1) = #[d[n]'(by lia)] := by
      apply Array.ext
      · simp; lia
      · intro i h1 h2
        simp at h2
        subst h2
        simp
    rw [List.range_succ, List.map_append, List.foldl_append, e, List.take_add_one, List.count_append, List.getElem?_eq_getElem hn]
    simp only [List.map_cons, List.map_nil, List.foldl_cons, List.foldl_nil, Nat.add_zero]
    rw [show n + (#[c] : Array UInt8).size = n + 1 from rfl, hx]
    rw [show (decide (n ≥ k)) = true by simpa using hk, Bool.true_and]
    by_cases hc : d[n]'(by lia) = c
    · subst hc
      rw [if_pos (by simp)]
      exact ⟨_, _, rfl, Nat.le_refl _, by simp [hl, List.count_cons]⟩
    · rw [if_neg (by simpa using hc)]
      exact ⟨_, _, rfl, Nat.le_succ_of_le hk, by simp [hl, List.count_cons, hc]⟩
theorem win_all (n : Nat) : Builtin.Bytes.window n none none = (0, (n : Int)) := by
  unfold Builtin.Bytes.window
  simp
  rw [if_neg (by lia)]
  lia
theorem occ_count (d : Array UInt8) (c : UInt8) : (Builtin.Bytes.occurrences d #[c] 0 d.size).length = d.toList.count c := by
  obtain ⟨l, k, e, _, hl⟩ := occ_fold d c d.size (Nat.le_refl _)
  unfold Builtin.Bytes.occurrences
  rw [show d.size + 1 - (0 + (#[c] : Array UInt8).size) = d.size by simp]
  dsimp only
  rw [e]
  rw [List.length_reverse, hl, ← Array.length_toList, List.take_length]
section
variable {prog : Program} {w : World} {A : Around} {E : Value → Shared → Prop} {s : Shared}
theorem by_method {d : Array UInt8} {t : Tok} {pl : Sem Bool} {Q : Value × List Value → Shared → Prop} (h : Q (.builtin "bytes.count", [.bytes d t]) s) : wpAny (model prog w) A (getMethod (.bytes d t) "count" pl) Q E s :=
  getMethod_builtin (PySem.W.typeIs_bytes _ _ _) PySem.W.FB.plainAttrs_bytes bc_slot bc_ty (fun a ha => by cases ha) h
theorem by_count {d : Array UInt8} {c : UInt8} {t t' : Tok} {Q : Value → Shared → Prop} (h : Q (.int (d.toList.count c) s.toks) { s with toks := s.toks + 1 }) : wpAny (model prog w) A (call (.builtin "bytes.count") [.bytes d t, .bytes #[c] t']) Q E s := by
  have hT : s.TypeIs (.bytes d t) "bytes" := PySem.W.typeIs_bytes _ _ _
  refine wpAny_call (codeAny_call_builtin bc_slot.plain bc_entry (bc_slot.check _ _ _ _ _ _ _ _ hT (bc_args _ _) ?_))
  unfold Builtin.«bytes.count» Builtin.Bytes.countM
  refine wpAny_bind ?_
  unfold Builtin.Bytes.searchArgs
  dsimp only
  refine wpAny_bind (wpAny_of_eq (a := (Value.bytes d t, [.bytes #[c] t'])) (by kernel_rfl) ?_)
  dsimp only
  refine wpAny_bind (wpAny_of_eq (a := none) (by rfl) ?_)
  refine wpAny_bind (wpAny_of_eq (a := none) (by rfl) ?_)
  refine wpAny_bind ?_
  refine by_buffer ?_
  dsimp only
  refine wpAny_bind (wpAny_pure ?_)
  refine wpAny_bind ?_
  refine by_payload ?_
  refine wpAny_pure ?_
  rw [win_all]
  dsimp only
  by_cases hz : d.size = 0
  · rw [if_pos (by simp [hz])]
    have e : d.toList.count c = 0 := by
      rw [Array.size_eq_zero_iff.mp hz]
      rfl
    rw [e] at h
    exact wpAny_bind (wpAny_mkInt (wpAny_pure h))
  · rw [if_neg (by simp; lia)]
    dsimp only
    rw [if_neg (by simp)]
    rw [show (d.size : Int).toNat = d.size from rfl, show (0 : Int).toNat = 0 from rfl, occ_count]
    exact wpAny_bind (wpAny_mkInt (wpAny_pure h))
end

theorem fresh_N_depth : True := by
  k_with_none
  w_on
  w_top off
  (k_with "1 my enter" => (refine' code_def ?k1 ?k2 ?k3 ?k4 ?k5 ?kA ?kF ?kK ?k6 ?k7 ?k8 ?k9 ?kB ?_ ?c2 ?c3 ?c4 ?c5; walk_at "ce"; (case k9 => first | exact BindsTo.of_eq rfl | exact binds_K (by k_in) rfl (by k_is) rfl rfl rfl | fail "my enter: no rule for these arguments"); (case c5 => decide); (case kB => exact locs rfl); (case c2 => exact rfl); (case c3 => exact rfl); (case c4 => exact rfl); k_whole; intro g' L' h' FG' F' N' B' X' T'; (try dsimp only); (try k_lift B'); (try k_fold)))
  (k_with "1 ce" => ((case kA => first | assumption | exact rfl); (case kF => first | assumption | exact rfl); (case kK => first | assumption | exact rfl); (case k1 => k_asm); (case k2 => k_asm); (case k3 => k_asm); (case k4 => k_asm); (case k5 => k_asm); (case k6 => k_is); (case k7 => k_is); (case k8 => first | assumption | ktr_room)))
  (k_with "1 eval Name" => (k_here; k_dflt (refine' nameX_L ?F ?v ?_ ?a ?b ?c; (case F => k_asm); (case a => rfl); (case b => rfl); (case v => first | exact @rfl (Option Value) (some _) | assumption); (case c => decide); k_whole)))
  (k_with "1 storeName" => (k_here; k_dflt (first | (refine' Mine.storeT_F ?F ?N ?_ ?a ?b; (case F => k_asm); (case N => k_asm); (case a => rfl); (case b => rfl); k_whole; intro h' t' tk' F' N'; (try k_sweep)) | (refine' Mine.storeT_I ?F ?N ?_ ?a ?b; (case F => k_asm); (case N => k_asm); (case a => rfl); (case b => rfl); k_whole; intro h' t' tk' F' N'; (try k_sweep)) | (refine' Mine.storeT_S ?F ?N ?_ ?a ?b; (case F => k_asm); (case N => k_asm); (case a => rfl); (case b => rfl); k_whole; intro h' t' tk' F' N'; (try k_sweep)) | (refine' Mine.storeT_B ?F ?N ?_ ?a ?b; (case F => k_asm); (case N => k_asm); (case a => rfl); (case b => rfl); k_whole; intro h' t' tk' F' N'; (try k_sweep)))))
  trivial
theorem word1_N_depth : True := by
  (k_with "1 getMethod ref" => (k_here; k_dflt (refine Mine.pat_method (by k_asm) (by k_asm) ?_; (try dsimp only [List.cons_append, List.nil_append, List.append_nil]))))
  trivial
theorem word2_N_depth : True := by
  (k_with "1 call builtin:re.Pattern.sub" => (k_here; k_dflt (refine Mine.pat_sub (by k_asm) (by assumption) (by assumption) (by k_asm) (by k_asm) ?_; intro t9 h9 tk9 F9 N9; (try dsimp only))))
  trivial
theorem word3_N_depth : True := by
  (k_with "1 getMethod bytes" => (k_here; k_dflt (refine Mine.by_method ?_; (try dsimp only [List.cons_append, List.nil_append, List.append_nil]))))
  trivial
theorem word4_N_depth : True := by
  (k_with "1 call builtin:bytes.count" => (k_here; k_dflt (refine Mine.by_count ?_; (try dsimp only))))
  trivial
theorem depth_call (w : World) (mean : Mean) (mg mb : Nm) (news : Led) (d : Array UInt8) (o : List UInt8) (k : Int) (t t2 : Tok) (hd : d.size ≤ 200) (hs : Strip d.toList o) :
    Calls w mean mg mb 12 news (call (.ref 51) [Value.bytes d t, .int k t2])
      (Ret news (fun t => .int (k + (o.count 40 : Nat) - (o.count 41 : Nat)) t)) := by
  dsimp only [Calls, Ret, KH, VW, prg]
  k_fill
  intros; rename_i hret
  refine wpAny_call ?_
  walk_at "my enter"
  k_steps
  exact hret _ _ _ (by assumption) (by assumption)

noncomputable def lsIn (K : Frag) (C : Addr) : Prop := ∃ oc od cd sl c l, K.lookup C = some ⟨oc, od, .cls cd, sl⟩ ∧ cd.hasDel = false ∧ (sl.toList[4]?).join = some (.builtin "list.__new__") ∧ cd.mro = c :: l ∧ cd.mro.contains (.ref C) = true ∧ cd.mro.contains (.type "list") = true ∧
  specialIn K (.ref C) "__call__" = some (some (.builtin "type.__call__")) ∧ instIn K (.ref C) (.type "type") = some true
theorem ls_acc (p : Params) : lsIn (hd.heap_39 p) 152 := exI6 _ _ _ _ _ _ ⟨rfl, rfl, rfl, rfl, rfl, rfl, by kernel_rfl, by kernel_rfl⟩
structure Ls (M : Model) (h : Heap) (C : Addr) : Prop where
  obj : ∃ oc od cd sl, h.get? C = some ⟨oc, od, .cls cd, sl⟩ ∧ cd.hasDel = false ∧ cd.mro.isEmpty = false
  made : Looks M h (Bind.madeBy (.ref C)) (some "list.__new__")
  base : Looks M h (Bind.staticBase (.ref C)) (.ref C)
  self : Looks M h (isSubtype (.ref C) (.ref C)) true
  top : Looks M h (isSubtype (.ref C) (.type "list")) true
  call : Looks M h (specialOf (.ref C) "__call__") (some (.builtin "type.__call__"))
  typ : Looks M h (isInstance (.ref C) (.type "type")) true
theorem ls_of {K : Frag} {M : Model} {h : Heap} (X : K.In h) {C : Addr} (e : lsIn K C) : Ls M h C := by
  refine exE6 e fun oc od cd sl c l e => anE8 e fun ho e2 e3 hl e5 e6 e7 e8 => ?_
  have e4 : cd.mro.isEmpty = false := by rw [hl]; rfl
  have hc : clsIn K C = some cd := by unfold clsIn; rw [ho]
  have hm : Looks M h (mroOf (.ref C)) cd.mro := (looks_clsIn X hc).andThen .now
  have hn : ∀ T, mroIn K C T = some (cd.mro.contains T) := fun T => by unfold mroIn; rw [hc, Option.bind_some, if_neg (by rw [e4]; decide)]
  have made : Looks M h (Bind.madeBy (.ref C)) (some "list.__new__") := by
    intro A Q E s k q
    refine wpAny_bind (hm A _ E s k ?_)
    rw [hl, List.forIn_cons]
    refine wpAny_bind (wpAny_bind (wpAny_bind (wpAny_bind (wpAny_loadPart (k _ _ (X _ _ ho)) (wpAny_pure ?_)))))
    dsimp only
    rw [← Array.getElem?_toList, e3]
    exact wpAny_pure (wpAny_pure (wpAny_pure q))
  refine ⟨⟨oc, od, cd, sl, X _ _ ho, e2, e4⟩, made, ?_, looks_mroIn X ((hn _).trans (by rw [e5])), looks_mroIn X ((hn _).trans (by rw [e6])), looks_specialIn X e7, looks_instIn X e8⟩
  intro A Q E s k q
  refine wpAny_bind (hm A _ E s k ?_)
  rw [hl, List.forIn_cons]
  exact wpAny_bind (wpAny_bind (wpAny_bind (made A _ E s k (wpAny_pure (wpAny_pure (wpAny_pure q))))))
theorem ln_kind : builtinKind "list.__new__" = some .builtinFn := by decide +kernel
theorem ln_args (a b : Value) : argsOk "list.__new__" ⟨[a, b], []⟩ := by unfold argsOk; kernel_rfl
theorem ln_split : splitId "list.__new__" = some ("list", "__new__") := by decide +kernel
section
variable {prog : Program} {w : World} {A : Around} {C : Addr} {R : Result → Shared → Prop} {h : Heap} {g : Array GenState} {d : Drawn} {t : Nat} {os : OsState}
theorem ls_new {a : Value} (Y : Ls (model prog w) h C)
    (hq : R (.ok (.ret (.ref (h.objs.size + 1)))) ⟨(h.push emptyDict).push { cls := .ref C, dict := some h.objs.size, data := .seq #[] 0 }, g, d, t, os⟩) :
    codeAny (model prog w) A (.call (.builtin "list.__new__") ⟨[.ref C, a], []⟩) R ⟨h, g, d, t, os⟩ := by
  have made := Y.made
  have base := Y.base
  have self := Y.self
  have top := Y.top
  have typ := Y.typ
  refine exE4 Y.obj fun oc od cd sl hh => ?_
  have hC := hh.1
  have e2 := hh.2.1
  refine codeAny_of_tree ?_
  show wpAny _ A.in1 (do checkBuiltinCall "list.__new__" ⟨[.ref C, a], []⟩; again (.builtin "list.__new__" ⟨[.ref C, a], []⟩)) _ _ _
  refine wpAny_bind ?_
  delta checkBuiltinCall
  rw [ln_kind, ln_split]
  repeat lk
  refine ⟨plainId_quiet PySem.F.plain_list_new _, codeAny_builtin_stack PySem.F.entry_list_new rfl fun p st => ?_⟩
  rw [Around.under_plainId PySem.F.plain_list_new _]
  have hown := owner_list_new
  lk
  rw [hown]
  repeat lk
  refine wpAny_load (Heap.get?_push_of_some _ (Heap.get?_push_of_some _ hC)) ?_
  dsimp only
  refine wpAny_pure ?_
  rw [e2, if_neg (by exact Bool.false_ne_true)]
  refine wpAny_pure (wpAny_pure ?_)
  show R _ _
  rw [Heap.size_push]
  exact hq
theorem ls_make {K : Frag} {s : Shared} {h₀ : Heap} {L : Addr} {m : Nm} {news : Led} {a : Value} {fI : Addr} (F : Fr h₀ L s.heap m) (N : News h₀ L s.heap news) (X : K.In s.heap) (hm : lsIn K C)
    (hi : findIn K (.ref C) "__init__" = some (some (.ref fI))) (hf : typeIn K (.ref fI) = some (.type "function"))
    (hq : ∀ x dx h', Fr h₀ L h' m → News h₀ L h' ((x, ({ cls := .ref C, dict := some dx, data := .seq #[] 0 } : Obj)) :: (dx, emptyDict) :: news) → (∀ p ∈ news, p.1 < dx) → dx < x →
      codeAny (model prog w) (A.under (.builtin "type.__call__" ⟨[.ref C, a], []⟩)) (.call (.ref fI) ⟨[.ref x, a], []⟩) (InitBack x R) { s with heap := h' }) :
    codeAny (model prog w) A (.call (.ref C) ⟨[a], []⟩) R s := by
  obtain ⟨h, g, d, t, os⟩ := s
  have Y := ls_of (M := model prog w) X hm
  have made := Y.made
  have self := Y.self
  have call := Y.call
  have typ := Y.typ
  refine exE4 Y.obj fun oc od cd sl hh => ?_
  have hC := hh.1
  have e4 := hh.2.2
  have hil := looks_findIn (M := model prog w) X hi
  refine codeAny_of_tree ?_
  show wpAny _ _ (callAny (.ref C) _) _ _ _
  refine nd_load hC ?_
  show wpAny _ _ (callAny.viaDunder (.ref C) _) _ _ _
  unfold callAny.viaDunder
  refine wpAny_bind (call.at ?_)
  dsimp only
  rw [tc_bind]
  refine wpAny_bind (wpAny_pure (wpAny_bind (wpAny_pure ?_)))
  refine wpAny_pure (a := Fin.again (.call (.builtin "type.__call__") ⟨[.ref C, a], []⟩)) (And.intro rfl ?_)
  refine codeAny_call_builtin_at (Code.quiet_builtin _ (by decide +kernel)) entry_typeCall (check_slot tc_kind tc_split typ (tc_args _ _ _) ?_)
  unfold Builtin.«type.__call__»
  have hm : Looks (model prog w) h (mroOf (.ref C)) cd.mro := ((Looks.ld (part := none) hC).andThen .now).andThen .now
  repeat (first | (with_reducible refine wpAny_ite_false ((decide_eq_decide.mpr (by rw [e4])).trans (rfl : decide (false = true) = false)) ?_) | with_reducible refine wpAny_call ?_ | lk)
  refine ls_new Y ?_
  have k : ∀ b o, h.get? b = some o → ((h.push emptyDict).push { cls := .ref C, dict := some h.objs.size, data := .seq #[] 0 }).get? b = some o := fun b o e => Heap.get?_push_of_some _ (Heap.get?_push_of_some _ e)
  have N' := (N.push F emptyDict).push (F.push _) { cls := .ref C, dict := some h.objs.size, data := .seq #[] 0 }
  rw [Heap.size_push] at N'
  have hx := (N' _ (.head _)).1
  have t1 : Looks (model prog w) ((h.push emptyDict).push { cls := .ref C, dict := some h.objs.size, data := .seq #[] 0 }) (typeOf (.ref (h.objs.size + 1))) (.ref C) := (Looks.ld hx).andThen .now
  have s1 := self.keeps k
  have i1 := hil.keeps k
  have b1 := (bind_fn (M := model prog w) X (.ref (h.objs.size + 1)) hf).keeps k
  unfold isInstance callSpecial? specialOf
  repeat (first | with_reducible refine wpAny_call ?_ | lk)
  refine codeAny_mono (hq _ h.objs.size _ ((F.push _).push _) N' (fun p hp => Heap.lt_size (N p hp).1) (Nat.lt_succ_self _)) fun r s' z => ?_
  rcases r with e | (v | _ | _ | _) <;> first | exact z | exact z.elim | skip
  obtain ⟨rfl, z⟩ := z
  exact wpAny_pure (wpAny_pure z)
end

theorem rf_acc (self : Value) : refuseLoop self "__setattr__" [.ref 152, .type "list", .type "object"] = pure () := by rw [refuseLoop_ref]; kernel_rfl
theorem acc_cd (p : Params) : (clsIn (hd.heap_39 p) 152).any (fun cd => cd.mro == [.ref 152, .type "list", .type "object"] && cd.hasDict) = true := by kernel_rfl
theorem acc_taker (p : Params) : takerIn (hd.heap_39 p) 152 "_initial_size" = some none := by kernel_rfl
theorem acc_setattr (p : Params) : findIn (hd.heap_39 p) (.ref 152) "__setattr__" = some (some (.builtin "object.__setattr__")) := by kernel_rfl
theorem acc_sub_obj (p : Params) : mroIn (hd.heap_39 p) 152 (.type "object") = some true := by kernel_rfl
noncomputable abbrev sizeD (hash : Int) (tk : Tok) (v : Value) : Obj := { cls := .type "dict", data := .dict #[⟨hash, .str "_initial_size" tk, v⟩] 1 }
section
variable {w : World} {A : Around} {E : Value → Shared → Prop} {s : Shared} {h₀ : Heap} {L x dx : Addr} {m : Nm} {its : List Value} {n : Nat} {news : Led}
theorem acc_set {v : Value} {Q : Unit → Shared → Prop} (F : Fr h₀ L s.heap m) (X₀ : (hd.heap_39 w.params).In h₀) (N : News h₀ L s.heap ((x, accObj dx its n) :: (dx, emptyDict) :: news)) (hxd : x ≠ dx) (ap : ∀ p ∈ news, p.1 ≠ dx)
    (h : ∀ hash tk h' k, Fr h₀ L h' m → News h₀ L h' ((x, accObj dx its n) :: (dx, sizeD hash tk v) :: news) → Q () { s with heap := h', toks := k }) : wpAny (model prg w) A (setAttr (.ref x) "_initial_size" v) Q E s := by
  have X := X₀.keeps F.keep
  have I : InstAt s.heap x (accObj dx its n) 152 (some emptyDict) := ⟨(N _ (.head _)).1, rfl, rfl, (N _ (.tail _ (.head _))).1⟩
  have SF := PySem.F.store_object
  obtain ⟨cd, hc, hcd⟩ := any_some (acc_cd w.params)
  simp only [Bool.and_eq_true, beq_iff_eq] at hcd
  obtain ⟨hmro, hdict⟩ := hcd
  have sub : Looks (model prg w) s.heap (isInstance (.ref x) (.type "object")) true := I.type.andThen (looks_mroIn X (acc_sub_obj _))
  have hm : Looks (model prg w) s.heap (mroOf (.ref 152)) cd.mro := (looks_clsIn X hc).andThen .now
  rw [hmro] at hm
  refine set_plain X I (acc_setattr _) ?_
  refine codeAny_call_builtin SF.slot.plain SF.entry (@check_slot (model prg w) _ _ _ "object.__setattr__" "object" "__setattr__" (.ref x) [.str "_initial_size" s.toks, v] [] _ SF.kind SF.split sub (SF.args (.ref x) (.str "_initial_size" s.toks) v) ?_)
  obtain ⟨attr, ha, hr⟩ := Option.bind_eq_some_iff.mp (acc_taker w.params)
  have L3 : Looks (model prg w) s.heap (Builtin.ObjectAttr.storeTaker? attr) none := by
    cases attr with
    | none => exact .now
    | some a =>
      obtain ⟨b, hb, hb2⟩ := Option.map_eq_some_iff.mp hr
      refine (looks_takesIn X hb).andThen ?_
      cases b with
      | true => cases hb2
      | false => exact .now
  rw [osa_eq, refuse_eq]
  refine wpAny_bind (wpAny_bind (I.type.here (s := { s with toks := s.toks + 1 }) (wpAny_bind (hm.here (s := { s with toks := s.toks + 1 }) ?_))))
  rw [rf_acc]
  refine wpAny_pure (wpAny_bind (I.type.here (s := { s with toks := s.toks + 1 }) (wpAny_bind ((looks_findIn X ha).here (s := { s with toks := s.toks + 1 }) (wpAny_bind (L3.here (s := { s with toks := s.toks + 1 }) ?_))))))
  have e : Obj.putName "_initial_size" (PyData.keyHash w.params "_initial_size") (.str "_initial_size" (s.toks + 1)) v emptyDict = sizeD (PyData.keyHash w.params "_initial_size") (s.toks + 1) v := by kernel_rfl
  obtain ⟨U1, U2⟩ := news_upd (pre := [(x, accObj dx its n)]) (post := news) (d := dx) (f := Obj.putName "_initial_size" (PyData.keyHash w.params "_initial_size") (.str "_initial_size" (s.toks + 1)) v) F N (fun p hp => by cases List.mem_singleton.mp hp; exact hxd) ap e rfl
  have D := (N (dx, emptyDict) (.tail _ (.head _))).1
  have D' := (U2 (dx, sizeD (PyData.keyHash w.params "_initial_size") (s.toks + 1) v) (.tail _ (.head _))).1
  have hx := (N _ (.head _)).1
  dsimp only
  refine wpAny_bind (wpAny_pure (wpAny_bind (wpAny_bind (wpAny_loadPart hx (wpAny_bind ((looks_clsIn X hc).here (s := { s with toks := s.toks + 1 }) ?_))))))
  rw [hdict]
  refine wpAny_pure (a := some dx) (wpAny_bind (wpAny_pure (wpAny_bind ?_)))
  unfold nsSet
  refine wpAny_bind (wpAny_bind (wpAny_askSetting (wpAny_pure (wpAny_bind (wpAny_mkText (wpAny_bind (wpAny_loadPart D ?_)))))))
  dsimp only
  rw [aRefKeyMayBeTheName_at, show (!(#[] : Array DictEntry).any (·.key.isStr "_initial_size") && (#[] : Array DictEntry).any (·.refKey)) = false by simp]
  refine wpAny_updatePart D ?_
  refine wpAny_bind (wpAny_lookBehind D' (pastItsLine_dict (by rw [sizeLine_eq]; simp)) ?_)
  exact wpAny_pure (h _ _ _ _ U1 U2)
end

theorem fresh_Q_init : True := by
  k_with_none
  w_on
  w_top off
  (k_with "1 my enterSd" => (refine' ks_code_super ?k1 ?k2 ?k3 ?k4 ?k5 ?kA ?kF ?kK ?k6 ?k7 ?k8 ?k9 ?kB ?_ ?c1 ?c2 ?c3 ?c4; walk_at "ce"; (case k9 => first | exact BindsTo.of_eq rfl | exact binds_K (by k_in) rfl (by k_is) rfl rfl rfl); (case kB => exact locs rfl); (case c1 => decide); (case c2 => exact rfl); (case c3 => exact rfl); (case c4 => exact rfl); intro g' L' h' FG' F' N' B' X' T' lE9; (try k_lt lE9); (try dsimp only); (try k_lift B')))
  (k_with "1 ce" => ((case kA => first | assumption | exact rfl); (case kF => first | assumption | exact rfl); (case kK => first | assumption | exact rfl); (case k1 => k_asm); (case k2 => k_asm); (case k3 => k_asm); (case k4 => k_asm); (case k5 => k_asm); (case k6 => k_is); (case k7 => k_is); (case k8 => first | assumption | ktr_room)))
  (k_with "1 eval Name" => (k_here; k_dflt (refine' nameX_L ?F ?v ?_ ?a ?b ?c; (case F => k_asm); (case a => rfl); (case b => rfl); (case v => first | exact @rfl (Option Value) (some _) | assumption); (case c => decide); k_whole)))
  (k_with "1 wpAt" => (dsimp only; ks_step "execs cons"; refine ks_wpAt_execs_cons ?_))
  (k_with "1 wpAt" => (ks_step "eval Call"; refine' ks_wpAt_MethodCall ?_ ?he; (case he => with_unfolding_all rfl)))
  trivial
theorem acc_type_init : typeOf (.builtin "list.__init__") = pure (.type "wrapper_descriptor") := by show builtinType _ = _; rw [builtinType_eq_fast]; kernel_rfl
theorem acc_along_init (p : Params) : alongIn (hd.heap_39 p) "__init__" [.type "list", .type "object"] = some (some (.builtin "list.__init__")) := by kernel_rfl
section
variable {prog : Program} {w : World} {A : Around} {E : Value → Shared → Prop} {h : Heap} {g : Array GenState} {d : Drawn} {t : Nat} {os : OsState} {x so : Addr}
theorem acc_wget_init {Q : PySem.Fin → Shared → Prop} (hi : Looks (model prog w) h (isInstance (.ref x) (.type "list")) true)
    (hq : Q (.done (.ret (.ref h.objs.size))) ⟨h.push (boundObj "method-wrapper" "list.__init__" x), g, d, t, os⟩) :
    wpAny (model prog w) A (Builtin.«wrapper_descriptor.__get__» ⟨[.builtin "list.__init__", .ref x, .ref 152], []⟩) Q E ⟨h, g, d, t, os⟩ := by
  unfold Builtin.«wrapper_descriptor.__get__»
  refine wpAny_bind (wpAny_pure (wpAny_bind (wpAny_bind (wpAny_pure ?_))))
  refine wpAny_bind (Looks.at (r := true) ?_ ?_)
  · have e : (⟨"__init__", Value.type "list"⟩ : Str × Value).2 = .type "list" := rfl
    refine cast ?_ hi
    kernel_rfl
  · refine wpAny_pure (wpAny_bind ?_)
    exact wpAny_newObj_type (wpAny_pure hq) (by size_fits)
end
section
variable {w : World} {A : Around} {E : Value → Shared → Prop} {s : Shared} {h₀ : Heap} {L x dx so b : Addr} {m : Nm} {n : Nat} {news rest : Led}
theorem acc_super_init {its : List Value} {pl : Sem Bool} {Q : Value × List Value → Shared → Prop} (F : Fr h₀ L s.heap m) (X₀ : (hd.heap_39 w.params).In h₀) (N : News h₀ L s.heap news) (hso : (so, ks_superObj 152 x 152) ∈ news) (hx : (x, accObj dx its n) ∈ news)
    (h : ∀ q h', Fr h₀ L h' m → News h₀ L h' ((q, boundObj "method-wrapper" "list.__init__" x) :: news) → (∀ p ∈ news, p.1 < q) → Q (.ref q, []) { s with heap := h', toks := s.toks + 1 }) : wpAny (model prg w) A (getMethod (.ref so) "__init__" pl) Q E s := by
  have X := X₀.keeps F.keep
  obtain ⟨hh, g, d, t, os⟩ := s
  have hi := acc_inst (M := model prg w) X (N _ hx).1
  refine acc_super_method (N _ hso).1 (looks_opaque X (acc_any _)) (acc_mro X) rfl X (acc_along_init _) (acc_ne X (N _ hx).1) (by decide) acc_type_init acc_slot_wget acc_entry_wget (acc_args_wget _ _ _) (fun t A E Q hq => acc_wget_init hi hq) ?_
  obtain ⟨F', N', l'⟩ := ks_newsPush (s := ⟨hh, g, d, t, os⟩) (o := boundObj "method-wrapper" "list.__init__" x) F N rfl (Heap.get?_push_at rfl rfl) (fun b o e => Heap.get?_push_of_some _ e)
  exact h _ _ F' N' l'
theorem acc_bound_init {Q : Value → Shared → Prop} (F : Fr h₀ L s.heap m) (N : News h₀ L s.heap news) (hb : (b, boundObj "method-wrapper" "list.__init__" x) ∈ news) (hx : (x, accObj dx [] n) ∈ news)
    (h : ∀ h', Fr h₀ L h' m → News h₀ L h' news → Q .none { s with heap := h' }) : wpAny (model prg w) A (call (.ref b) []) Q E s := by
  have hbb := (N _ hb).1
  have hxx := (N _ hx).1
  refine wpAny_call (codeAny_of_tree ?_)
  show wpAny _ A.in1 (callAny (.ref b) _) _ _ _
  refine nd_load hbb (nd_bind (nd_pure ?_))
  dsimp only
  have e1 : ((Value.type "method-wrapper" == Value.type "method" || Value.type "method-wrapper" == Value.type "builtin_function_or_method" || Value.type "method-wrapper" == Value.type "method-wrapper") = true) := by decide +kernel
  have e2 : (Value.type "method-wrapper" != Value.type "method") = true := by decide +kernel
  have e3 : checkBoundCall "list.__init__" ⟨[.ref x], []⟩ = pure () := by kernel_rfl
  refine wpAny_ite_true e1 ?_
  lk
  refine wpAny_ite_true e2 ?_
  refine wpAny_bind (wpAny_of_eq e3 ?_)
  refine wpAny_bind (wpAny_pure (a := Fin.again _) (wpAny_pure ⟨Code.quiet_builtin _ (by decide +kernel), codeAny_builtin PySem.F.entry_list_init ?_⟩))
  unfold Builtin.«list.__init__»
  dsimp only
  rw [if_neg (by decide), if_neg (by decide)]
  refine wpAny_bind (wpAny_listItems hxx rfl ?_)
  refine wpAny_bind ?_
  show wpAny _ _ (updateSeq x _) _ _ _
  refine wpAny_updateSeq hxx rfl ?_ (by rw [sizeLine_eq]; decide) (by rw [sizeLine_eq]; decide)
  refine wpAny_bind (wpAny_letGo ?_)
  refine wpAny_pure (h _ (F.change (Heap.SameBut.update ..) (N _ hx).2.1 (N _ hx).2.2) fun p hp => ⟨?_, (N p hp).2⟩)
  by_cases e : p.1 = x
  · have ep := (N p hp).1
    rw [e] at ep ⊢
    rw [Heap.get?_update_self _ hxx (by simp [Obj.mapSeq]; rfl), ← ep, hxx]
    rfl
  · exact (Heap.get?_update_ne _ _ _ _ e).trans (N p hp).1
end

theorem word1_Q_init : True := by
  (k_with "1 getMethod ref" => (k_here; (with_reducible show wpAny _ _ (getMethod (Value.ref _) (PySem.Str.ofString "__init__") _) _ _ _); k_dflt (refine Mine.acc_super_init (by k_asm) (by k_asm) (by k_asm) (by k_mem) (by k_mem) ?_; intro q' h' F' N' l1; (try k_lt l1); (try dsimp only))))
  trivial
theorem word2_Q_init : True := by
  (k_with "1 setAttr ref int" => (k_here; k_dflt (refine Mine.acc_set (by k_asm) (by k_asm) (by k_asm) (by assumption) (by assumption) ?_; intro hash' tk' h' k' F' N'; (try dsimp only))))
  trivial
theorem word3_Q_init : True := by
  (k_with "1 call ref" => (k_here; k_dflt (refine Mine.acc_bound_init (by k_asm) (by k_asm) (by k_mem) (by k_mem) ?_; intro h' F' N'; (try dsimp only))))
  trivial
theorem word4_Q_init : True := by
  (k_with "1 wpAt" => (ks_step "exec Expr"; refine' ks_wpAt_Expr_any ?_ ?hi ?hs; (case hi => with_unfolding_all rfl); (case hs => with_unfolding_all rfl)))
  trivial

theorem fresh_Q_new : True := by
  k_with_none
  w_on
  w_top off
  (k_with "1 my news" => (first | assumption | (refine Mine.newsSub (by assumption) ?_; kcj_all) | (refine Mine.newsSub (by assumption) ?_; intro _ hp; repeat (first | exact hp | refine List.Mem.tail _ ?_))))
  (k_with "1 my enterSd" => (refine' ks_code_super ?k1 ?k2 ?k3 ?k4 ?k5 ?kA ?kF ?kK ?k6 ?k7 ?k8 ?k9 ?kB ?_ ?c1 ?c2 ?c3 ?c4; walk_at "ce"; (case k9 => first | exact BindsTo.of_eq rfl | exact binds_K (by k_in) rfl (by k_is) rfl rfl rfl); (case kB => exact locs rfl); (case c1 => decide); (case c2 => exact rfl); (case c3 => exact rfl); (case c4 => exact rfl); intro g' L' h' FG' F' N' B' X' T' lE9; (try k_lt lE9); (try dsimp only); (try k_lift B')))
  (k_with "1 ce" => ((case kA => first | assumption | exact rfl); (case kF => first | assumption | exact rfl); (case kK => first | assumption | exact rfl); (case k1 => k_asm); (case k2 => k_asm); (case k3 => k_asm); (case k4 => k_asm); (case k5 => k_asm); (case k6 => k_is); (case k7 => k_is); (case k8 => first | assumption | ktr_room)))
  (k_with "1 eval Name" => (k_here; k_dflt (refine' nameX_L ?F ?v ?_ ?a ?b ?c; (case F => k_asm); (case a => rfl); (case b => rfl); (case v => first | exact @rfl (Option Value) (some _) | assumption); (case c => decide); k_whole)))
  (k_with "1 getMethod ref" => (k_here; k_dflt (refine Mine.acc_method (by k_asm) (by k_asm) (Mine.acc_instAt (by k_asm) (by k_mem) (by k_mem)) (by first | exact Mine.acc_push _ | exact Mine.acc_pop _ | exact Mine.acc_count _ | exact Mine.acc_append _) (by first | exact .inl (Mine.acc_fn _).1 | exact .inl (Mine.acc_fn _).2.1 | exact .inl (Mine.acc_fn _).2.2 | exact .inr (Mine.acc_app_type _)) (by first | assumption | exact rfl) ?_; (try dsimp only [List.cons_append, List.nil_append, List.append_nil]))))
  (k_with "1 wpAt" => (ks_step "attributeBase Call"; k_here; k_dflt (refine ks_node (by k_asm) (by k_asm) (by k_asm) (by k_asm) (by k_is) (by rfl) (by rfl) (Mine.acc_instAt (by k_asm) (by k_mem) (by k_mem)) (by k_is) (by rfl) (by first | rfl | decide +kernel) (by k_is) (by k_is) (by k_is) (by k_is) (by decide) (by rfl) (by rfl) (by rfl) (by rfl) (by decide +kernel) (by first | boot_by_name | rfl | kernel_rfl) ?_; intro so' h' F' N' l1; (try k_lt l1))))
  (k_with "1 callWith ref" => (k_here; k_dflt (refine Mine.acc_callWith0 (Mine.acc_boundAt (by k_asm) (by k_mem)) (by first | exact .inl rfl | exact .inr rfl) ?_; (try dsimp only [List.nil_append, List.append_nil]))))
  (k_with "1 wpAt" => (dsimp only; ks_step "execs cons"; refine ks_wpAt_execs_cons ?_))
  (k_with "1 wpAt" => (ks_step "eval Call"; refine' ks_wpAt_MethodCall ?_ ?he; (case he => with_unfolding_all rfl)))
  (k_with "1 getMethod ref" => (k_here; (with_reducible show wpAny _ _ (getMethod (Value.ref _) (PySem.Str.ofString "__init__") _) _ _ _); k_dflt (refine Mine.acc_super_init (by k_asm) (by k_asm) (by k_asm) (by k_mem) (by k_mem) ?_; intro q' h' F' N' l1; (try k_lt l1); (try dsimp only))))
  (k_with "1 setAttr ref int" => (k_here; k_dflt (refine Mine.acc_set (by k_asm) (by k_asm) (by k_asm) (by assumption) (by assumption) ?_; intro hash' tk' h' k' F' N'; (try dsimp only))))
  (k_with "1 call ref" => (k_here; k_dflt (refine Mine.acc_bound_init (by k_asm) (by k_asm) (by k_mem) (by k_mem) ?_; intro h' F' N'; (try dsimp only))))
  (k_with "1 wpAt" => (ks_step "exec Expr"; refine' ks_wpAt_Expr_any ?_ ?hi ?hs; (case hi => with_unfolding_all rfl); (case hs => with_unfolding_all rfl)))
  trivial
theorem acc_init_in (p : Params) : findIn (hd.heap_39 p) (.ref 152) "__init__" = some (some (.ref 89)) := by kernel_rfl
theorem acc_init_fn (p : Params) : typeIn (hd.heap_39 p) (.ref 89) = some (.type "function") := by kernel_rfl
theorem make_call (w : World) (mean : Mean) (mg mb : Nm) (news : Led) (f : Int) (tf : Tok) :
    Calls w mean mg mb 14 news (call (.ref 152) [.int f tf])
      (fun h₀ L m s Q => ∀ x dx hash tk h' tk', Fr h₀ L h' m → News h₀ L h' ((x, accObj dx [] 0) :: (dx, sizeD hash tk (.int f tf)) :: news) → (∀ p ∈ news, p.1 < dx) → dx < x → Q (.ref x) { s with heap := h', toks := tk' }) := by
  dsimp only [Calls, Ret, KH, VW, prg]
  k_fill
  intros; rename_i hret
  refine wpAny_call ?_
  rename Fr _ _ _ _ => F
  rename News _ _ _ _ => N
  rename Frag.In _ _ => X
  refine ls_make F N (X.keeps F.keep) (ls_acc _) (acc_init_in _) (acc_init_fn _) ?_
  intro x dx hq FQ NQ lA1 lA2
  have hxd : x ≠ dx := Nat.ne_of_gt lA2
  have ap : ∀ p ∈ news, p.1 ≠ dx := fun p hp => Nat.ne_of_lt (lA1 p hp)
  clear F N
  walk_at "my enterSd"
  k_steps
  exact hret _ _ _ _ _ _ (by assumption) (by walk_at "my news") lA1 lA2

theorem fresh_Q_pile : True := by
  k_with_none
  w_on
  w_top off
  (k_with "1 my enter" => (refine' code_def ?k1 ?k2 ?k3 ?k4 ?k5 ?kA ?kF ?kK ?k6 ?k7 ?k8 ?k9 ?kB ?_ ?c2 ?c3 ?c4 ?c5; walk_at "ce"; (case k9 => first | exact BindsTo.of_eq rfl | exact binds_K (by k_in) rfl (by k_is) rfl rfl rfl | fail "my enter: no rule for these arguments"); (case c5 => decide); (case kB => exact locs rfl); (case c2 => exact rfl); (case c3 => exact rfl); (case c4 => exact rfl); k_whole; intro g' L' h' FG' F' N' B' X' T'; (try dsimp only); (try k_lift B'); (try k_fold)))
  (k_with "1 my news" => (first | assumption | (refine Mine.newsSub (by assumption) ?_; kcj_all) | (refine Mine.newsSub (by assumption) ?_; intro _ hp; repeat (first | exact hp | refine List.Mem.tail _ ?_))))
  (k_with "1 my rest" => (intro z hz; have hz' := hz; simp only [List.contains_cons, Bool.or_eq_false_iff, beq_eq_false_iff_ne, ne_eq, List.contains_nil, and_true] at hz'; simp only [hz', hz, if_false, Bool.false_eq_true, ↓reduceIte]))
  (k_with "1 cd" => (dsimp only [Mine.Calls, Mine.Ret, Mine.RetNew, Mine.KH, Mine.VW, Mine.prg] at hC))
  (k_with "1 cc" => ((case k1 => k_asm); (case k2 => k_asm); (case k3 => k_asm); (case k4 => k_asm); (case k5 => k_asm); (case kK => first | exact rfl | assumption); (case kd => ktr_room); (case ku => ktr_units)))
  (k_with "1 ce" => ((case kA => first | assumption | exact rfl); (case kF => first | assumption | exact rfl); (case kK => first | assumption | exact rfl); (case k1 => k_asm); (case k2 => k_asm); (case k3 => k_asm); (case k4 => k_asm); (case k5 => k_asm); (case k6 => k_is); (case k7 => k_is); (case k8 => first | assumption | ktr_room)))
  (k_with "1 eval Name" => (k_here; k_dflt (refine' nameX_L ?F ?v ?_ ?a ?b ?c; (case F => k_asm); (case a => rfl); (case b => rfl); (case v => first | exact @rfl (Option Value) (some _) | assumption); (case c => decide); k_whole)))
  (k_with "1 getMethod ref" => (k_here; k_dflt (refine Mine.acc_method (by k_asm) (by k_asm) (Mine.acc_instAt (by k_asm) (by k_mem) (by k_mem)) (by first | exact Mine.acc_push _ | exact Mine.acc_pop _ | exact Mine.acc_count _ | exact Mine.acc_append _) (by first | exact .inl (Mine.acc_fn _).1 | exact .inl (Mine.acc_fn _).2.1 | exact .inl (Mine.acc_fn _).2.2 | exact .inr (Mine.acc_app_type _)) (by first | assumption | exact rfl) ?_; (try dsimp only [List.cons_append, List.nil_append, List.append_nil]))))
  (k_with "1 call ref" => ((with_reducible show wpAny _ _ (call (Value.ref 96) _) _ _ _); (have hC := @Mine.push0_call); (walk_at "cd"); refine' hC _ _ _ _ _ _ _ _ _ _ _ _ ?x0 ?x1 ?x2 ?x3 _ _ _ _ _ _ _ _ _ _ _ _ _ _ _ _ _ ?k1 ?k2 ?k3 ?k4 ?k5 ?kK ?kd ?ku ?_; walk_at "cc"; (case x0 => first | assumption | k_mem); (case x1 => assumption); (case x2 => assumption); (case x3 => assumption); clear hC; intro T9 h9 tk9 F9 N9 l9; (try dsimp only)))
  trivial
section
variable {prog : Program} {w : World} {A : Around} {E : Value → Shared → Prop} {s : Shared} {env : Env} {h₀ : Heap} {x : Str} {body : List Stmt} {Q : Flow → Shared → Prop}
theorem list_rest {I ax : Addr} {lo : Obj} {vs : List Value} (J : Nat → Nm → Led → Prop) (hJl : ∀ i m nw, J i m nw → (ax, lo) ∈ nw)
    (turn : ∀ i v it m₁ nw h tk, vs[i]? = some v → J i m₁ nw → (∀ p ∈ nw, p.1 ≠ I) → Fr h₀ env.locals h (fun y => if y = x then some v else m₁ y) → News h₀ env.locals h ((I, it) :: nw) →
      wpAny (model prog w) A (execs body env) (UnrPost h₀ env.locals { s with heap := h, toks := tk } I it (J (i + 1)) Q) E { s with heap := h, toks := tk })
    (done : ∀ m₁ nw h tk, J vs.length m₁ nw → Fr h₀ env.locals h m₁ → News h₀ env.locals h nw → Q .next { s with heap := h, toks := tk }) :
    ∀ (r : List Value) (i : Nat) (m : Nm) (nw : Led), vs.drop i = r → i ≤ vs.length → J i m nw → (∀ p ∈ nw, p.1 ≠ I) → ListRest prog w A E h₀ env x body Q s I (ax, lo) r m nw
  | [], i, m, nw, e, hi, hJ, _ => .zero fun h tk F N => done m nw h tk (by
      have : vs.length ≤ i := List.drop_eq_nil_iff.mp e
      rw [show vs.length = i by lia]; exact hJ) F N
  | v :: r, i, m, nw, e, hi, hJ, off => .succ fun it h tk hic F N => by
    have hlt : i < vs.length := by
      rcases Nat.lt_or_ge i vs.length with h | h
      · exact h
      · rw [List.drop_eq_nil_of_le h] at e; cases e
    have hv : vs[i]? = some v := by
      rw [List.drop_eq_getElem_cons hlt] at e
      rw [List.getElem?_eq_getElem hlt]
      exact congrArg some (List.cons.inj e).1
    have hr : vs.drop (i + 1) = r := by
      rw [List.drop_eq_getElem_cons hlt] at e
      exact (List.cons.inj e).2
    exact wpAny_mono (turn i v it m nw h tk hv hJ off F N) (fun f s₂ p => unr_mono p fun m' nw' off' hJ' => ⟨hJl _ _ _ hJ', list_rest J hJl turn done r (i + 1) m' nw' hr hlt hJ' off'⟩) fun _ _ e => e
theorem list_inv {ax : Addr} {lo : Obj} {vs : List Value} {n : Nat} {m₀ : Nm} {news : Led} (J : Nat → Nm → Led → Prop)
    (hh : A.handled = none) (F : Fr h₀ env.locals s.heap m₀) (N : News h₀ env.locals s.heap news) (hm : (ax, lo) ∈ news) (hc : lo.cls = .type "list") (hd : lo.data = .seq vs.toArray n) (hJ : J 0 m₀ news) (hJl : ∀ i m nw, J i m nw → (ax, lo) ∈ nw)
    (turn : ∀ I i v it m₁ nw h tk, vs[i]? = some v → J i m₁ nw → (∀ p ∈ nw, p.1 ≠ I) → Fr h₀ env.locals h (fun y => if y = x then some v else m₁ y) → News h₀ env.locals h ((I, it) :: nw) →
      wpAny (model prog w) A (execs body env) (UnrPost h₀ env.locals { s with heap := h, toks := tk } I it (J (i + 1)) Q) E { s with heap := h, toks := tk })
    (done : ∀ m₁ nw h tk, J vs.length m₁ nw → Fr h₀ env.locals h m₁ → News h₀ env.locals h nw → Q .next { s with heap := h, toks := tk }) :
    wpAny (model prog w) A (pyIter (.ref ax)) (fun it s₂ => LoopAtV prog w A h₀ env x body Q E it s₂) E s :=
  iter_listUnr hh F N hm hc hd fun I hI => list_rest J hJl (turn I) done vs 0 m₀ news rfl (Nat.zero_le _) hJ fun p hp e => by
    have := hI p hp
    rw [e] at this
    exact Nat.lt_irrefl _ this
end
noncomputable def PJ (m₀ : Nm) (news : Led) (p dx : Addr) (od : Obj) (lp : Addr × Obj) (k : Int) (i : Nat) (m : Nm) (nw : Led) : Prop :=
  (∀ z, ([Str.ofString "figure"] : List Str).contains z = false → m z = m₀ z) ∧ ∃ n Ts rest', nw = (p, accObj dx (refs Ts) n) :: rest' ∧ Ts.length = i ∧ (∀ j, j < i → IsP rest' (Ts.getD j 0) (digS (fig k (7 - j)))) ∧ (dx, od) ∈ rest' ∧ lp ∈ rest' ∧ (∀ q ∈ news, q ∈ rest') ∧ (∀ q ∈ rest', q.1 ≠ p)
theorem PJ.start {m : Nm} {news rest : Led} {p dx : Addr} {od : Obj} {lp : Addr × Obj} {k : Int} {n : Nat} (hd : (dx, od) ∈ rest) (hl : lp ∈ rest) (hs : ∀ q ∈ news, q ∈ rest) (ap : ∀ q ∈ rest, q.1 ≠ p) : PJ m news p dx od lp k 0 m ((p, accObj dx [] n) :: rest) :=
  ⟨fun _ _ => rfl, n, [], rest, rfl, rfl, (fun _ h => absurd h (Nat.not_lt_zero _)), hd, hl, hs, ap⟩
theorem PJ.step {m₀ m : Nm} {news rest' : Led} {p dx T : Addr} {od : Obj} {lp : Addr × Obj} {k : Int} {Ts : List Addr} {n i : Nat} {t1 t2 : Tok} (hf : ∀ z, ([Str.ofString "figure"] : List Str).contains z = false → m z = m₀ z) (hz : Ts.length = i)
    (hT : ∀ j, j < i → IsP rest' (Ts.getD j 0) (digS (fig k (7 - j)))) (hd : (dx, od) ∈ rest') (hl : lp ∈ rest') (hs : ∀ q ∈ news, q ∈ rest') (ap : ∀ q ∈ rest', q.1 ≠ p) (hTp : T ≠ p) :
    PJ m₀ news p dx od lp k (i + 1) m ((p, accObj dx ((refs Ts) ++ [.ref T]) n) :: (T, tupO #[.str (Str.ofString " ") t1, .str (digS (fig k (7 - i))) t2]) :: rest') := by
  have e : refs (Ts ++ [T]) = refs Ts ++ [.ref T] := by rw [refs_app]; rfl
  refine ⟨hf, n, Ts ++ [T], (T, tupO #[.str (Str.ofString " ") t1, .str (digS (fig k (7 - i))) t2]) :: rest', by rw [e], by simp [hz], ?_, .tail _ hd, .tail _ hl, fun q hq => .tail _ (hs q hq), ap_cons hTp ap⟩
  intro j hj
  rcases Nat.lt_or_ge j i with h | h
  · have : (Ts ++ [T]).getD j 0 = Ts.getD j 0 := by
      rw [List.getD_eq_getElem?_getD, List.getD_eq_getElem?_getD, List.getElem?_append_left (by lia)]
    rw [this]
    exact (hT j h).mono fun q hq => .tail _ hq
  · have hji : j = i := by lia
    subst hji
    have : (Ts ++ [T]).getD j 0 = T := by
      rw [List.getD_eq_getElem?_getD, List.getElem?_append_right (by lia), hz, Nat.sub_self]
      rfl
    rw [this]
    exact ⟨_, _, .head _⟩
theorem figF {m₀ m₁ : Nm} {v : Option Value} {h₀ h : Heap} {L : Addr} (hf : ∀ z, ([Str.ofString "figure"] : List Str).contains z = false → m₁ z = m₀ z) (F : Fr h₀ L h (fun y => if y = Str.ofString "figure" then v else m₁ y)) : Fr h₀ L h (fun y => if y = Str.ofString "figure" then v else m₀ y) :=
  frame_as F fun z => by
    by_cases h1 : z = Str.ofString "figure"
    · simp only [h1, if_true]
    · simp only [h1, if_false]
      exact (hf z (by simp [h1])).symm
theorem figE {m₀ m₁ : Nm} {h₀ h : Heap} {L : Addr} (hf : ∀ z, ([Str.ofString "figure"] : List Str).contains z = false → m₁ z = m₀ z) (F : Fr h₀ L h m₁) : Fr h₀ L h (fun y => if y = Str.ofString "figure" then m₁ y else m₀ y) :=
  frame_as F fun z => by
    by_cases h1 : z = Str.ofString "figure"
    · simp only [h1, if_true]
    · simp only [h1, if_false]
      exact (hf z (by simp [h1])).symm
theorem pile_led {h₀ h : Heap} {L D x dx : Addr} {lo a od : Obj} {news : Led} (N : News h₀ L h ((D, lo) :: (x, a) :: (dx, od) :: news)) (l : ∀ p ∈ (x, a) :: (dx, od) :: news, p.1 < D) (l1 : ∀ p ∈ news, p.1 < dx) (l2 : dx < x) :
    News h₀ L h ((x, a) :: (D, lo) :: (dx, od) :: news) ∧ ∀ q ∈ (D, lo) :: (dx, od) :: news, q.1 ≠ x :=
  ⟨newsSwap N, ap_cons (Nat.ne_of_gt (l _ (.head _))) (ap_cons (Nat.ne_of_lt l2) fun q hq => Nat.ne_of_lt (Nat.lt_trans (l1 q hq) l2))⟩
theorem size_noApp {dx : Addr} {hash : Int} {tk : Tok} {v : Value} {rest : Led} (_ : (dx, sizeD hash tk v) ∈ rest) : shadowIn (some (sizeD hash tk v)) "append" = some false := by rfl
theorem pile_turn {Q : Flow → Shared → Prop} {s₁ : Shared} {h₀ h' : Heap} {L I : Addr} {it : Obj} {tk : Nat} {m₀ m : Nm} {news rest' : Led} {p dx T : Addr} {od : Obj} {lp : Addr × Obj} {k : Int} {Ts : List Addr} {n i : Nat} {t1 t2 : Tok} (F : Fr h₀ L h' m)
    (N : News h₀ L h' ((T, tupO #[.str (Str.ofString " ") t1, .str (digS (fig k (7 - i))) t2]) :: (p, accObj dx ((refs Ts) ++ [.ref T]) n) :: (I, it) :: rest')) (hp : p ≠ I) (hTI : T ≠ I) (off : ∀ q ∈ rest', q.1 ≠ I)
    (hf : ∀ z, ([Str.ofString "figure"] : List Str).contains z = false → m z = m₀ z) (hz : Ts.length = i)
    (hT : ∀ j, j < i → IsP rest' (Ts.getD j 0) (digS (fig k (7 - j)))) (hd : (dx, od) ∈ rest') (hl : lp ∈ rest') (hs : ∀ q ∈ news, q ∈ rest') (ap : ∀ q ∈ rest', q.1 ≠ p) (hTp : T ≠ p) :
    UnrPost h₀ L s₁ I it (PJ m₀ news p dx od lp k (i + 1)) Q .next { s₁ with heap := h', toks := tk } :=
  UnrPost.mk F N ((p, accObj dx ((refs Ts) ++ [.ref T]) n) :: (T, tupO #[.str (Str.ofString " ") t1, .str (digS (fig k (7 - i))) t2]) :: rest') (.tail _ (.tail _ (.head _)))
    (fun q hq => (List.mem_cons.mp hq).elim (fun e => e ▸ .tail _ (.head _)) fun hq => (List.mem_cons.mp hq).elim (fun e => e ▸ .head _) fun hq => .tail _ (.tail _ (.tail _ hq)))
    (ap_cons hp (ap_cons hTI off)) (PJ.step hf hz hT hd hl hs ap hTp)
theorem fig_item (k : Int) {u7 u6 u5 u4 u3 u2 u1 u0 : Tok} {i : Nat} {v : Value} (h : ([.str (digS (fig k (7 - 0))) u7, .str (digS (fig k (7 - 1))) u6, .str (digS (fig k (7 - 2))) u5, .str (digS (fig k (7 - 3))) u4, .str (digS (fig k (7 - 4))) u3, .str (digS (fig k (7 - 5))) u2, .str (digS (fig k (7 - 6))) u1, .str (digS (fig k (7 - 7))) u0] : List Value)[i]? = some v) :
    i < 8 ∧ ∃ t, v = .str (digS (fig k (7 - i))) t := by
  exact ⟨PyProof.Rows.place_lt h, at8 (P := fun i v => ∃ t, v = Value.str (digS (fig k (7 - i))) t) ⟨_, rfl⟩ ⟨_, rfl⟩ ⟨_, rfl⟩ ⟨_, rfl⟩ ⟨_, rfl⟩ ⟨_, rfl⟩ ⟨_, rfl⟩ ⟨_, rfl⟩ h⟩
theorem word1_Q_pile : True := by
  (k_with "1 call ref" => ((with_reducible show wpAny _ _ (call (Value.ref 152) _) _ _ _); (have hC := @Mine.make_call); (walk_at "cd"); refine' hC _ _ _ _ _ _ _  _ _ _ _ _ _ _ _ _ _ _ _ _ _ _ _ _ ?k1 ?k2 ?k3 ?k4 ?k5 ?kK ?kd ?ku ?_; walk_at "cc"; clear hC; intro x9 dx9 hash9 tkd9 h9 tk9 F9 N9 l9 l9'; (try k_lt l9); (try dsimp only)))
  trivial
theorem word2_Q_pile : True := by
  (k_with "1 call ref" => ((with_reducible show wpAny _ _ (call (Value.ref 168) _) _ _ _); (have hC := @Mine.figs_call); (walk_at "cd"); refine' hC _ _ _ _ _ _ _ ?x0 ?x1 _ _ _ _ _ _ _ _ _ _ _ _ _ _ _ _ _ ?k1 ?k2 ?k3 ?k4 ?k5 ?kK ?kd ?ku ?_; walk_at "cc"; (case x0 => assumption); (case x1 => assumption); clear hC; intro t9 h9 tk9 F9 N9; (try dsimp only)))
  trivial

namespace pile_call_z
noncomputable def zS (zkk : KXC) (w : World) (mean : Mean) (mg : Nm) (mb : Nm) (news : Led) (k : Int) (f : Int) (t : Tok) (tf : Tok) : Prop := ∀ (hk0 : 0 ≤ k) (hk1 : k < 10000), CallsAt w mean mg mb 30 news (call (.ref 175) [Value.int k t, .int f tf])
      (fun h₀ L m s Q => ∀ p dx hash tkd Ts rest' n h' tk', Fr h₀ L h' m → News h₀ L h' ((p, accObj dx (refs Ts) n) :: rest') → Ts.length = 8 → (∀ i, i < 8 → IsP rest' (Ts.getD i 0) (digS (fig k (7 - i)))) →
        (dx, sizeD hash tkd (.int f tf)) ∈ rest' → (∀ q ∈ news, q ∈ rest') → (∀ q ∈ rest', q.1 ≠ p) → Q (.ref p) { s with heap := h', toks := tk' }) (zkk.1) (zkk.2.1) (zkk.2.2.1) (zkk.2.2.2.1) (zkk.2.2.2.2.1) (zkk.2.2.2.2.2.1) (zkk.2.2.2.2.2.2.1) (zkk.2.2.2.2.2.2.2.1) (zkk.2.2.2.2.2.2.2.2.1) (zkk.2.2.2.2.2.2.2.2.2.1) (zkk.2.2.2.2.2.2.2.2.2.2.1) (zkk.2.2.2.2.2.2.2.2.2.2.2.1) (zkk.2.2.2.2.2.2.2.2.2.2.2.2.1) (zkk.2.2.2.2.2.2.2.2.2.2.2.2.2.1) (zkk.2.2.2.2.2.2.2.2.2.2.2.2.2.2.1) (zkk.2.2.2.2.2.2.2.2.2.2.2.2.2.2.2.1) (zkk.2.2.2.2.2.2.2.2.2.2.2.2.2.2.2.2)
noncomputable abbrev zT : Type := (KXC) × (World) × (Mean) × (Nm) × (Nm) × (Led) × (Int) × (Int) × (Tok) × (Tok)
noncomputable def zP (x : zT) : Prop := zS x.1 x.2.1 x.2.2.1 x.2.2.2.1 x.2.2.2.2.1 x.2.2.2.2.2.1 x.2.2.2.2.2.2.1 x.2.2.2.2.2.2.2.1 x.2.2.2.2.2.2.2.2.1 x.2.2.2.2.2.2.2.2.2
theorem zne : Nonempty zT := ⟨(dKXC, dW, fun _ => none, fun _ => none, fun _ => none, [], 0, 0, (0 : Nat), (0 : Nat))⟩
noncomputable def zc : zT := @Classical.epsilon _ zne fun x => ¬ zP x
@[irreducible] noncomputable def zkk : KXC := zc.1
@[irreducible] noncomputable def w : World := zc.2.1
@[irreducible] noncomputable def mean : Mean := zc.2.2.1
@[irreducible] noncomputable def mg : Nm := zc.2.2.2.1
@[irreducible] noncomputable def mb : Nm := zc.2.2.2.2.1
@[irreducible] noncomputable def news : Led := zc.2.2.2.2.2.1
@[irreducible] noncomputable def k : Int := zc.2.2.2.2.2.2.1
@[irreducible] noncomputable def f : Int := zc.2.2.2.2.2.2.2.1
@[irreducible] noncomputable def t : Tok := zc.2.2.2.2.2.2.2.2.1
@[irreducible] noncomputable def tf : Tok := zc.2.2.2.2.2.2.2.2.2
theorem zmain : zS zkk w mean mg mb news k f t tf := by
  unfold zS
  intro hk0 hk1
  dsimp only [CallsAt, Ret, KH, VW, prg]
  k_fill
  intros; rename_i hret
  refine wpAny_call ?_
  walk_at "my enter"
  (k_with "getMethod str" => refine hold ?_)
  k_steps
  dsimp only [Hold]
  generalize hS : figsText k = S
  refine getMethod_builtin (PySem.typeIs_str _ _ _) PySem.F.plainAttrs_str PySem.F.slot_str_split PySem.F.type_str_split (fun a ha => by cases ha) ?_
  dsimp only
  (k_with "call builtin:str.split" => refine hold ?_)
  k_steps
  dsimp only [Hold]
  rw [← hS, figsText_eq]
  rename News _ _ _ _ => N0
  refine split8 (by k_asm) N0 (figs_fig k) ?_
  intro D u7 u6 u5 u4 u3 u2 u1 u0 h1 k1 F1 N1 l1
  clear N0
  dsimp only
  obtain ⟨N2, ap⟩ := pile_led N1 l1 (by assumption) (by assumption)
  clear N1
  refine list_inv (PJ _ news _ _ (sizeD _ _ _) (D, _) k) rfl (by k_asm) N2 (.tail _ (.head _)) rfl rfl (PJ.start (.tail _ (.head _)) (.head _) (fun q hq => .tail _ (.tail _ hq)) ap) (fun i m nw h => by obtain ⟨_, n, Ts, r, rfl, _, _, _, hl, _⟩ := h; exact .tail _ hl) ?_ ?_
  · intro I i v it m₁ nw h tk hv hJ off F N
    obtain ⟨hi, tv, rfl⟩ := fig_item k hv
    have hfr := hJ.1
    refine exE3 (hJ.2) fun n Ts rest' hh9 => ?_
    refine anE7 hh9 fun enw hz hT hd hl hs ap' => ?_
    clear hh9 hJ
    subst enw
    have F2 := figF hfr F
    have N3 := newsSwap N
    clear F N hv N2 ap
    have apI : ∀ q ∈ (I, it) :: rest', q.1 ≠ _ := ap_cons (fun e => off _ (.head _) e.symm) ap'
    have hz4 : (refs Ts).length ≤ 1000 := by rw [refs_len]; lia
    have hdI := List.Mem.tail (I, it) hd
    have hsh := size_noApp hd
    (k_with "UnrPost" => refine hold ?_)
    k_steps
    rename News _ _ _ _ => N9
    rename _ ∧ AllLt _ _ => l9
    exact pile_turn (by k_asm) N9 (off _ (.head _)) (lt_ne l9.2.1) (fun q hq => off q (.tail _ hq)) (by walk_at "my rest") hz hT hd hl hs ap' (lt_ne l9.1)
  · intro m₁ nw h tk hJ F N
    have hfr := hJ.1
    refine exE3 (hJ.2) fun n Ts rest' hh9 => ?_
    refine anE7 hh9 fun enw hz hT hd hl hs ap' => ?_
    clear hh9 hJ
    subst enw
    have F2 := figE hfr F
    clear F N2 ap
    k_steps
    exact hret _ _ _ _ Ts rest' _ _ _ (by assumption) (by walk_at "my news") hz hT hd hs ap'
end pile_call_z
theorem pile_call (w : World) (mean : Mean) (mg mb : Nm) (news : Led) (k f : Int) (t tf : Tok) (hk0 : 0 ≤ k) (hk1 : k < 10000) : Calls w mean mg mb 30 news (call (.ref 175) [Value.int k t, .int f tf])
      (fun h₀ L m s Q => ∀ p dx hash tkd Ts rest' n h' tk', Fr h₀ L h' m → News h₀ L h' ((p, accObj dx (refs Ts) n) :: rest') → Ts.length = 8 → (∀ i, i < 8 → IsP rest' (Ts.getD i 0) (digS (fig k (7 - i)))) →
        (dx, sizeD hash tkd (.int f tf)) ∈ rest' → (∀ q ∈ news, q ∈ rest') → (∀ q ∈ rest', q.1 ≠ p) → Q (.ref p) { s with heap := h', toks := tk' }) := by
  intro kdp kun kgd kcn kcs ka kccd kcl kouter kA kbase kh kL km ks kQ kE
  exact @clz _ pile_call_z.zP pile_call_z.zne (by with_unfolding_all exact pile_call_z.zmain) ((kdp, kun, kgd, kcn, kcs, ka, kccd, kcl, kouter, kA, kbase, kh, kL, km, ks, kQ, kE), w, mean, mg, mb, news, k, f, t, tf) hk0 hk1

noncomputable def SeqAt (h : Heap) (a : Addr) (items : Array Value) : Prop := ∃ o n, h.get? a = some o ∧ o.data = .seq items n
theorem SeqAt.at {h h' : Heap} {a : Addr} {items : Array Value} (x : SeqAt h a items) (k : ∀ o, h.get? a = some o → h'.get? a = some o) : SeqAt h' a items := let ⟨o, n, ho, r⟩ := x; ⟨o, n, k o ho, r⟩
section
variable {prog : Program} {w : World} {A : Around} {E : Value → Shared → Prop} {s : Shared}
theorem seq_next {it l : Addr} {i : Nat} {items : Array Value} {x : Value} {Q : Option Value → Shared → Prop} (hit : s.heap.IsListIter it l i) (hl : SeqAt s.heap l items) (hx : items[i]? = some x)
    (hQ : ∀ h', h'.IsListIter it l (i + 1) → Heap.SameBut it s.heap h' → Q (some x) { s with heap := h' }) : wpAny (model prog w) A (pyNext (.ref it)) Q E s := by
  obtain ⟨o, ho, hc, hd⟩ := id hit
  obtain ⟨ol, nl, hol, hdl⟩ := hl
  refine wpAny_bind (wpAny_attempt (wpAny_callSpecial?_slot (name := Str.ofString "__next__") hit.typeIs slot_listiter_next
    (wpAny_call_entry slot_listiter_next hit.typeIs entry_listiter_next ?_ (args_listiter_next _))))
  refine wpAny_bind (m := field (.ref it) 0) (wpAny_field ho hd (x := .ref l) rfl ?_)
  dsimp only
  rw [if_neg (by exact Bool.false_ne_true)]
  refine wpAny_bind (m := field (.ref it) 1) (wpAny_field ho hd (x := .int i 0) rfl ?_)
  refine wpAny_bind (m := seqItems? (.ref l)) (wpAny_seqItems hol hdl ?_)
  simp only [Int.toNat_natCast, hx]
  refine wpAny_bind (wpAny_setField ho hd (by simp) (wpAny_pure ⟨x, rfl, wpAny_pure (hQ _ ?_ (Heap.SameBut.update ..))⟩))
  exact ⟨_, Heap.get?_update_self _ ho (Obj.isFreed_of_fields (Obj.data_mapFields hd _)), (Obj.cls_mapFields ..).trans hc, by
    rw [Obj.data_mapFields hd]; simp [rawInt]⟩
theorem seq_end {it l : Addr} {i : Nat} {items : Array Value} {Q : Option Value → Shared → Prop} (hh : A.handled = none) (hit : s.heap.IsListIter it l i) (hl : SeqAt s.heap l items) (hx : items[i]? = none)
    (hQ : ∀ h', Heap.ExtBut it s.heap h' → Q none { s with heap := h' }) : wpAny (model prog w) A (pyNext (.ref it)) Q E s := by
  obtain ⟨o, ho, hc, hd⟩ := id hit
  obtain ⟨ol, nl, hol, hdl⟩ := hl
  refine wpAny_bind (wpAny_attempt (wpAny_callSpecial?_slot (name := Str.ofString "__next__") hit.typeIs slot_listiter_next
    (wpAny_call_entry slot_listiter_next hit.typeIs entry_listiter_next ?_ (args_listiter_next _))))
  refine wpAny_bind (m := field (.ref it) 0) (wpAny_field ho hd (x := .ref l) rfl ?_)
  dsimp only
  rw [if_neg (by exact Bool.false_ne_true)]
  refine wpAny_bind (m := field (.ref it) 1) (wpAny_field ho hd (x := .int i 0) rfl ?_)
  refine wpAny_bind (m := seqItems? (.ref l)) (wpAny_seqItems hol hdl ?_)
  simp only [Int.toNat_natCast, hx]
  refine wpAny_bind (wpAny_rule (wpAny_bind (wpAny_setField ho hd (by simp) ?_)))
  refine wpAny_bind (m := newExc (.type "StopIteration") []) ?_
  unfold newExc newTuple
  refine wpAny_bind (wpAny_newObj_type ?_ (by size_fits))
  refine wpAny_bind (m := firstArgMember _ _) (wpAny_of_eq (a := Value.none) (by first | rfl | (simp only [firstArgMember]; rfl)) ?_)
  refine wpAny_newObj_type ?_ (by size_fits)
  unfold raiseNew
  refine wpAny_bind (wpAny_handled ?_)
  rw [show A.in1.handled = none from hh]
  refine wpAny_bind (wpAny_pure (wpAny_throw ?_))
  refine wpAny_bind (wpAny_isInstance (T := "StopIteration") (b := true) ⟨_, Heap.get?_push_size _ rfl, rfl⟩ isSubtype_stop ?_)
  exact wpAny_pure (hQ _ (((Heap.SameBut.update ..).extBut.push _).push _))
end
theorem walksSeq {prog : Program} {w : World} {A : Around} (hh : A.handled = none) (I ax : Addr) (hne : ax ≠ I) (items : Array Value) (Ts : Nat → Addr) (vals : Nat → Array Value)
    (hit : ∀ j, j < items.size → items[j]? = some (.ref (Ts j))) (hTI : ∀ j, j < items.size → Ts j ≠ I) :
    WalksU prog w A I (I :: ax :: (List.range items.size).map Ts) [I] items.size (fun j v => v = vals j)
      (fun j h => h.IsListIter I ax j ∧ SeqAt h ax items ∧ ∀ k, k < items.size → h.IsTuple (Ts k) (vals k))
      (fun j T h => (j < items.size ∧ T = Ts j) ∧ h.IsListIter I ax (j + 1) ∧ SeqAt h ax items ∧ ∀ k, k < items.size → h.IsTuple (Ts k) (vals k)) where
  sub := fun b hb => by simp at hb; simp [hb]
  frame := fun _ _ _ st hk => ⟨st.1.at fun o e => hk I (by simp) o e, st.2.1.at fun o e => hk ax (by simp) o e,
    fun k hk' => (st.2.2 k hk').at fun o e => hk (Ts k) (List.mem_cons_of_mem _ (List.mem_cons_of_mem _ (List.mem_map.mpr ⟨k, List.mem_range.mpr hk', rfl⟩))) o e⟩
  item := fun i s Q E hi st hQ => by
    refine seq_next st.1 st.2.1 (x := .ref (Ts i)) (hit i hi) fun h' hit' hs' => ?_
    have tup : ∀ k, k < items.size → h'.IsTuple (Ts k) (vals k) := fun k hk' => (st.2.2 k hk').extBut hs'.extBut (hTI k hk')
    exact hQ (Ts i) (vals i) h' s.toks rfl (tup i hi) ⟨⟨hi, rfl⟩, hit', st.2.1.at fun o e => hs'.extBut ax o hne e, tup⟩ fun b o hb e => hs'.extBut b o (fun h => hb (by simp [h])) e
  go := fun _ _ _ _ _ s Q _ hm hQ => wpAny_letOwnedTupleGo_listiter hm.2.1 (hQ s.heap hm.2 fun _ _ _ e => e)
  apart := fun j T _ hm hmem => by
    rcases List.mem_cons.mp hmem with e | e
    · exact hTI j hm.1.1 (hm.1.2 ▸ e)
    · cases e
  done := fun s Q E st hQ => seq_end hh st.1 st.2.1 (by simp) fun h' he' => hQ h' s.toks fun b o hb e => he' b o (fun h => hb (by simp [h])) e
  self := fun _ _ _ _ st hQ => wpAny_pyIter_listiter st.1 hQ

theorem acc_iter_in (p : Params) : findIn (hd.heap_39 p) (.ref 152) "__iter__" = some (some (.builtin "list.__iter__")) := by kernel_rfl
section
variable {w : World} {A : Around} {E : Value → Shared → Prop} {s : Shared} {h₀ : Heap} {L x dx : Addr} {m : Nm} {its : List Value} {n : Nat} {news : Led}
theorem acc_pyIter {Q : Value → Shared → Prop} (F : Fr h₀ L s.heap m) (X₀ : (hd.heap_39 w.params).In h₀) (hx : s.heap.get? x = some (accObj dx its n))
    (h : Q (.ref s.heap.objs.size) { s with heap := s.heap.push { cls := .type "list_iterator", data := .fields #[.ref x, .int 0 0] } }) : wpAny (model prg w) A (pyIter (.ref x)) Q E s := by
  have X := X₀.keeps F.keep
  have hT : Looks (model prg w) s.heap (typeOf (.ref x)) (.ref 152) := (Looks.ld (part := some headPart) hx).andThen .now
  unfold pyIter
  unfold specialOf
  refine wpAny_bind (wpAny_bind (hT.here ((looks_findIn X (acc_iter_in _)).here ?_)))
  dsimp only
  unfold callSpecialIfBoundUnlessNone? bindSpecialIfBound?
  unfold specialOf
  refine wpAny_bind (wpAny_holding (wpAny_bind ?_))
  refine wpAny_bind (wpAny_bind (hT.here ((looks_findIn X (acc_iter_in _)).here ?_)))
  dsimp only
  rw [slot_list_iter.bind]
  have li_kind : builtinKind "list.__iter__" = some .slot := by decide +kernel
  have li_split : splitId "list.__iter__" = some ("list", "__iter__") := by decide +kernel
  have fin : wpAny (model prg w) A (call (.builtin "list.__iter__") [.ref x]) (fun v s' => v = .ref s.heap.objs.size ∧ s' = { s with heap := s.heap.push { cls := .type "list_iterator", data := .fields #[.ref x, .int 0 0] } }) E s := by
    refine wpAny_call (codeAny_call_builtin slot_list_iter.plain entry_list_iter (acc_check (.inl li_kind) li_split (acc_inst X hx) (args_list_iter _) ?_))
    show wpAny _ _ (do ret (← newFields "list_iterator" [.ref x, rawInt 0])) _ _ s
    exact wpAny_bind (wpAny_newObj_type (wpAny_pure ⟨rfl, rfl⟩))
  refine wpAny_bind (wpAny_askSetting (wpAny_ite ?_))
  split
  · refine wpAny_bind (wpAny_pure (wpAny_pure ?_))
    dsimp only
    rw [if_neg (by exact Bool.false_ne_true)]
    refine wpAny_bind (wpAny_mono fin (fun v s' hv => ?_) fun _ _ e => e)
    obtain ⟨rfl, rfl⟩ := hv
    refine wpAny_pure ?_
    dsimp only
    refine wpAny_bind (wpAny_bind (wpAny_typeOf (T := "list_iterator") ⟨_, Heap.get?_push_size _ rfl, rfl⟩ (wpAny_of_eq slot_listiter_next.lookup ?_)))
    exact wpAny_pure h
  · refine wpAny_tryCatch (wpAny_bind (wpAny_pure (wpAny_pure ?_)))
    dsimp only
    rw [if_neg (by exact Bool.false_ne_true)]
    refine wpAny_bind (wpAny_mono fin (fun v s' hv => ?_) fun _ _ e => e)
    obtain ⟨rfl, rfl⟩ := hv
    refine wpAny_pure ?_
    dsimp only
    refine wpAny_bind (wpAny_bind (wpAny_typeOf (T := "list_iterator") ⟨_, Heap.get?_push_size _ rfl, rfl⟩ (wpAny_of_eq slot_listiter_next.lookup ?_)))
    exact wpAny_pure h
end

noncomputable def shW (x : Int) (val : Nat → Int) : Nat → Int
  | 0 => x
  | j + 1 => val j
theorem preSum_sh (x : Int) (val : Nat → Int) : ∀ j, preSum (shW x val) (j + 1) = x + preSum val j
  | 0 => by simp [preSum, shW]
  | j + 1 => by
    rw [show preSum (shW x val) (j + 1 + 1) = preSum (shW x val) (j + 1) + val j from rfl, preSum_sh x val j]
    show x + preSum val j + val j = x + (preSum val j + val j)
    lia
theorem walksShift {prog : Program} {w : World} {A : Around} {I : Addr} {fp wr : List Addr} {G : Array GenState → Array GenState → Prop} {n : Nat} {P : Nat → Value → Prop} {St : Nat → Shared → Prop}
    (W : WalksS prog w A I fp wr G n P St) : WalksS prog w A I fp wr G (n + 1) (fun i v => match i with | 0 => False | j + 1 => P j v) (fun i s => match i with | 0 => False | j + 1 => St j s) where
  sub := W.sub
  grefl := W.grefl
  gtrans := W.gtrans
  frame := fun i s h' tk st ht hk => by
    cases i with
    | zero => exact st
    | succ j => exact W.frame j s h' tk st ht hk
  item := fun i s Q E hi st hQ => by
    cases i with
    | zero => exact st.elim
    | succ j => exact W.item j s Q E (by lia) st hQ
  done := fun s Q E st hQ => W.done s Q E st hQ
  self := fun i s Q E st hQ => by
    cases i with
    | zero => exact st.elim
    | succ j => exact W.self j s Q E st hQ
theorem args_sum2 (a b : Value) : argsOk "sum" ⟨[a, b], []⟩ := by unfold argsOk; kernel_rfl
section
variable {prog : Program} {w : World} {A : Around} {E : Value → Shared → Prop} {s : Shared}
theorem sum_from {x : Value} {f : Int} {tf : Tok} {Q : Value → Shared → Prop} (hf : InLong f)
    (h : wpAny (model prog w) A.in1 (pyIter x) (fun it s₂ => ∃ I fp wr G n P St val, it = .ref I ∧ WalksS prog w A.in1 I fp wr G n P St ∧ St 0 s₂ ∧ (∀ b ∈ fp, b < s₂.heap.objs.size) ∧
      (∀ i v, P i v → ∃ t, v = .int (val i) t) ∧ (∀ j, j < n → InLong (val j) ∧ InLong (f + preSum val (j + 1))) ∧
      ∀ s' t', Moved wr G s₂ s' → Q (.int (f + preSum val n) t') s') E s) :
    wpAny (model prog w) A (call (.builtin "sum") [x, .int f tf]) Q E s := by
  refine call_function_tree F.kind_sum F.plain_sum F.entry_sum (args_sum2 _ _) ?_
  unfold Builtin.«sum»
  refine wpAny_ite_false rfl ?_
  refine wpAny_bind (wpAny_of_eq (show Builtin.Builtins.bindParams "sum" ["start"] 0 ⟨[.int f tf], []⟩ = pure [some (.int f tf)] from rfl) ?_)
  refine wpAny_bind (wpAny_mono h (fun it s₂ h₂ => ?_) fun _ _ e => e)
  refine exE8 (h₂) fun I fp wr G n P St val hh9 => ?_
  refine anE7 hh9 fun eI W hst hfp hval hfit hQ => ?_
  clear hh9 h₂
  subst eI
  have hl : (decide (-(2 ^ 63) ≤ f) && decide (f < 2 ^ 63)) = true := by
    simp only [Bool.and_eq_true, decide_eq_true_eq]
    exact hf
  dsimp only
  split
  case isFalse hneg => exact absurd hl hneg
  refine wpAny_bind (wpAny_rule (wpAny_bind (wpAny_mkInt (wpAny_bind (wpAny_pure ?_)))))
  rw [List.forIn_cons]
  refine wpAny_bind (wpAny_bind (wpAny_bind (wpAny_isInstance (T := "int") (b := false) (typeIs_int _ _ _) PySem.sub_int_str ?_)))
  rw [if_neg Bool.false_ne_true]
  refine wpAny_pure ?_
  dsimp only
  rw [List.forIn_cons]
  refine (wpAny_bind (wpAny_bind (wpAny_isInstance (T := "int") (b := false) (typeIs_int _ _ _) PySem.sub_int_bytes ?_)))
  rw [if_neg Bool.false_ne_true]
  refine wpAny_pure ?_
  dsimp only
  rw [List.forIn_cons]
  refine (wpAny_bind (wpAny_bind (wpAny_isInstance (T := "int") (b := false) (typeIs_int _ _ _) PySem.sub_int_bytearray ?_)))
  rw [if_neg Bool.false_ne_true]
  refine wpAny_pure ?_
  dsimp only
  rw [List.forIn_nil]
  refine wpAny_pure ?_
  refine wpAny_bind (wpAny_newObj_type ?_)
  have hSf : s₂.heap.objs.size ∉ fp := fun hm => Nat.lt_irrefl _ (hfp _ hm)
  have e0 : preSum (shW f val) 1 = f := by simp [preSum, shW]
  have key := codeAny_sum_loopS (A := A) (R := fun r s' => match r with | .ok (.ret v) => Q v s' | .ok _ => False | .error e => E e s') (walksShift W) (shW f val) (fun i v hv => by
      cases i with
      | zero => exact hv.elim
      | succ j => exact hval j v hv) (fun j hj => by
      cases j with
      | zero => exact ⟨hf, by rw [e0]; exact hf⟩
      | succ j =>
        have := hfit j (by lia)
        rw [preSum_sh]
        exact this) s₂.heap.objs.size hSf n 1 { s₂ with heap := s₂.heap.push { cls := .type "list", data := .seq #[.int f s₂.toks] }, toks := s₂.toks + 1 } s₂.toks 0 (by lia) (by lia)
      (W.frame 0 s₂ _ _ hst (by first | exact Nat.le_refl _ | exact Nat.le_succ _ | lia) fun b _ o e => Heap.get?_push_of_some _ e) (by rw [e0]; exact Heap.get?_push_size _ rfl) (fun s' t' hm => by
        rw [preSum_sh]
        exact hQ s' t' (hm.drop_new (by first | exact Nat.le_refl _ | exact Nat.le_succ _ | lia)))
  exact wpAny_pure ⟨plainId_quiet F.plain_sum_loop _, key⟩
end

section
variable {prog : Program} {w : World} {A : Around} {E : Value → Shared → Prop} {s : Shared} {cenv : Env} {m₂ mg mb : Nm} {x y : Str} {ta tb te : Tok}
theorem elt_join (hk : cenv.scope.kind = .function) (hg : cenv.globals = mainGlobals) (h1 : cenv.kindOf "fws" = some .local) (h2 : cenv.kindOf "part" = some .local) (h3 : cenv.kindOf "EMPTYSTRING" = some .globalImplicit)
    (n : s.heap.Ns cenv.locals m₂) (G : s.heap.Ns mainGlobals mg) (hE : mg "EMPTYSTRING" = some (.str "" te)) (e1 : m₂ "fws" = some (.str x ta)) (e2 : m₂ "part" = some (.str y tb)) (hx : x.length ≤ 100) (hy : y.length ≤ 100)
    {p1 ap p2 p3 p4 p5 : Pos} {kt : Nat} {pl : Sem Bool}
    (he : eval (.Call (.Attribute (.Name "EMPTYSTRING" p1) "join" ap) [.Tuple [.Name "fws" p2, .Name "part" p3] kt p4] [] p5) cenv = (do
      let ov ← eval (.Name "EMPTYSTRING" p1) cenv
      standAt ap.atName
      let (f, first) ← holding [ov] (getMethod ov "join" pl)
      callWith p5 f first (backTo p5 (starEach [.Tuple [.Name "fws" p2, .Name "part" p3] kt p4] cenv)) [])) :
    wpAny (model prog w) A (eval (.Call (.Attribute (.Name "EMPTYSTRING" p1) "join" ap) [.Tuple [.Name "fws" p2, .Name "part" p3] kt p4] [] p5) cenv) (fun v s₃ => (∃ u, v = .str (x ++ y) u) ∧ Keeps s s₃) E s := by
  refine MethodCall_ (Name_function_global hk h3 (loadGlobal_global (by rw [hg]; exact G) hE ?_)) he
  refine getMethod_builtin (PySem.typeIs_str _ _ _) PySem.F.plainAttrs_str PySem.F.slot_str_join PySem.F.type_str_join (fun a ha => by cases ha) ?_
  dsimp only
  refine callWith_method1 (args_cons (wpAny_Tuple (args_cons (wpAny_Name (wpAny_loadName_local hk h1 n e1 (args_cons (wpAny_Name (wpAny_loadName_local hk h2 n e2 (args_nil ?_))) (by with_unfolding_all rfl)))) (by with_unfolding_all rfl))) (by with_unfolding_all rfl)) (by with_unfolding_all rfl) (by with_unfolding_all rfl)
  refine ⟨by show 2 ≤ sizeLine; rw [sizeLine_eq]; decide, args_nil ?_⟩
  dsimp only [List.cons_append, List.nil_append]
  refine join_tupleW (ys := [x, y]) ⟨_, Heap.get?_push_size _ rfl, rfl, 0, rfl⟩ (.cons _ _ (.cons _ _ .nil)) (by decide) (by simp; lia) fun t' k => ⟨⟨t', ?_⟩, _, _, rfl, fun b o e => Heap.get?_push_of_some _ e⟩
  have : Txt.join "" [x, y] = x ++ y := by
    rw [join_none]
    show x ++ (y ++ Str.ofString "") = x ++ y
    rw [PySem.W.KFm.cat_t]
  rw [this]
theorem elt_len (hk : cenv.scope.kind = .function) (hg : cenv.globals = mainGlobals) (hb : cenv.builtins = builtinsNs) (h1 : cenv.kindOf "fws" = some .local) (h2 : cenv.kindOf "part" = some .local) (h3 : cenv.kindOf "len" = some .globalImplicit)
    (n : s.heap.Ns cenv.locals m₂) (G : s.heap.Ns mainGlobals mg) (hE : mg "len" = none) (B : s.heap.Ns builtinsNs mb) (hB : mb "len" = some (.builtin "len")) (e1 : m₂ "fws" = some (.str x ta)) (e2 : m₂ "part" = some (.str y tb)) (hx : x.length ≤ 100) (hy : y.length ≤ 100)
    {p1 p2 p3 p4 p5 p6 p7 : Pos} :
    wpAny (model prog w) A (eval (.BinOp (.Call (.Name "len" p1) [.Name "fws" p2] [] p3) .Add (.Call (.Name "len" p4) [.Name "part" p5] [] p6) p7) cenv) (fun v s₃ => (∃ u, v = .int (x.length + y.length) u) ∧ Keeps s s₃) E s := by
  have one : ∀ {s : Shared} {nm : Str} {z : Str} {tz : Tok} {p q r : Pos} {Q : Value → Shared → Prop}, s.heap.Ns cenv.locals m₂ → s.heap.Ns mainGlobals mg → s.heap.Ns builtinsNs mb → cenv.kindOf nm = some .local → m₂ nm = some (.str z tz) → z.length ≤ 100 → (nm == ("__debug__" : Str)) = false →
      Q (.int z.length (s.toks + 1)) { s with toks := s.toks + 1 + 1 } → wpAny (model prog w) A (eval (.Call (.Name "len" p) [.Name nm q] [] r) cenv) Q E s := by
    intro s nm z tz p q r Q n G B hn e hz hd h
    refine Call_name1 (by with_unfolding_all rfl) (Name_function_global hk h3 (loadGlobal_builtin (by rw [hg]; exact G) hE (by rw [hb]; exact B) hB ?_))
    exact PySem.callWith_builtin1 (wpAny_Name (wpAny_loadName_local hk hn n e (PySem.P.len_str (by lia) h)) hd)
  refine wpAny_BinOp (one n G B h1 e1 hx (by decide) (one n G B h2 e2 hy (by decide) ?_))
  refine PySem.P.add_int ⟨⟨_, rfl⟩, _, _, rfl, fun b o e => e⟩
end

noncomputable def TxtOk (op : Obj) : Prop := ∃ ps, op = { cls := .none, data := .fields ps } ∧ TriplesOk ps.toList
theorem TxtOk.fields {op : Obj} (h : TxtOk op) : ∃ ps, op.data = .fields ps ∧ TriplesOk ps.toList := by
  obtain ⟨ps, rfl, h⟩ := h
  exact ⟨ps, rfl, h⟩
theorem exQ9 {α0 α1 α2 α3 α4 α5 α6 α7 α8 : Sort _} {P : α0 → α1 → α2 → α3 → α4 → α5 → α6 → α7 → α8 → Prop} {C : Prop} (h : ∃ a0 a1 a2 a3 a4 a5 a6 a7 a8, P a0 a1 a2 a3 a4 a5 a6 a7 a8) (k : ∀ a0 a1 a2 a3 a4 a5 a6 a7 a8, P a0 a1 a2 a3 a4 a5 a6 a7 a8 → C) : C := Exists.elim h fun a0 h => Exists.elim h fun a1 h => Exists.elim h fun a2 h => Exists.elim h fun a3 h => Exists.elim h fun a4 h => Exists.elim h fun a5 h => Exists.elim h fun a6 h => Exists.elim h fun a7 h => Exists.elim h fun a8 h => k a0 a1 a2 a3 a4 a5 a6 a7 a8 h
noncomputable def codeOkIn (K : Frag) (c P : Addr) : Prop := ∃ o vs f tf fl tg b9 tx tt, K.lookup c = some o ∧ o.cls = .type "code" ∧ o.data = .fields vs ∧ vs[11]? = some (.ref P) ∧
  vs.getD 18 .none = .str f tf ∧ vs.getD 7 .none = .int fl tg ∧ vs.getD 9 .none = .bool b9 ∧ vs.getD 10 .none = .int tx tt
theorem code_str (p : Params) : codeOkIn (hd.heap_39 p) 125 121 := exI9 _ _ _ _ _ _ _ _ _ ⟨rfl, rfl, rfl, rfl, rfl, rfl, rfl, rfl⟩
theorem code_len (p : Params) : codeOkIn (hd.heap_39 p) 118 114 := exI9 _ _ _ _ _ _ _ _ _ ⟨rfl, rfl, rfl, rfl, rfl, rfl, rfl, rfl⟩
theorem isCode_of {K : Frag} {g h : Heap} {c P : Addr} {op : Obj} (X : K.In g) (e : codeOkIn K c P) (k : ∀ b o, g.get? b = some o → h.get? b = some o) (hP : h.get? P = some op) (ok : TxtOk op) (hcP : c ≠ P) : ∃ ps, h.IsCode c P ps ∧ h.TableAt c P ps :=
  Exists.elim ok fun ps x => exQ9 e fun o vs f tf fl tg b9 tx tt e => anE8 e fun e1 e0 e2 e3 e4 e5 e6 e7 =>
    ⟨ps, exI10 o vs f tf fl tg b9 tx tt op ⟨k _ _ (X _ _ e1), e2, by rw [Array.getD_eq_getD_getElem?, e3]; rfl, e4, e5, e6, e7, hP, by rw [x.1], x.2, hcP⟩, ⟨o, vs, k _ _ (X _ _ e1), e0, e2, e3⟩, by rw [hP, x.1]⟩
theorem txtOk_of {h : Heap} {c P : Addr} {ps : Array Value} (x : h.IsCode c P ps) (y : h.TableAt c P ps) : ∃ op, h.get? P = some op ∧ TxtOk op :=
  exE10 x fun _ _ _ _ _ _ _ _ _ _ x => anE11 x fun _ _ _ _ _ _ _ _ _ x _ => ⟨_, y.2, ps, rfl, x⟩
theorem genCode_tab {M : Model} {A : Around} {E : Value → Shared → Prop} {s : Shared} {env : Env} {c P : Addr} {ps : Array Value} {pos : Pos} {qualname : Str} {scope : Scope} {Q : Value → Shared → Prop} (hc : env.code = .ref c) (hok : s.heap.IsCode c P ps) (ht : s.heap.TableAt c P ps)
    (hQ : ∀ code h' tk ps', Heap.ExtBut P s.heap h' → h'.IsCode c P ps' → h'.TableAt c P ps' → Q code { s with heap := h', toks := tk }) : wpAny M A (genexprCode env pos qualname scope) Q E s := by
  cases hnf : codeAmong pos ps.toList with
  | some cv => exact wpAny_genexprCode_hit hc hok hnf (hQ cv s.heap s.toks ps (Heap.ExtBut.refl _ _) hok ht)
  | none => exact wpAny_genexprCodeX hc hok ht hnf fun c' h' tk hx _ _ hok' _ ht' _ => hQ _ _ _ _ hx hok' ht'
section
variable {w : World} {A : Around} {E : Value → Shared → Prop} {s : Shared} {g : Heap} {L x dx c P : Addr} {m mg mb : Nm} {mean : Mean} {n : Nat} {rest : Led} {op : Obj} {Ts : List Addr}
end
namespace pile_gen_z
noncomputable def zS (w : World) (A : Around) (E : Value → Shared → Prop) (s : Shared) (g : Heap) (L : Addr) (x : Addr) (dx : Addr) (P : Addr) (m : Nm) (mg : Nm) (mb : Nm) (mean : Mean) (n : Nat) (rest : Led) (op : Obj) (Ts : List Addr) (env : Env) (elt : PySem.Expr) (iter : PySem.Expr) (xa : Str) (xb : Str) (pa : Pos) (pb : Pos) (pt : Pos) (kt : Nat) (scope : Scope) (pos : Pos) (Q : Value → Shared → Prop) (Fv : Nat → Value → Prop) (va : Nat → Str) (vb : Nat → Str) : Prop := ∀ (c : Addr) (hh : A.handled = none) (hco : scope.isCoroutine = false) (hclos : closureFor scope env = pure []) (hcell : ∀ y ∈ scope.names, y.2 ≠ .cell) (h0 : scope.names.lookup (".0" : Str) = some NameKind.local) (hxa : scope.names.lookup xa = some .local) (hxb : scope.names.lookup xb = some .local) (hab : xa ≠ xb) (hkind : scope.kind = .function) (hroom : A.depth < recursionLimit) (hs : ∀ x, genFold iter env x = pure x) (hiter : ∀ Q, Q (.ref x) s → wpAny (model prg w) A (eval iter env) Q E s) (F : Fr g L s.heap m) (X₀ : (hd.heap_39 w.params).In g) (T : Top VW LW mean mg mb g) (N : News g L s.heap ((P, op) :: rest)) (ap : ∀ q ∈ rest, q.1 ≠ P) (hx : (x, accObj dx (refs Ts) n) ∈ rest) (G : AllBare s.gens) (hcode : env.code = .ref c) (hc : codeOkIn (hd.heap_39 w.params) c P) (ok : TxtOk op) (hg : env.globals = mainGlobals) (hT : ∀ i, i < Ts.length → ∃ t1 t2, (Ts.getD i 0, tupO #[.str (va i) t1, .str (vb i) t2]) ∈ rest) (hq : ∀ (C : Addr) (code : Value) (A' : Around) (E' : Value → Shared → Prop) (i : Nat) (t1 t2 : Tok) (s₂ : Shared) (m₂ : Nm), A'.handled = none → i < Ts.length → s₂.heap.Ns C m₂ → m₂ xa = some (.str (va i) t1) → m₂ xb = some (.str (vb i) t2) → s₂.heap.Ns mainGlobals mg → s₂.heap.Ns builtinsNs mb →
      wpAny (model prg w) A' (eval elt (genEnv scope [] C code builtinsNs env)) (fun y s₃ => Fv i y ∧ Keeps s₂ s₃) E' s₂) (hQ : ∀ (K a : Addr) (op' : Obj) (h₅ : Heap) (tk : Nat) (gs : GenState), L ≤ K → (∀ q ∈ (P, op') :: rest, q.1 ≤ K) → Fr g L h₅ m → News g L h₅ ((P, op') :: rest) → TxtOk op' → AllBare (s.gens.push gs) →
      Gen prg w A K a Ts.length Fv { s with heap := h₅, toks := tk, gens := s.gens.push gs } → Q (.ref a) { s with heap := h₅, toks := tk, gens := s.gens.push gs }), wpAny (model prg w) A (eval (.GeneratorExp elt [⟨.Tuple [.Name xa pa, .Name xb pb] kt pt, iter, [], 0⟩] scope pos) env) Q E s
noncomputable abbrev zT : Type := (World) × (Around) × (Value → Shared → Prop) × (Shared) × (Heap) × (Addr) × (Addr) × (Addr) × (Addr) × (Nm) × (Nm) × (Nm) × (Mean) × (Nat) × (Led) × (Obj) × (List Addr) × (Env) × (PySem.Expr) × (PySem.Expr) × (Str) × (Str) × (Pos) × (Pos) × (Pos) × (Nat) × (Scope) × (Pos) × (Value → Shared → Prop) × (Nat → Value → Prop) × (Nat → Str) × (Nat → Str)
noncomputable def zP (x : zT) : Prop := zS x.1 x.2.1 x.2.2.1 x.2.2.2.1 x.2.2.2.2.1 x.2.2.2.2.2.1 x.2.2.2.2.2.2.1 x.2.2.2.2.2.2.2.1 x.2.2.2.2.2.2.2.2.1 x.2.2.2.2.2.2.2.2.2.1 x.2.2.2.2.2.2.2.2.2.2.1 x.2.2.2.2.2.2.2.2.2.2.2.1 x.2.2.2.2.2.2.2.2.2.2.2.2.1 x.2.2.2.2.2.2.2.2.2.2.2.2.2.1 x.2.2.2.2.2.2.2.2.2.2.2.2.2.2.1 x.2.2.2.2.2.2.2.2.2.2.2.2.2.2.2.1 x.2.2.2.2.2.2.2.2.2.2.2.2.2.2.2.2.1 x.2.2.2.2.2.2.2.2.2.2.2.2.2.2.2.2.2.1 x.2.2.2.2.2.2.2.2.2.2.2.2.2.2.2.2.2.2.1 x.2.2.2.2.2.2.2.2.2.2.2.2.2.2.2.2.2.2.2.1 x.2.2.2.2.2.2.2.2.2.2.2.2.2.2.2.2.2.2.2.2.1 x.2.2.2.2.2.2.2.2.2.2.2.2.2.2.2.2.2.2.2.2.2.1 x.2.2.2.2.2.2.2.2.2.2.2.2.2.2.2.2.2.2.2.2.2.2.1 x.2.2.2.2.2.2.2.2.2.2.2.2.2.2.2.2.2.2.2.2.2.2.2.1 x.2.2.2.2.2.2.2.2.2.2.2.2.2.2.2.2.2.2.2.2.2.2.2.2.1 x.2.2.2.2.2.2.2.2.2.2.2.2.2.2.2.2.2.2.2.2.2.2.2.2.2.1 x.2.2.2.2.2.2.2.2.2.2.2.2.2.2.2.2.2.2.2.2.2.2.2.2.2.2.1 x.2.2.2.2.2.2.2.2.2.2.2.2.2.2.2.2.2.2.2.2.2.2.2.2.2.2.2.1 x.2.2.2.2.2.2.2.2.2.2.2.2.2.2.2.2.2.2.2.2.2.2.2.2.2.2.2.2.1 x.2.2.2.2.2.2.2.2.2.2.2.2.2.2.2.2.2.2.2.2.2.2.2.2.2.2.2.2.2.1 x.2.2.2.2.2.2.2.2.2.2.2.2.2.2.2.2.2.2.2.2.2.2.2.2.2.2.2.2.2.2.1 x.2.2.2.2.2.2.2.2.2.2.2.2.2.2.2.2.2.2.2.2.2.2.2.2.2.2.2.2.2.2.2
theorem zne : Nonempty zT := ⟨(dW, {}, fun _ _ => True, {}, default, (0 : Nat), (0 : Nat), (0 : Nat), (0 : Nat), fun _ => none, fun _ => none, fun _ => none, fun _ => none, 0, [], default, [], default, default, default, ⟨#[]⟩, ⟨#[]⟩, default, default, default, 0, default, default, fun _ _ => True, fun _ _ => True, fun _ => ⟨#[]⟩, fun _ => ⟨#[]⟩)⟩
noncomputable def zc : zT := @Classical.epsilon _ zne fun x => ¬ zP x
@[irreducible] noncomputable def w : World := zc.1
@[irreducible] noncomputable def A : Around := zc.2.1
@[irreducible] noncomputable def E : Value → Shared → Prop := zc.2.2.1
@[irreducible] noncomputable def s : Shared := zc.2.2.2.1
@[irreducible] noncomputable def g : Heap := zc.2.2.2.2.1
@[irreducible] noncomputable def L : Addr := zc.2.2.2.2.2.1
@[irreducible] noncomputable def x : Addr := zc.2.2.2.2.2.2.1
@[irreducible] noncomputable def dx : Addr := zc.2.2.2.2.2.2.2.1
@[irreducible] noncomputable def P : Addr := zc.2.2.2.2.2.2.2.2.1
@[irreducible] noncomputable def m : Nm := zc.2.2.2.2.2.2.2.2.2.1
@[irreducible] noncomputable def mg : Nm := zc.2.2.2.2.2.2.2.2.2.2.1
@[irreducible] noncomputable def mb : Nm := zc.2.2.2.2.2.2.2.2.2.2.2.1
@[irreducible] noncomputable def mean : Mean := zc.2.2.2.2.2.2.2.2.2.2.2.2.1
@[irreducible] noncomputable def n : Nat := zc.2.2.2.2.2.2.2.2.2.2.2.2.2.1
@[irreducible] noncomputable def rest : Led := zc.2.2.2.2.2.2.2.2.2.2.2.2.2.2.1
@[irreducible] noncomputable def op : Obj := zc.2.2.2.2.2.2.2.2.2.2.2.2.2.2.2.1
@[irreducible] noncomputable def Ts : List Addr := zc.2.2.2.2.2.2.2.2.2.2.2.2.2.2.2.2.1
@[irreducible] noncomputable def env : Env := zc.2.2.2.2.2.2.2.2.2.2.2.2.2.2.2.2.2.1
@[irreducible] noncomputable def elt : PySem.Expr := zc.2.2.2.2.2.2.2.2.2.2.2.2.2.2.2.2.2.2.1
@[irreducible] noncomputable def iter : PySem.Expr := zc.2.2.2.2.2.2.2.2.2.2.2.2.2.2.2.2.2.2.2.1
@[irreducible] noncomputable def xa : Str := zc.2.2.2.2.2.2.2.2.2.2.2.2.2.2.2.2.2.2.2.2.1
@[irreducible] noncomputable def xb : Str := zc.2.2.2.2.2.2.2.2.2.2.2.2.2.2.2.2.2.2.2.2.2.1
@[irreducible] noncomputable def pa : Pos := zc.2.2.2.2.2.2.2.2.2.2.2.2.2.2.2.2.2.2.2.2.2.2.1
@[irreducible] noncomputable def pb : Pos := zc.2.2.2.2.2.2.2.2.2.2.2.2.2.2.2.2.2.2.2.2.2.2.2.1
@[irreducible] noncomputable def pt : Pos := zc.2.2.2.2.2.2.2.2.2.2.2.2.2.2.2.2.2.2.2.2.2.2.2.2.1
@[irreducible] noncomputable def kt : Nat := zc.2.2.2.2.2.2.2.2.2.2.2.2.2.2.2.2.2.2.2.2.2.2.2.2.2.1
@[irreducible] noncomputable def scope : Scope := zc.2.2.2.2.2.2.2.2.2.2.2.2.2.2.2.2.2.2.2.2.2.2.2.2.2.2.1
@[irreducible] noncomputable def pos : Pos := zc.2.2.2.2.2.2.2.2.2.2.2.2.2.2.2.2.2.2.2.2.2.2.2.2.2.2.2.1
@[irreducible] noncomputable def Q : Value → Shared → Prop := zc.2.2.2.2.2.2.2.2.2.2.2.2.2.2.2.2.2.2.2.2.2.2.2.2.2.2.2.2.1
@[irreducible] noncomputable def Fv : Nat → Value → Prop := zc.2.2.2.2.2.2.2.2.2.2.2.2.2.2.2.2.2.2.2.2.2.2.2.2.2.2.2.2.2.1
@[irreducible] noncomputable def va : Nat → Str := zc.2.2.2.2.2.2.2.2.2.2.2.2.2.2.2.2.2.2.2.2.2.2.2.2.2.2.2.2.2.2.1
@[irreducible] noncomputable def vb : Nat → Str := zc.2.2.2.2.2.2.2.2.2.2.2.2.2.2.2.2.2.2.2.2.2.2.2.2.2.2.2.2.2.2.2
theorem zmain : zS w A E s g L x dx P m mg mb mean n rest op Ts env elt iter xa xb pa pb pt kt scope pos Q Fv va vb := by
  unfold zS
  intro c hh hco hclos hcell h0 hxa hxb hab hkind hroom hs hiter F X₀ T N ap hx G hcode hc ok hg hT hq hQ
  have hPg : g.get? P = none := (N _ (.head _)).2.2
  have hPL : P ≠ L := (N _ (.head _)).2.1
  have hcP : c ≠ P := by
    rintro rfl
    refine exQ9 hc fun _ _ _ _ _ _ _ _ _ hl => ?_
    have := X₀ _ _ hl.1
    rw [hPg] at this
    cases this
  have hxx := (N _ (.tail _ hx)).1
  have hxs : x < s.heap.objs.size := Heap.lt_size hxx
  have tl : ∀ j, j < (refs Ts).toArray.size → j < Ts.length := fun j hj => by simpa [refs] using hj
  refine wpAny_GeneratorExp_walksQT hh hco hclos hcell h0 hxa hxb hab hkind hroom (hiter _ (acc_pyIter F X₀ hxx ?_)) hs
  have hI : (s.heap.push ({ cls := .type "list_iterator", data := .fields #[.ref x, .int 0 0] } : Obj)).get? s.heap.objs.size = some { cls := .type "list_iterator", data := .fields #[.ref x, .int 0 0] } := Heap.get?_push_size _ rfl
  have hkeep : ∀ b o, s.heap.get? b = some o → (s.heap.push ({ cls := .type "list_iterator", data := .fields #[.ref x, .int 0 0] } : Obj)).get? b = some o := fun b o e => Heap.get?_push_of_some _ e
  generalize hH : s.heap.push ({ cls := .type "list_iterator", data := .fields #[.ref x, .int 0 0] } : Obj) = H at hI hkeep
  have F₂ : Fr g L H m := F.keeps hkeep
  refine ⟨T.nolimit.keeps F₂.keep, ?_⟩
  obtain ⟨ps, hok, htab⟩ := isCode_of X₀ hc F₂.keep (hkeep _ _ (N _ (.head _)).1) ok hcP
  refine genCode_tab hcode hok htab fun code h₃ tk₃ ps' hx₃ hok₃ htab₃ => ?_
  obtain ⟨op', hP₃, ok'⟩ := txtOk_of hok₃ htab₃
  have nP : ∀ b o, g.get? b = some o → b ≠ P := fun b o e h => by rw [h, hPg] at e; cases e
  have F₃ : Fr g L h₃ m := ⟨F₂.ns.extBut hx₃ hPL.symm, fun b o e => hx₃ b o (nP b o e) (F₂.keep b o e), F.above⟩
  have N₃ : News g L h₃ ((P, op') :: rest) := fun q hq => by
    rcases List.mem_cons.mp hq with rfl | hq
    · exact ⟨hP₃, hPL, hPg⟩
    · exact ⟨hx₃ _ _ (ap q hq) (hkeep _ _ (N q (.tail _ hq)).1), (N q (.tail _ hq)).2⟩
  refine exE2 T.bmain fun bm ob hh => anE6 hh fun b1 b2 b3 b4 b5 b6 => ?_
  refine wpAny_builtinsFor (by rw [hg]; exact T.g.keeps F₃.keep) b1 b2 (F₃.keep _ _ b3) b4 b5 b6 ?_
  have hIP : s.heap.objs.size ≠ P := fun e => by
    have := Heap.lt_size (N _ (.head _)).1
    rw [← e] at this
    exact Nat.lt_irrefl _ this
  have hI₃ : h₃.get? s.heap.objs.size = some { cls := .type "list_iterator", data := .fields #[.ref x, .int 0 0] } := hx₃ _ _ hIP hI
  have lt₃ : ∀ b, b ≤ s.heap.objs.size → b < h₃.objs.size := fun b hb => Nat.lt_of_le_of_lt hb (Heap.lt_size hI₃)
  have hTs : ∀ i, i < Ts.length → Ts.getD i 0 < s.heap.objs.size := fun i hi => by
    obtain ⟨t1, t2, h⟩ := hT i hi
    exact Heap.lt_size (N _ (.tail _ h)).1
  have hpick : ∀ i, i < Ts.length → ∃ tt : Tok × Tok, (Ts.getD i 0, tupO #[.str (va i) tt.1, .str (vb i) tt.2]) ∈ rest := fun i hi => by
    obtain ⟨t1, t2, h⟩ := hT i hi
    exact ⟨(t1, t2), h⟩
  let tt : Nat → Tok × Tok := fun i => if hi : i < Ts.length then (hpick i hi).choose else (0, 0)
  have htt : ∀ i, i < Ts.length → (Ts.getD i 0, tupO #[.str (va i) (tt i).1, .str (vb i) (tt i).2]) ∈ rest := fun i hi => by
    have := (hpick i hi).choose_spec
    show (Ts.getD i 0, tupO #[.str (va i) (if hi : i < Ts.length then (hpick i hi).choose else (0, 0)).1, .str (vb i) (if hi : i < Ts.length then (hpick i hi).choose else (0, 0)).2]) ∈ rest
    rw [dif_pos hi]
    exact this
  have hsz : (refs Ts).toArray.size = Ts.length := by simp [refs]
  have hW := fun (A' : Around) (hA : A'.handled = none) => PySem.WalksU.bound (walksSeq (prog := prg) (w := w) hA s.heap.objs.size x (Nat.ne_of_lt hxs) (refs Ts).toArray (fun j => Ts.getD j 0) (fun j => #[.str (va j) (tt j).1, .str (vb j) (tt j).2])
    (fun j hj => by
      have hj' := tl j hj
      simp [refs, List.getD_eq_getElem?_getD, hj'])
    (fun j hj => Nat.ne_of_lt (hTs j (tl j hj))))
  have pass : passing (fun _ => true) Ts.length 0 = List.range Ts.length := by simp [passing]
  refine ⟨s.heap.objs.size, _, [s.heap.objs.size], (refs Ts).toArray.size, _, _, _, (fun _ => true), Fv, rfl, hW, (fun i v hv => ⟨_, _, hv.2⟩), ?_, ?_, T.nolimit.keeps F₃.keep, ?_, ?_, ?_⟩
  · refine ⟨⟨_, hI₃, rfl, rfl⟩, ⟨_, _, (N₃ _ (.tail _ hx)).1, rfl⟩, fun k hk => ?_⟩
    exact ⟨_, (N₃ _ (.tail _ (htt k (tl k hk)))).1, rfl, 0, rfl⟩
  · intro b hb
    rcases List.mem_cons.mp hb with rfl | hb
    · exact lt₃ _ (Nat.le_refl _)
    · rcases List.mem_cons.mp hb with rfl | hb
      · exact lt₃ _ (Nat.le_of_lt hxs)
      · obtain ⟨j, hj, rfl⟩ := List.mem_map.mp hb
        exact lt₃ _ (Nat.le_of_lt (hTs j (tl j (List.mem_range.mp hj))))
  · intro hm
    have hcs : cStatics < s.heap.objs.size := let ⟨_, hn, _⟩ := T.nolimit; (hn.keeps F.keep).lt
    rw [List.mem_singleton.mp hm] at hcs
    exact Nat.lt_irrefl _ hcs
  · intro href hhref
    have wrn : ∀ b o, g.get? b = some o → b ∉ [s.heap.objs.size] := fun b o e hm => by
      have h1 := Heap.lt_size (F.keep b o e)
      rw [List.mem_singleton.mp hm] at h1
      exact Nat.lt_irrefl _ h1
    have back : ∀ (s₂ : Shared), (∀ b ∈ List.range h₃.objs.size, b ∉ [s.heap.objs.size] → ∀ o, href.get? b = some o → s₂.heap.get? b = some o) → ∀ b o, g.get? b = some o → s₂.heap.get? b = some o := fun s₂ k b o e =>
      k b (List.mem_range.mpr (Heap.lt_size (F₃.keep b o e))) (wrn b o e) o (hhref b o (F₃.keep b o e))
    refine ⟨fun A' E' i va' vb' s₂ m₂ hA hP hn hm1 hm2 hk => ?_, fun A' E' i va' vb' s₂ m₂ hA hP _ hn hm1 hm2 hk => ?_⟩
    · simp only [List.forIn_nil]
      exact wpAny_pure ⟨rfl, _, _, rfl, fun _ _ e => e⟩
    · have hi : i < Ts.length := tl i hP.1
      have e0 : [va', vb'] = [.str (va i) (tt i).1, .str (vb i) (tt i).2] := congrArg Array.toList hP.2
      obtain ⟨rfl, e1⟩ := List.cons.inj e0
      obtain ⟨rfl, _⟩ := List.cons.inj e1
      exact hq _ code A' E' i _ _ s₂ m₂ hA hi hn hm1 hm2 (T.g.keeps (back s₂ hk)) (T.b.keeps (back s₂ hk))
  · intro a h₅ tk gs hgb hag hsz₅ hk₅ W hat
    have hle : ∀ b, b < s.heap.objs.size → b ≤ s.heap.objs.size - 1 := fun b hb => Nat.le_sub_one_of_lt hb
    refine hQ (s.heap.objs.size - 1) a op' h₅ tk gs (hle _ F.ns.lt) (fun q hq => ?_) (F₃.keeps hk₅) (N₃.grown hk₅) ok' (G.push hgb) ?_
    · rcases List.mem_cons.mp hq with rfl | hq
      · exact hle _ (Heap.lt_size (N _ (.head _)).1)
      · exact hle _ (Heap.lt_size (N q (.tail _ hq)).1)
    · rw [hsz] at hat
      rw [hsz, pass, List.length_range] at W
      refine Gen.imp (F := fun j y => ∃ i, (List.range Ts.length)[j]? = some i ∧ Fv i y) ⟨_, _, _, _, W, hat, (fun i s' st => st.1.typeIs), List.mem_cons_self, ?_, ?_⟩ (fun j y h => ?_)
      rotate_right
      · obtain ⟨i, e, h⟩ := h
        obtain ⟨_, rfl⟩ := List.getElem?_eq_some_iff.mp e
        simpa using h
      · intro b hb
        show b < h₅.objs.size
        rw [hsz₅]
        rcases List.mem_cons.mp hb with rfl | hb
        · exact Nat.lt_succ_self _
        · rcases List.mem_cons.mp hb with rfl | hb
          · exact Nat.lt_succ_of_lt hag
          · exact Nat.lt_succ_of_lt (Nat.lt_trans (List.mem_range.mp hb) hag)
      · intro b hb
        have h1 : s.heap.objs.size - 1 < s.heap.objs.size := Nat.sub_one_lt_of_lt hxs
        rcases List.mem_cons.mp hb with rfl | hb
        · exact Nat.lt_trans h1 (lt₃ _ (Nat.le_refl _))
        · rw [List.mem_singleton.mp hb]
          exact h1
end pile_gen_z
theorem pile_gen {w : World} {A : Around} {E : Value → Shared → Prop} {s : Shared} {g : Heap} {L x dx c P : Addr} {m mg mb : Nm} {mean : Mean} {n : Nat} {rest : Led} {op : Obj} {Ts : List Addr} {env : Env} {elt iter : PySem.Expr} {xa xb : Str} {pa pb pt : Pos} {kt : Nat} {scope : Scope} {pos : Pos} {Q : Value → Shared → Prop} (Fv : Nat → Value → Prop) (va vb : Nat → Str) (hh : A.handled = none) (hco : scope.isCoroutine = false) (hclos : closureFor scope env = pure []) (hcell : ∀ y ∈ scope.names, y.2 ≠ .cell) (h0 : scope.names.lookup (".0" : Str) = some NameKind.local) (hxa : scope.names.lookup xa = some .local) (hxb : scope.names.lookup xb = some .local) (hab : xa ≠ xb) (hkind : scope.kind = .function) (hroom : A.depth < recursionLimit) (hs : ∀ x, genFold iter env x = pure x) (hiter : ∀ Q, Q (.ref x) s → wpAny (model prg w) A (eval iter env) Q E s) (F : Fr g L s.heap m) (X₀ : (hd.heap_39 w.params).In g) (T : Top VW LW mean mg mb g) (N : News g L s.heap ((P, op) :: rest)) (ap : ∀ q ∈ rest, q.1 ≠ P) (hx : (x, accObj dx (refs Ts) n) ∈ rest) (G : AllBare s.gens) (hcode : env.code = .ref c) (hc : codeOkIn (hd.heap_39 w.params) c P) (ok : TxtOk op) (hg : env.globals = mainGlobals) (hT : ∀ i, i < Ts.length → ∃ t1 t2, (Ts.getD i 0, tupO #[.str (va i) t1, .str (vb i) t2]) ∈ rest) (hq : ∀ (C : Addr) (code : Value) (A' : Around) (E' : Value → Shared → Prop) (i : Nat) (t1 t2 : Tok) (s₂ : Shared) (m₂ : Nm), A'.handled = none → i < Ts.length → s₂.heap.Ns C m₂ → m₂ xa = some (.str (va i) t1) → m₂ xb = some (.str (vb i) t2) → s₂.heap.Ns mainGlobals mg → s₂.heap.Ns builtinsNs mb →
      wpAny (model prg w) A' (eval elt (genEnv scope [] C code builtinsNs env)) (fun y s₃ => Fv i y ∧ Keeps s₂ s₃) E' s₂) (hQ : ∀ (K a : Addr) (op' : Obj) (h₅ : Heap) (tk : Nat) (gs : GenState), L ≤ K → (∀ q ∈ (P, op') :: rest, q.1 ≤ K) → Fr g L h₅ m → News g L h₅ ((P, op') :: rest) → TxtOk op' → AllBare (s.gens.push gs) →
      Gen prg w A K a Ts.length Fv { s with heap := h₅, toks := tk, gens := s.gens.push gs } → Q (.ref a) { s with heap := h₅, toks := tk, gens := s.gens.push gs }) : wpAny (model prg w) A (eval (.GeneratorExp elt [⟨.Tuple [.Name xa pa, .Name xb pb] kt pt, iter, [], 0⟩] scope pos) env) Q E s := by
  exact @clz _ pile_gen_z.zP pile_gen_z.zne (by with_unfolding_all exact pile_gen_z.zmain) (w, A, E, s, g, L, x, dx, P, m, mg, mb, mean, n, rest, op, Ts, env, elt, iter, xa, xb, pa, pb, pt, kt, scope, pos, Q, Fv, va, vb) c hh hco hclos hcell h0 hxa hxb hab hkind hroom hs hiter F X₀ T N ap hx G hcode hc ok hg hT hq hQ
section
variable {w : World} {A : Around} {E : Value → Shared → Prop} {s : Shared} {g : Heap} {L x dx c P : Addr} {m mg mb : Nm} {mean : Mean} {n : Nat} {rest : Led} {op : Obj} {Ts : List Addr}
end

section
variable {prog : Program} {w : World} {A : Around} {E : Value → Shared → Prop} {s : Shared} {K a : Addr} {n : Nat} {F : Nat → Value → Prop} {Q : Value → Shared → Prop}
theorem join_mv {sep : Str} {t : Tok} (G : AllBare s.gens) (X : Gen prog w A K a n F s) (tx : Nat → Str) (htx : ∀ j v, F j v → ∃ u, v = .str (tx j) u) (hok : JoinOk sep ((List.range n).map tx) = true)
    (hQ : ∀ h' tk gs' t', AllBare gs' → (∀ b o, b ≤ K → s.heap.get? b = some o → h'.get? b = some o) → Q (.str (Txt.join sep ((List.range n).map tx)) t') { s with heap := h', toks := tk, gens := gs' })
    (hsz : n ≤ sizeLine) : wpAny (model prog w) A (call (.builtin "str.join") [.str sep t, .ref a]) Q E s := by
  refine exE4 X fun fp wr g St hh => anE6 hh fun W hst hT ha hfp hwr => ?_
  have W := W.in4_2
  refine SC.joinGen W hT hst hfp ha (fun j v hv => let ⟨u, e⟩ := htx j v hv; ⟨_, u, e⟩) (fun s' lt hm hacc => ?_) hsz
  have hl : lt.map (·.1) = (List.range n).map tx := by
    have hsz : lt.length = n := by simpa [strValues] using hacc.1
    refine List.ext_getElem (by simp [hsz]) fun j h1 h2 => ?_
    have hj : j < lt.length := by simpa using h1
    obtain ⟨u, hv⟩ := htx j _ (hacc.2 j (.str lt[j].1 lt[j].2) (by simp [strValues, List.getElem?_eq_getElem hj]))
    injection hv with h1 _
    simp [h1]
  rw [hl]
  obtain ⟨h', gs', d', t9, o'⟩ := s'
  have e1 : d' = s.drawn := hm.drawn
  have e2 : o' = s.os := hm.os
  subst e1 e2
  exact ⟨hok, fun t' k => hQ h' k gs' t' (G.movedS hm) fun b o hb e => hm.heap b o (fun hmem => Nat.lt_irrefl _ (Nat.lt_of_lt_of_le (hwr b hmem) hb)) e⟩
theorem sum_mv {f : Int} {tf : Tok} (G : AllBare s.gens) (X : Gen prog w A K a n F s) (hf : InLong f) (val : Nat → Int) (hval : ∀ j v, F j v → ∃ t, v = .int (val j) t) (hfit : ∀ j, j < n → InLong (val j) ∧ InLong (f + preSum val (j + 1)))
    (hQ : ∀ h' tk gs' t', AllBare gs' → (∀ b o, b ≤ K → s.heap.get? b = some o → h'.get? b = some o) → Q (.int (f + preSum val n) t') { s with heap := h', toks := tk, gens := gs' }) :
    wpAny (model prog w) A (call (.builtin "sum") [.ref a, .int f tf]) Q E s := by
  refine exE4 X fun fp wr g St hh => anE6 hh fun W hst _ _ hfp hwr => ?_
  have W := W.in4_1
  refine sum_from hf (W.self 0 _ _ _ hst ⟨a, _, _, _, _, _, _, val, rfl, W, hst, hfp, hval, hfit, fun s' t' hm => ?_⟩)
  obtain ⟨h', gs', d', t9, o'⟩ := s'
  have e1 : d' = s.drawn := hm.drawn
  have e2 : o' = s.os := hm.os
  subst e1 e2
  exact hQ h' t9 gs' t' (G.movedS hm) fun b o hb e => hm.heap b o (fun hmem => Nat.lt_irrefl _ (Nat.lt_of_lt_of_le (hwr b hmem) hb)) e
end
theorem fr_low {g h h' : Heap} {L K : Addr} {m : Nm} (F : Fr g L h m) (hL : L ≤ K) (k : ∀ b o, b ≤ K → h.get? b = some o → h'.get? b = some o) : Fr g L h' m :=
  ⟨F.ns.at' fun o e => k _ o hL e, fun b o e => k b o (Nat.le_trans (Nat.le_of_lt (Nat.lt_of_lt_of_le (Heap.lt_size e) F.above)) hL) (F.keep b o e), F.above⟩
theorem news_low {g h h' : Heap} {L K : Addr} {news : Led} (N : News g L h news) (hK : ∀ q ∈ news, q.1 ≤ K) (k : ∀ b o, b ≤ K → h.get? b = some o → h'.get? b = some o) : News g L h' news :=
  fun q hq => ⟨k _ _ (hK q hq) (N q hq).1, (N q hq).2⟩
theorem gen_toks {prog : Program} {w : World} {A : Around} {K a : Addr} {n : Nat} {F : Nat → Value → Prop} {s : Shared} (X : Gen prog w A K a n F s) : Gen prog w A K a n F { s with toks := s.toks + 1 } :=
  exE4 X fun fp wr g St x => anE6 x fun W h1 h2 h3 h4 h5 => exI4 fp wr g St ⟨W, W.frame 0 s s.heap (s.toks + 1) h1 (Nat.le_succ _) (fun _ _ _ e => e), h2, h3, h4, h5⟩

theorem lga_kind : builtinKind "list.__getattribute__" = some .slot := by decide +kernel
theorem lga_split : splitId "list.__getattribute__" = some ("list", "__getattribute__") := by decide +kernel
theorem lga_not : (onTheHeap (.ref 152) && (Value.builtin "list.__getattribute__" == .builtin "object.__getattribute__")) = false := by decide +kernel
theorem hook_acc : hookBefore (.ref 152) = typeLookup (.ref 152) "__getattr__" := by unfold hookBefore; rw [if_pos (show onTheHeap (.ref 152) = true from rfl)]
theorem acc_size_in (p : Params) : findIn (hd.heap_39 p) (.ref 152) "_initial_size" = some none := by kernel_rfl
theorem acc_hasDict (p : Params) : hasDictIn (hd.heap_39 p) 152 = true := by kernel_rfl
section
variable {w : World} {A : Around} {E : Value → Shared → Prop} {s : Shared} {h₀ : Heap} {L x dx : Addr} {m : Nm} {its : List Value} {n : Nat} {news : Led} {hash : Int} {tk : Tok} {v : Value} {expr : Bool}
theorem acc_get {Q : Value → Shared → Prop} (F : Fr h₀ L s.heap m) (X₀ : (hd.heap_39 w.params).In h₀) (N : News h₀ L s.heap news) (hx : (x, accObj dx its n) ∈ news) (hdx : (dx, sizeD hash tk v) ∈ news) (hv : handedIn v = true)
    (h : Q v { s with toks := s.toks + 1 }) : wpAny (model prg w) A (getAttr (.ref x) "_initial_size" expr) Q E s := by
  have X := X₀.keeps F.keep
  have I : InstAt s.heap x (accObj dx its n) 152 (some (dictOf [⟨hash, .str "_initial_size" tk, v⟩] 1)) := ⟨(N _ hx).1, rfl, rfl, (N _ hdx).1⟩
  have hi := acc_inst (M := model prg w) X (N _ hx).1
  obtain ⟨hh, g, d, t, os⟩ := s
  have L0 := I.type (M := model prg w)
  have L1 := looks_findIn (M := model prg w) X (acc_ga _)
  have L2 := looks_findIn (M := model prg w) X (acc_gattr _)
  have hf : findObj (hd.heap_39 w.params) 152 (some (dictOf [⟨hash, .str "_initial_size" tk, v⟩] 1)) "_initial_size" = some (.value v) := findObj_own (acc_hasDict _) (acc_size_in _) rfl (by
    rw [lookIn_dict]
    unfold getL
    have e : (Value.str (Str.ofString "_initial_size") tk).isStr "_initial_size" = true := by kernel_rfl
    simp [List.find?, e])
  have L3 := looks_find (M := model prg w) X I hf
  unfold getAttr getAttrBy
  refine wpAny_bind (wpAny_mkText (wpAny_holding (wpAny_bind (L0.at (wpAny_bind (L1.at ?_))))))
  dsimp only
  rw [lga_not, if_neg (by decide)]
  unfold getAttrByItsOwn
  rw [hook_acc]
  refine wpAny_bind (L2.at ?_)
  refine wpAny_bind (wpAny_attempt (wpAny_holding ?_))
  unfold callGetattribute
  rw [show (expr && onTheHeap (.builtin "list.__getattribute__")) = false by cases expr <;> rfl, if_neg (by decide)]
  unfold boundAndCalled
  rw [PySem.F.slot_list_getattribute.bind]
  refine wpAny_bind (wpAny_pure ?_)
  dsimp only [List.cons_append, List.nil_append]
  refine wpAny_call (codeAny_call_builtin PySem.F.slot_list_getattribute.plain PySem.F.entry_list_ga ?_)
  have hi' : Looks (model prg w) hh (isInstance (.ref x) (.type "list")) true := hi
  refine acc_check (i := "list.__getattribute__") (owner := "list") (n := "__getattribute__") (self := .ref x) (rest := [.str "_initial_size" t]) (.inl lga_kind) lga_split hi' (PySem.F.args_list_getattribute_2 _ _) ?_
  unfold Builtin.«object.__getattribute__»
  refine wpAny_bind (m := slotArgs _ _ _) (wpAny_pure ?_)
  dsimp only
  refine wpAny_bind (m := Builtin.ObjectAttr.attrName _) (wpAny_pure ?_)
  refine wpAny_bind (L0.at (wpAny_bind (L3.at ?_)))
  refine wpAny_pure ?_
  show wpAny _ _ (handedOut v) _ _ _
  rw [handedOut_of hv]
  exact wpAny_pure h
end

theorem fresh_R_str : True := by
  k_with_none
  w_on
  w_top off
  (k_with "1 my enter" => (refine' code_def ?k1 ?k2 ?k3 ?k4 ?k5 ?kA ?kF ?kK ?k6 ?k7 ?k8 ?k9 ?kB ?_ ?c2 ?c3 ?c4 ?c5; walk_at "ce"; (case k9 => first | exact BindsTo.of_eq rfl | exact binds_K (by k_in) rfl (by k_is) rfl rfl rfl | fail "my enter: no rule for these arguments"); (case c5 => decide); (case kB => exact locs rfl); (case c2 => exact rfl); (case c3 => exact rfl); (case c4 => exact rfl); k_whole; intro g' L' h' FG' F' N' B' X' T'; (try dsimp only); (try k_lift B'); (try k_fold)))
  (k_with "1 ce" => ((case kA => first | assumption | exact rfl); (case kF => first | assumption | exact rfl); (case kK => first | assumption | exact rfl); (case k1 => k_asm); (case k2 => k_asm); (case k3 => k_asm); (case k4 => k_asm); (case k5 => k_asm); (case k6 => k_is); (case k7 => k_is); (case k8 => first | assumption | ktr_room)))
  (k_with "1 eval Name" => (k_here; k_dflt (refine' nameX_L ?F ?v ?_ ?a ?b ?c; (case F => k_asm); (case a => rfl); (case b => rfl); (case v => first | exact @rfl (Option Value) (some _) | assumption); (case c => decide); k_whole)))
  trivial
theorem glob_empty (p : Params) : ∃ t, nsIn (hd.heap_39 p) mainGlobals "EMPTYSTRING" = some (some (.str "" t)) := ⟨_, rfl⟩
theorem glob_len (p : Params) : nsIn (hd.heap_39 p) mainGlobals "len" = some none := by kernel_rfl
theorem blank_len : (Str.ofString " ").length = 1 := by decide
theorem digS_len {f : Int} (h : IsFig f) : (digS f).length = 1 := by
  rcases h with rfl | rfl | rfl <;> decide
theorem str0_call (w : World) (mean : Mean) (mg mb : Nm) (rest : Led) (p dx : Addr) (Ts : List Addr) (n : Nat) (op : Obj) (k : Int) (hp : (p, accObj dx (refs Ts) n) ∈ rest) (ap : ∀ q ∈ rest, q.1 ≠ 121) (ok : TxtOk op) (hl : Ts.length = 8) (hT : ∀ i, i < 8 → IsP rest (Ts.getD i 0) (digS (fig k (7 - i)))) :
    Calls w mean mg mb 30 ((121, op) :: rest) (call (.ref 126) [Value.ref p]) (fun h₀ L m s Q => AllBare s.gens ∧ ∀ op' t h' tk' gs', Fr h₀ L h' m → News h₀ L h' ((121, op') :: rest) → TxtOk op' → AllBare gs' → Q (.str (figsText k) t) { s with heap := h', toks := tk', gens := gs' }) := by
  dsimp only [Calls, KH, VW, prg]
  k_fill
  intros; rename_i hret
  obtain ⟨hG, hret⟩ := hret
  refine wpAny_call ?_
  walk_at "my enter"
  (k_with "eval GeneratorExp" => refine hold ?_)
  k_steps
  dsimp only [Hold]
  obtain ⟨te, hte⟩ := glob_empty w.params
  rename Top _ _ _ _ _ _ => TT
  rename Frag.In _ _ => XX
  rename Fr _ _ _ _ => FF
  rename News _ _ _ _ => NN
  have hmg := mg_of XX TT.g hte
  refine pile_gen (c := 125) (P := 121) (Ts := Ts) (x := p) (Fv := fun i v => ∃ u, v = .str (piece (fig k (7 - i))) u) (va := fun _ => " ") (vb := fun i => digS (fig k (7 - i))) ?h1 ?h2 ?h3 ?h4 ?h5 ?h6 ?h7 ?h8 ?h9 ?h10 ?hs ?hit FF XX TT NN ap hp hG ?hcode (code_str _) ok ?hg ?hT ?hq ?_
  case h1 => exact rfl
  case h2 => exact rfl
  case h3 => with_unfolding_all rfl
  case h4 => decide
  case h5 => rfl
  case h6 => rfl
  case h7 => rfl
  case h8 => decide
  case h9 => rfl
  case h10 => ktr_room
  case hs => intro x; with_unfolding_all rfl
  case hcode => rfl
  case hg => rfl
  case hit => intro Q hQ; k_steps; exact hQ
  case hT =>
    intro i hi
    rw [hl] at hi
    obtain ⟨t1, t2, h⟩ := hT i hi
    exact ⟨t1, t2, h⟩
  case hq =>
    intro C code A' E' i t1 t2 s₂ m₂ hA hi hn hm1 hm2 hg hb
    refine wpAny_mono (elt_join (ta := t1) (tb := t2) (te := te) (pl := ?pl) rfl rfl rfl rfl rfl hn hg hmg hm1 hm2 (by rw [show (Str.ofString " ").length = 1 from blank_len]; decide) (by rw [digS_len (fig_cases _ _)]; decide) ?he) (fun y s₃ h => h) fun _ _ e => e
    case he => with_unfolding_all rfl
  clear FF NN
  intro K a op' h₅ tk gs hLK hK F5 N5 ok5 G5 X5
  dsimp only
  (k_with "call builtin:str.join" => refine hold ?_)
  k_steps
  dsimp only [Hold]
  have e8 : (List.range Ts.length).map (fun i => piece (fig k (7 - i))) = (List.range' 0 8).map (fun i => piece (fig k (7 - i))) := by rw [hl, List.range_eq_range']
  refine join_mv G5 X5 (fun i => piece (fig k (7 - i))) (fun j v h => h) ?_ ?_ (by rw [hl, sizeLine_eq]; decide)
  · rw [e8]
    exact joinOk_of_weight (by simp [piece_len, List.range']) (by decide)
  · intro h6 tk6 gs6 t6 G6 k6
    rw [e8]
    have F6 := fr_low F5 hLK k6
    have N6 := news_low N5 hK k6
    clear F5 N5
    rw [show Txt.join (Str.ofString "") ((List.range' 0 8).map fun i => piece (fig k (7 - i))) = figsText k from rfl]
    generalize figsText k = S at hret ⊢
    dsimp only
    k_steps
    exact hret _ _ _ _ _ (by assumption) (by assumption) ok5 G6

theorem preSum_two : preSum (fun _ => 2) 8 = 16 := by decide
theorem len0_call (w : World) (mean : Mean) (mg mb : Nm) (rest : Led) (p dx : Addr) (Ts : List Addr) (n : Nat) (op : Obj) (hash : Int) (tkd tf : Tok) (f k : Int) (hp : (p, accObj dx (refs Ts) n) ∈ rest) (hdx : (dx, sizeD hash tkd (.int f tf)) ∈ rest) (ap : ∀ q ∈ rest, q.1 ≠ 114) (ok : TxtOk op) (hl : Ts.length = 8) (hT : ∀ i, i < 8 → IsP rest (Ts.getD i 0) (digS (fig k (7 - i)))) (hf : 0 ≤ f ∧ f < 100) :
    Calls w mean mg mb 30 ((114, op) :: rest) (call (.ref 119) [Value.ref p]) (fun h₀ L m s Q => AllBare s.gens ∧ ∀ op' t h' tk' gs', Fr h₀ L h' m → News h₀ L h' ((114, op') :: rest) → TxtOk op' → AllBare gs' → Q (.int (f + 16) t) { s with heap := h', toks := tk', gens := gs' }) := by
  dsimp only [Calls, KH, VW, prg]
  k_fill
  intros; rename_i hret
  obtain ⟨hG, hret⟩ := hret
  refine wpAny_call ?_
  walk_at "my enter"
  (k_with "eval GeneratorExp" => refine hold ?_)
  k_steps
  dsimp only [Hold]
  rename Top _ _ _ _ _ _ => TT
  rename Frag.In _ _ => XX
  rename Fr _ _ _ _ => FF
  rename News _ _ _ _ => NN
  have hmg := mg_none_of XX TT.g (glob_len w.params)
  have hmb : mb "len" = some (.builtin "len") := (TT.builtins "len" (by decide)).trans (by decide +kernel)
  refine pile_gen (c := 118) (P := 114) (Ts := Ts) (x := p) (Fv := fun i v => ∃ u, v = .int 2 u) (va := fun _ => " ") (vb := fun i => digS (fig k (7 - i))) ?h1 ?h2 ?h3 ?h4 ?h5 ?h6 ?h7 ?h8 ?h9 ?h10 ?hs ?hit FF XX TT NN ap hp hG ?hcode (code_len _) ok ?hg ?hT ?hq ?_
  case h1 => exact rfl
  case h2 => exact rfl
  case h3 => with_unfolding_all rfl
  case h4 => decide
  case h5 => rfl
  case h6 => rfl
  case h7 => rfl
  case h8 => decide
  case h9 => rfl
  case h10 => ktr_room
  case hs => intro x; with_unfolding_all rfl
  case hcode => rfl
  case hg => rfl
  case hit => intro Q hQ; k_steps; exact hQ
  case hT =>
    intro i hi
    rw [hl] at hi
    obtain ⟨t1, t2, h⟩ := hT i hi
    exact ⟨t1, t2, h⟩
  case hq =>
    intro C code A' E' i t1 t2 s₂ m₂ hA hi hn hm1 hm2 hg hb
    refine wpAny_mono (elt_len (ta := t1) (tb := t2) rfl rfl rfl rfl rfl rfl hn hg hmg hb hmb hm1 hm2 (by rw [show (Str.ofString " ").length = 1 from blank_len]; decide) (by rw [digS_len (fig_cases _ _)]; decide)) (fun y s₃ h => ⟨?_, h.2⟩) fun _ _ e => e
    obtain ⟨u, rfl⟩ := h.1
    exact ⟨u, by rw [show (Str.ofString " ").length = 1 from blank_len, digS_len (fig_cases _ _)]; rfl⟩
  clear FF NN
  intro K a op' h₅ tk gs hLK hK F5 N5 ok5 G5 X5
  dsimp only
  (k_with "call builtin:sum" => refine hold ?_)
  k_steps
  refine acc_get F5 (by k_asm) N5 (.tail _ hp) (.tail _ hdx) rfl ?_
  k_steps
  dsimp only [Hold]
  have e8 : preSum (fun _ => 2) Ts.length = 16 := by rw [hl]; exact preSum_two
  refine sum_mv (f := f) G5 (gen_toks X5) ?_ (fun _ => 2) (fun j v h => h) ?_ ?_
  · unfold InLong; lia
  · intro j hj
    have : ∀ j, j < 8 → preSum (fun _ => 2) (j + 1) ≤ 16 ∧ 0 ≤ preSum (fun _ => 2) (j + 1) := by decide
    have := this j (by lia)
    unfold InLong; lia
  · intro h6 tk6 gs6 t6 G6 k6
    rw [e8]
    have F6 := fr_low F5 hLK k6
    have N6 := news_low N5 hK k6
    clear F5 N5
    dsimp only
    k_steps
    exact hret _ _ _ _ _ (by assumption) (by assumption) ok5 G6

theorem find_str (p : Params) : findIn (hd.heap_39 p) (.ref 152) "__str__" = some (some (.ref 126)) := by kernel_rfl
theorem find_len (p : Params) : findIn (hd.heap_39 p) (.ref 152) "__len__" = some (some (.ref 119)) := by kernel_rfl
theorem fn_str (p : Params) : isFn (hd.heap_39 p) (.ref 126) = true := by kernel_rfl
theorem fn_len (p : Params) : isFn (hd.heap_39 p) (.ref 119) = true := by kernel_rfl
theorem str_call (w : World) (mean : Mean) (mg mb : Nm) (rest : Led) (p dx : Addr) (Ts : List Addr) (n : Nat) (op od : Obj) (k : Int) (hp : (p, accObj dx (refs Ts) n) ∈ rest) (hdx : (dx, od) ∈ rest) (ap : ∀ q ∈ rest, q.1 ≠ 121) (ok : TxtOk op) (hl : Ts.length = 8) (hT : ∀ i, i < 8 → IsP rest (Ts.getD i 0) (digS (fig k (7 - i)))) :
    Calls w mean mg mb 31 ((121, op) :: rest) (call (.type "str") [Value.ref p]) (fun h₀ L m s Q => AllBare s.gens ∧ ∀ op' t h' tk' gs', Fr h₀ L h' m → News h₀ L h' ((121, op') :: rest) → TxtOk op' → AllBare gs' → Q (.str (figsText k) t) { s with heap := h', toks := tk', gens := gs' }) := by
  intro dp un gd cn cs a ccd cl outer A₀ base h₀ L m s Q E B F X N T hk hd hu hret
  have I := acc_instAt (x := p) N (.tail _ hp) (.tail _ hdx)
  refine kso_call (K := KH w) (f := 126) (by show un + 1 + 1 < cLine; lia) (Frag.In.keeps X F.keep) I (find_str _) (fn_str _) ?_
  refine str0_call w mean mg mb rest p dx Ts n op k hp ap ok hl hT dp (un + 1 + 1) gd cn cs a ccd cl outer A₀ base h₀ L m s _ E B F X N T hk (by lia) (by lia) ⟨hret.1, fun op' t h' tk' gs' F' N' o' g' => ?_⟩
  exact hret.2 op' t h' tk' gs' F' N' o' g'
theorem len_call (w : World) (mean : Mean) (mg mb : Nm) (rest : Led) (p dx : Addr) (Ts : List Addr) (n : Nat) (op : Obj) (hash : Int) (tkd tf : Tok) (f k : Int) (hp : (p, accObj dx (refs Ts) n) ∈ rest) (hdx : (dx, sizeD hash tkd (.int f tf)) ∈ rest) (ap : ∀ q ∈ rest, q.1 ≠ 114) (ok : TxtOk op) (hl : Ts.length = 8) (hT : ∀ i, i < 8 → IsP rest (Ts.getD i 0) (digS (fig k (7 - i)))) (hf : 0 ≤ f ∧ f < 100) :
    Calls w mean mg mb 31 ((114, op) :: rest) (call (.builtin "len") [Value.ref p]) (fun h₀ L m s Q => AllBare s.gens ∧ ∀ op' t h' tk' gs', Fr h₀ L h' m → News h₀ L h' ((114, op') :: rest) → TxtOk op' → AllBare gs' → Q (.int (f + 16) t) { s with heap := h', toks := tk', gens := gs' }) := by
  intro dp un gd cn cs a ccd cl outer A₀ base h₀ L m s Q E B F X N T hk hd hu hret
  have I := acc_instAt (x := p) N (.tail _ hp) (.tail _ hdx)
  refine PySem.W.len_K (K := KH w) (f := 119) F X I (find_len _) (fn_len _) ?_
  refine len0_call w mean mg mb rest p dx Ts n op hash tkd tf f k hp hdx ap ok hl hT hf dp (un + 1) gd cn cs a ccd cl outer A₀ base h₀ L m s _ E B F X N T hk (by lia) (by lia) ⟨hret.1, fun op' t h' tk' gs' F' N' o' g' => ?_⟩
  exact ⟨⟨by lia, by lia⟩, hret.2 op' _ h' _ gs' F' N' o' g'⟩

noncomputable def lawBody : List Stmt := (stAll ((prg.main.body.getLast?).getD (.Pass default))).1
noncomputable def lawScope : Scope := (stAll ((prg.main.body.getLast?).getD (.Pass default))).2.1
noncomputable def lawSt (i : Nat) : Stmt := lawBody.getD i (.Pass default)
noncomputable abbrev lawCl (ab ah al ap ad aw ac as : Addr) : List (Str × Addr) := [("back", ab), ("share", ah), ("light", al), ("spread", ap), ("dark", ad), ("ways", aw), ("cells", ac), ("script", as)]
noncomputable abbrev LF := List (Str × Value)
noncomputable abbrev nmOf (fr : LF) : Nm := fun y => List.lookup y fr
theorem frPush {h₀ h : Heap} {L : Addr} {a : Str} {v : Value} {fr : LF} (F : Fr h₀ L h (fun y => if y = a then some v else nmOf fr y)) : Fr h₀ L h (nmOf ((a, v) :: fr)) :=
  frame_as F fun z => by
    show List.lookup z ((a, v) :: fr) = if z = a then some v else List.lookup z fr
    by_cases e : z = a
    · subst e; simp
    · have : (z == a) = false := by simpa using e
      rw [if_neg e]
      show (match z == a with | true => some v | false => List.lookup z fr) = _
      rw [this]

theorem cells_mem {news : Led} {c : Addr} {o o' : Obj} (h : (c, o) ∈ news) (_ : o.data = o'.data) : (c, o) ∈ news := h
noncomputable def lawLoop : List Stmt := (stAll (lawSt 15)).1
noncomputable def lawIter : PySem.Expr := (stAll (lawSt 15)).2.2.1
noncomputable def lawT (i : Nat) : Stmt := lawLoop.getD i (.Pass default)
noncomputable def lawIf : List Stmt := (stAll (lawT 2)).1
noncomputable def lawIfT : PySem.Expr := (stAll (lawT 2)).2.2.1
noncomputable def lawIfP : Pos := (stAll (lawT 2)).2.2.2
noncomputable def lawU (i : Nat) : Stmt := lawIf.getD i (.Pass default)
theorem lookup_cons {a b : Str} {v : Value} {fr : LF} (h : a ≠ b) : nmOf ((a, v) :: fr) b = nmOf fr b := by
  have : (b == a) = false := by simpa using Ne.symm h
  show (match b == a with | true => some v | false => List.lookup b fr) = _
  rw [this]
theorem lookup_head {a : Str} {v : Value} {fr : LF} : nmOf ((a, v) :: fr) a = some v := by
  show (match a == a with | true => some v | false => List.lookup a fr) = _
  rw [show (a == a) = true by simp]

namespace Zc
noncomputable def S (w : World) (mean : Mean) (mg : Nm) (mb : Nm) (as : Addr) (ac : Addr) (aw : Addr) (ad : Addr) (ap : Addr) (al : Addr) (ah : Addr) (ab : Addr) (os : Obj) (oc : Obj) (ow : Obj) (od : Obj) (op : Obj) (ol : Obj) (oh : Obj) (ob : Obj) (t1 : Obj) (t4 : Obj) (la : Addr) (vs0 : List Value) (ns : List Int) (dp : Nat) (un : Nat) (gd : Option (List Code)) (base : Heap) (h₀ : Heap) (L : Addr) (s₀ : Shared) (Q₀ : Flow → Shared → Prop) (E : Value → Shared → Prop) : Prop := ∀ (hi0 : IntsAre vs0 ns) (hlen : vs0.length ≤ 63) (hlt : @LT.lt Nat _ 121 as ∧ @LT.lt Nat _ as ac ∧ @LT.lt Nat _ ac aw ∧ @LT.lt Nat _ aw ad ∧ @LT.lt Nat _ ad ap ∧ @LT.lt Nat _ ap al ∧ @LT.lt Nat _ al ah ∧ @LT.lt Nat _ ah ab) (ds : os.data = .cell (some (.ref la))) (dc : oc.data = .cell none) (dw : ow.data = .cell none) (dd : od.data = .cell none) (dp' : op.data = .cell none) (dl : ol.data = .cell none) (dh : oh.data = .cell none) (db : ob.data = .cell none) (ok1 : TxtOk t1) (ok4 : TxtOk t4) (B : Below callerA base [] h₀) (F : Fr h₀ L s₀.heap (nmOf [])) (X : (KH w).In h₀) (N : News h₀ L s₀.heap [(ac, oc), (as, os), (aw, ow), (ad, od), (ap, op), (al, ol), (ah, oh), (ab, ob), (121, t1), (114, t4)]) (TT : Top VW LW mean mg mb h₀) (hd : dp + 60 < recursionLimit) (hu : un + 480 < cLine) (hl0 : h₀.IsList la vs0.toArray) (hG : AllBare s₀.gens) (hret : ∀ fr h' tk' gs' op' o4', Fr h₀ L h' (nmOf fr) → AllBare gs' → TxtOk op' → TxtOk o4' → h'.get? 121 = some op' → h'.get? 114 = some o4' → Q₀ (.ret (.bool true)) { s₀ with heap := h', toks := tk', gens := gs' }), wpC (model prg w) (ktrTop dp un gd "law" lawScope L 215 (.ref 214) (lawCl ab ah al ap ad aw ac as) []) (execs lawBody (envX "law" lawScope L 215 (.ref 214) (lawCl ab ah al ap ad aw ac as))) Q₀ E s₀
theorem ne : Nonempty ((World) × (Mean) × (Nm) × (Nm) × (Addr) × (Addr) × (Addr) × (Addr) × (Addr) × (Addr) × (Addr) × (Addr) × (Obj) × (Obj) × (Obj) × (Obj) × (Obj) × (Obj) × (Obj) × (Obj) × (Obj) × (Obj) × (Addr) × (List Value) × (List Int) × (Nat) × (Nat) × (Option (List Code)) × (Heap) × (Heap) × (Addr) × (Shared) × (Flow → Shared → Prop) × (Value → Shared → Prop)) := ⟨((dW : World), (fun _ => none : Mean), (fun _ => none : Nm), (fun _ => none : Nm), ((0 : Nat) : Addr), ((0 : Nat) : Addr), ((0 : Nat) : Addr), ((0 : Nat) : Addr), ((0 : Nat) : Addr), ((0 : Nat) : Addr), ((0 : Nat) : Addr), ((0 : Nat) : Addr), (default : Obj), (default : Obj), (default : Obj), (default : Obj), (default : Obj), (default : Obj), (default : Obj), (default : Obj), (default : Obj), (default : Obj), ((0 : Nat) : Addr), ([] : List Value), ([] : List Int), (0 : Nat), (0 : Nat), (none : Option (List Code)), (default : Heap), (default : Heap), ((0 : Nat) : Addr), ({} : Shared), (fun _ _ => True : Flow → Shared → Prop), (fun _ _ => True : Value → Shared → Prop))⟩
noncomputable def c : (World) × (Mean) × (Nm) × (Nm) × (Addr) × (Addr) × (Addr) × (Addr) × (Addr) × (Addr) × (Addr) × (Addr) × (Obj) × (Obj) × (Obj) × (Obj) × (Obj) × (Obj) × (Obj) × (Obj) × (Obj) × (Obj) × (Addr) × (List Value) × (List Int) × (Nat) × (Nat) × (Option (List Code)) × (Heap) × (Heap) × (Addr) × (Shared) × (Flow → Shared → Prop) × (Value → Shared → Prop) := @Classical.epsilon _ ne fun x => ¬ S (x.1) (x.2.1) (x.2.2.1) (x.2.2.2.1) (x.2.2.2.2.1) (x.2.2.2.2.2.1) (x.2.2.2.2.2.2.1) (x.2.2.2.2.2.2.2.1) (x.2.2.2.2.2.2.2.2.1) (x.2.2.2.2.2.2.2.2.2.1) (x.2.2.2.2.2.2.2.2.2.2.1) (x.2.2.2.2.2.2.2.2.2.2.2.1) (x.2.2.2.2.2.2.2.2.2.2.2.2.1) (x.2.2.2.2.2.2.2.2.2.2.2.2.2.1) (x.2.2.2.2.2.2.2.2.2.2.2.2.2.2.1) (x.2.2.2.2.2.2.2.2.2.2.2.2.2.2.2.1) (x.2.2.2.2.2.2.2.2.2.2.2.2.2.2.2.2.1) (x.2.2.2.2.2.2.2.2.2.2.2.2.2.2.2.2.2.1) (x.2.2.2.2.2.2.2.2.2.2.2.2.2.2.2.2.2.2.1) (x.2.2.2.2.2.2.2.2.2.2.2.2.2.2.2.2.2.2.2.1) (x.2.2.2.2.2.2.2.2.2.2.2.2.2.2.2.2.2.2.2.2.1) (x.2.2.2.2.2.2.2.2.2.2.2.2.2.2.2.2.2.2.2.2.2.1) (x.2.2.2.2.2.2.2.2.2.2.2.2.2.2.2.2.2.2.2.2.2.2.1) (x.2.2.2.2.2.2.2.2.2.2.2.2.2.2.2.2.2.2.2.2.2.2.2.1) (x.2.2.2.2.2.2.2.2.2.2.2.2.2.2.2.2.2.2.2.2.2.2.2.2.1) (x.2.2.2.2.2.2.2.2.2.2.2.2.2.2.2.2.2.2.2.2.2.2.2.2.2.1) (x.2.2.2.2.2.2.2.2.2.2.2.2.2.2.2.2.2.2.2.2.2.2.2.2.2.2.1) (x.2.2.2.2.2.2.2.2.2.2.2.2.2.2.2.2.2.2.2.2.2.2.2.2.2.2.2.1) (x.2.2.2.2.2.2.2.2.2.2.2.2.2.2.2.2.2.2.2.2.2.2.2.2.2.2.2.2.1) (x.2.2.2.2.2.2.2.2.2.2.2.2.2.2.2.2.2.2.2.2.2.2.2.2.2.2.2.2.2.1) (x.2.2.2.2.2.2.2.2.2.2.2.2.2.2.2.2.2.2.2.2.2.2.2.2.2.2.2.2.2.2.1) (x.2.2.2.2.2.2.2.2.2.2.2.2.2.2.2.2.2.2.2.2.2.2.2.2.2.2.2.2.2.2.2.1) (x.2.2.2.2.2.2.2.2.2.2.2.2.2.2.2.2.2.2.2.2.2.2.2.2.2.2.2.2.2.2.2.2.1) (x.2.2.2.2.2.2.2.2.2.2.2.2.2.2.2.2.2.2.2.2.2.2.2.2.2.2.2.2.2.2.2.2.2)
end Zc
@[irreducible] noncomputable def w : World := Zc.c.1
@[irreducible] noncomputable def mean : Mean := Zc.c.2.1
@[irreducible] noncomputable def mg : Nm := Zc.c.2.2.1
@[irreducible] noncomputable def mb : Nm := Zc.c.2.2.2.1
@[irreducible] noncomputable def as : Addr := Zc.c.2.2.2.2.1
@[irreducible] noncomputable def ac : Addr := Zc.c.2.2.2.2.2.1
@[irreducible] noncomputable def aw : Addr := Zc.c.2.2.2.2.2.2.1
@[irreducible] noncomputable def ad : Addr := Zc.c.2.2.2.2.2.2.2.1
@[irreducible] noncomputable def ap : Addr := Zc.c.2.2.2.2.2.2.2.2.1
@[irreducible] noncomputable def al : Addr := Zc.c.2.2.2.2.2.2.2.2.2.1
@[irreducible] noncomputable def ah : Addr := Zc.c.2.2.2.2.2.2.2.2.2.2.1
@[irreducible] noncomputable def ab : Addr := Zc.c.2.2.2.2.2.2.2.2.2.2.2.1
@[irreducible] noncomputable def os : Obj := Zc.c.2.2.2.2.2.2.2.2.2.2.2.2.1
@[irreducible] noncomputable def oc : Obj := Zc.c.2.2.2.2.2.2.2.2.2.2.2.2.2.1
@[irreducible] noncomputable def ow : Obj := Zc.c.2.2.2.2.2.2.2.2.2.2.2.2.2.2.1
@[irreducible] noncomputable def od : Obj := Zc.c.2.2.2.2.2.2.2.2.2.2.2.2.2.2.2.1
@[irreducible] noncomputable def op : Obj := Zc.c.2.2.2.2.2.2.2.2.2.2.2.2.2.2.2.2.1
@[irreducible] noncomputable def ol : Obj := Zc.c.2.2.2.2.2.2.2.2.2.2.2.2.2.2.2.2.2.1
@[irreducible] noncomputable def oh : Obj := Zc.c.2.2.2.2.2.2.2.2.2.2.2.2.2.2.2.2.2.2.1
@[irreducible] noncomputable def ob : Obj := Zc.c.2.2.2.2.2.2.2.2.2.2.2.2.2.2.2.2.2.2.2.1
@[irreducible] noncomputable def t1 : Obj := Zc.c.2.2.2.2.2.2.2.2.2.2.2.2.2.2.2.2.2.2.2.2.1
@[irreducible] noncomputable def t4 : Obj := Zc.c.2.2.2.2.2.2.2.2.2.2.2.2.2.2.2.2.2.2.2.2.2.1
@[irreducible] noncomputable def la : Addr := Zc.c.2.2.2.2.2.2.2.2.2.2.2.2.2.2.2.2.2.2.2.2.2.2.1
@[irreducible] noncomputable def vs0 : List Value := Zc.c.2.2.2.2.2.2.2.2.2.2.2.2.2.2.2.2.2.2.2.2.2.2.2.1
@[irreducible] noncomputable def ns : List Int := Zc.c.2.2.2.2.2.2.2.2.2.2.2.2.2.2.2.2.2.2.2.2.2.2.2.2.1
@[irreducible] noncomputable def dp : Nat := Zc.c.2.2.2.2.2.2.2.2.2.2.2.2.2.2.2.2.2.2.2.2.2.2.2.2.2.1
@[irreducible] noncomputable def un : Nat := Zc.c.2.2.2.2.2.2.2.2.2.2.2.2.2.2.2.2.2.2.2.2.2.2.2.2.2.2.1
@[irreducible] noncomputable def gd : Option (List Code) := Zc.c.2.2.2.2.2.2.2.2.2.2.2.2.2.2.2.2.2.2.2.2.2.2.2.2.2.2.2.1
@[irreducible] noncomputable def base : Heap := Zc.c.2.2.2.2.2.2.2.2.2.2.2.2.2.2.2.2.2.2.2.2.2.2.2.2.2.2.2.2.1
@[irreducible] noncomputable def h₀ : Heap := Zc.c.2.2.2.2.2.2.2.2.2.2.2.2.2.2.2.2.2.2.2.2.2.2.2.2.2.2.2.2.2.1
@[irreducible] noncomputable def L : Addr := Zc.c.2.2.2.2.2.2.2.2.2.2.2.2.2.2.2.2.2.2.2.2.2.2.2.2.2.2.2.2.2.2.1
@[irreducible] noncomputable def s₀ : Shared := Zc.c.2.2.2.2.2.2.2.2.2.2.2.2.2.2.2.2.2.2.2.2.2.2.2.2.2.2.2.2.2.2.2.1
@[irreducible] noncomputable def Q₀ : Flow → Shared → Prop := Zc.c.2.2.2.2.2.2.2.2.2.2.2.2.2.2.2.2.2.2.2.2.2.2.2.2.2.2.2.2.2.2.2.2.1
@[irreducible] noncomputable def E : Value → Shared → Prop := Zc.c.2.2.2.2.2.2.2.2.2.2.2.2.2.2.2.2.2.2.2.2.2.2.2.2.2.2.2.2.2.2.2.2.2
noncomputable abbrev AtLaw (st : List Stmt) (news : Led) (fr : LF) (R : Heap → Addr → Shared → (Flow → Shared → Prop) → Prop) : Prop :=
  ∀ (s : Shared) (Q : Flow → Shared → Prop) (E : Value → Shared → Prop),
    Below callerA base [] h₀ → Fr h₀ L s.heap (nmOf fr) → (KH w).In h₀ → News h₀ L s.heap news → Top VW LW mean mg mb h₀ →
    dp + 60 < recursionLimit → un + 480 < cLine → R h₀ L s Q →
      wpAny (model prg w) (ktrTop dp un gd "law" lawScope L 215 (.ref 214) (lawCl ab ah al ap ad aw ac as) []) (execs st (envX "law" lawScope L 215 (.ref 214) (lawCl ab ah al ap ad aw ac as))) Q E s

theorem led_of {h : Heap} : ∀ {ow : List Addr}, (∀ b ∈ ow, ∃ o, h.get? b = some o) → ∃ its : Led, its.map (·.1) = ow ∧ ∀ p ∈ its, h.get? p.1 = some p.2
  | [], _ => ⟨[], rfl, fun _ hp => nomatch hp⟩
  | b :: r, hx => by
    obtain ⟨its, e, h1⟩ := led_of (ow := r) fun b hb => hx b (.tail _ hb)
    obtain ⟨o, ho⟩ := hx b (.head _)
    exact ⟨(b, o) :: its, by rw [List.map_cons, e], fun p hp => by
      rcases List.mem_cons.mp hp with rfl | hp
      · exact ho
      · exact h1 p hp⟩
noncomputable def PairEnd (h₀ : Heap) (L : Addr) (m : Nm) (s : Shared) (all : Led) (El : Value → Prop) (y : Value) (s' : Shared) : Prop := ∃ h' tk', s' = { s with heap := h', toks := tk' } ∧ Fr h₀ L h' m ∧ News h₀ L h' all ∧ El y
section
variable {prog : Program} {w : World} {A : Around} {E : Value → Shared → Prop} {s : Shared} {h₀ : Heap} {L : Addr} {m : Nm} {env : Env}
end
namespace pair_block_z
noncomputable def zS (prog : Program) (w : World) (A : Around) (E : Value → Shared → Prop) (h₀ : Heap) (L : Addr) (m : Nm) (env : Env) (elt : PySem.Expr) (iter : PySem.Expr) (a : Str) (b : Str) (pa : Pos) (pb : Pos) (tp : Pos) (kk : Nat) (scope : Scope) (cl : List (Str × Addr)) (pos : Pos) (s₂ : Shared) (I : Addr) (fp : List Addr) (wr : List Addr) (ow : List Addr) (n : Nat) (Pt : Nat → Array Value → Prop) (St : Nat → Heap → Prop) (Mid : Nat → Addr → Heap → Prop) (news : Led) (RR : Value → Addr → Result → Shared → Prop) (El : Nat → Value → Prop) : Prop := ∀ (hh : A.handled = none) (W : WalksU prog w A I fp wr n Pt St Mid) (hsz : n ≤ sizeLine) (hst : St 0 s₂.heap) (hPt : ∀ i vals, Pt i vals → ∃ x y, vals = #[x, y]) (hwo : ∀ b ∈ wr, b ∈ ow) (hfp : ∀ b ∈ fp, b ∈ ow ∨ ∃ o, (b, o) ∈ news) (hex : ∀ i h, St i h → ∀ b ∈ ow, ∃ o, h.get? b = some o) (how : ∀ b ∈ ow, b ≠ L ∧ h₀.get? b = none ∧ ∀ p ∈ news, p.1 ≠ b) (hcell : ∀ y ∈ scope.names, y.2 ≠ .cell) (hkind : scope.kind = .function) (hxa : scope.names.lookup a = some .local) (hxb : scope.names.lookup b = some .local) (hab : ¬ a = b) (F : Fr h₀ L s₂.heap m) (N : News h₀ L s₂.heap news) (turn : ∀ i x y its oC C D m₂ ys h tk (E' : Value → Shared → Prop), i < n → Pt i #[x, y] → LCg.NsObj oC m₂ → m₂ a = some x → m₂ b = some y → Fr h₀ L h m → News h₀ L h (its ++ (C, oC) :: (D, LCg.lst ys) :: news) → its.map (·.1) = ow → (∀ p ∈ news, p.1 < D) → D < C →
      wpAny (model prog w) A (eval elt (compEnvC scope cl C env)) (PairEnd h₀ L m { s₂ with heap := h, toks := tk } (its ++ (C, oC) :: (D, LCg.lst ys) :: news) (El i)) E' { s₂ with heap := h, toks := tk }) (hRR : ∀ D C h tk m' ys, ys.length = n → (∀ i y, ys[i]? = some y → El i y) → Fr h₀ L h m → News h₀ L h ((D, LCg.lst ys) :: news) → (∀ p ∈ news, p.1 < D) → D < C → h.Ns C m' → C ≠ L → D ≠ L → h₀.get? C = none → RR (.ref D) C (.ok .next) { s₂ with heap := h, toks := tk }), wpAny (model prog w) A (newList []) (fun acc s₃ => wpAny (model prog w) A (newFunctionEnv scope env.globals cl [] env.qual none .none (some env)) (fun cenv s₄ =>
      codeAny (model prog w) A (.compStart (.ListComp elt [⟨.Tuple [.Name a pa, .Name b pb] kk tp, iter, [], 0⟩] scope pos) 0 (.ref I) acc { cenv with scope := relabel scope env }) (RR acc cenv.locals) s₄) E s₃) E s₂
noncomputable abbrev zT : Type := (Program) × (World) × (Around) × (Value → Shared → Prop) × (Heap) × (Addr) × (Nm) × (Env) × (PySem.Expr) × (PySem.Expr) × (Str) × (Str) × (Pos) × (Pos) × (Pos) × (Nat) × (Scope) × (List (Str × Addr)) × (Pos) × (Shared) × (Addr) × (List Addr) × (List Addr) × (List Addr) × (Nat) × (Nat → Array Value → Prop) × (Nat → Heap → Prop) × (Nat → Addr → Heap → Prop) × (Led) × (Value → Addr → Result → Shared → Prop) × (Nat → Value → Prop)
noncomputable def zP (x : zT) : Prop := zS x.1 x.2.1 x.2.2.1 x.2.2.2.1 x.2.2.2.2.1 x.2.2.2.2.2.1 x.2.2.2.2.2.2.1 x.2.2.2.2.2.2.2.1 x.2.2.2.2.2.2.2.2.1 x.2.2.2.2.2.2.2.2.2.1 x.2.2.2.2.2.2.2.2.2.2.1 x.2.2.2.2.2.2.2.2.2.2.2.1 x.2.2.2.2.2.2.2.2.2.2.2.2.1 x.2.2.2.2.2.2.2.2.2.2.2.2.2.1 x.2.2.2.2.2.2.2.2.2.2.2.2.2.2.1 x.2.2.2.2.2.2.2.2.2.2.2.2.2.2.2.1 x.2.2.2.2.2.2.2.2.2.2.2.2.2.2.2.2.1 x.2.2.2.2.2.2.2.2.2.2.2.2.2.2.2.2.2.1 x.2.2.2.2.2.2.2.2.2.2.2.2.2.2.2.2.2.2.1 x.2.2.2.2.2.2.2.2.2.2.2.2.2.2.2.2.2.2.2.1 x.2.2.2.2.2.2.2.2.2.2.2.2.2.2.2.2.2.2.2.2.1 x.2.2.2.2.2.2.2.2.2.2.2.2.2.2.2.2.2.2.2.2.2.1 x.2.2.2.2.2.2.2.2.2.2.2.2.2.2.2.2.2.2.2.2.2.2.1 x.2.2.2.2.2.2.2.2.2.2.2.2.2.2.2.2.2.2.2.2.2.2.2.1 x.2.2.2.2.2.2.2.2.2.2.2.2.2.2.2.2.2.2.2.2.2.2.2.2.1 x.2.2.2.2.2.2.2.2.2.2.2.2.2.2.2.2.2.2.2.2.2.2.2.2.2.1 x.2.2.2.2.2.2.2.2.2.2.2.2.2.2.2.2.2.2.2.2.2.2.2.2.2.2.1 x.2.2.2.2.2.2.2.2.2.2.2.2.2.2.2.2.2.2.2.2.2.2.2.2.2.2.2.1 x.2.2.2.2.2.2.2.2.2.2.2.2.2.2.2.2.2.2.2.2.2.2.2.2.2.2.2.2.1 x.2.2.2.2.2.2.2.2.2.2.2.2.2.2.2.2.2.2.2.2.2.2.2.2.2.2.2.2.2.1 x.2.2.2.2.2.2.2.2.2.2.2.2.2.2.2.2.2.2.2.2.2.2.2.2.2.2.2.2.2.2
theorem zne : Nonempty zT := ⟨(default, dW, {}, fun _ _ => True, default, (0 : Nat), fun _ => none, default, default, default, ⟨#[]⟩, ⟨#[]⟩, default, default, default, 0, default, [], default, {}, (0 : Nat), [], [], [], 0, fun _ _ => True, fun _ _ => True, fun _ _ _ => True, [], fun _ _ _ _ => True, fun _ _ => True)⟩
noncomputable def zc : zT := @Classical.epsilon _ zne fun x => ¬ zP x
@[irreducible] noncomputable def prog : Program := zc.1
@[irreducible] noncomputable def w : World := zc.2.1
@[irreducible] noncomputable def A : Around := zc.2.2.1
@[irreducible] noncomputable def E : Value → Shared → Prop := zc.2.2.2.1
@[irreducible] noncomputable def h₀ : Heap := zc.2.2.2.2.1
@[irreducible] noncomputable def L : Addr := zc.2.2.2.2.2.1
@[irreducible] noncomputable def m : Nm := zc.2.2.2.2.2.2.1
@[irreducible] noncomputable def env : Env := zc.2.2.2.2.2.2.2.1
@[irreducible] noncomputable def elt : PySem.Expr := zc.2.2.2.2.2.2.2.2.1
@[irreducible] noncomputable def iter : PySem.Expr := zc.2.2.2.2.2.2.2.2.2.1
@[irreducible] noncomputable def a : Str := zc.2.2.2.2.2.2.2.2.2.2.1
@[irreducible] noncomputable def b : Str := zc.2.2.2.2.2.2.2.2.2.2.2.1
@[irreducible] noncomputable def pa : Pos := zc.2.2.2.2.2.2.2.2.2.2.2.2.1
@[irreducible] noncomputable def pb : Pos := zc.2.2.2.2.2.2.2.2.2.2.2.2.2.1
@[irreducible] noncomputable def tp : Pos := zc.2.2.2.2.2.2.2.2.2.2.2.2.2.2.1
@[irreducible] noncomputable def kk : Nat := zc.2.2.2.2.2.2.2.2.2.2.2.2.2.2.2.1
@[irreducible] noncomputable def scope : Scope := zc.2.2.2.2.2.2.2.2.2.2.2.2.2.2.2.2.1
@[irreducible] noncomputable def cl : List (Str × Addr) := zc.2.2.2.2.2.2.2.2.2.2.2.2.2.2.2.2.2.1
@[irreducible] noncomputable def pos : Pos := zc.2.2.2.2.2.2.2.2.2.2.2.2.2.2.2.2.2.2.1
@[irreducible] noncomputable def s₂ : Shared := zc.2.2.2.2.2.2.2.2.2.2.2.2.2.2.2.2.2.2.2.1
@[irreducible] noncomputable def I : Addr := zc.2.2.2.2.2.2.2.2.2.2.2.2.2.2.2.2.2.2.2.2.1
@[irreducible] noncomputable def fp : List Addr := zc.2.2.2.2.2.2.2.2.2.2.2.2.2.2.2.2.2.2.2.2.2.1
@[irreducible] noncomputable def wr : List Addr := zc.2.2.2.2.2.2.2.2.2.2.2.2.2.2.2.2.2.2.2.2.2.2.1
@[irreducible] noncomputable def ow : List Addr := zc.2.2.2.2.2.2.2.2.2.2.2.2.2.2.2.2.2.2.2.2.2.2.2.1
@[irreducible] noncomputable def n : Nat := zc.2.2.2.2.2.2.2.2.2.2.2.2.2.2.2.2.2.2.2.2.2.2.2.2.1
@[irreducible] noncomputable def Pt : Nat → Array Value → Prop := zc.2.2.2.2.2.2.2.2.2.2.2.2.2.2.2.2.2.2.2.2.2.2.2.2.2.1
@[irreducible] noncomputable def St : Nat → Heap → Prop := zc.2.2.2.2.2.2.2.2.2.2.2.2.2.2.2.2.2.2.2.2.2.2.2.2.2.2.1
@[irreducible] noncomputable def Mid : Nat → Addr → Heap → Prop := zc.2.2.2.2.2.2.2.2.2.2.2.2.2.2.2.2.2.2.2.2.2.2.2.2.2.2.2.1
@[irreducible] noncomputable def news : Led := zc.2.2.2.2.2.2.2.2.2.2.2.2.2.2.2.2.2.2.2.2.2.2.2.2.2.2.2.2.1
@[irreducible] noncomputable def RR : Value → Addr → Result → Shared → Prop := zc.2.2.2.2.2.2.2.2.2.2.2.2.2.2.2.2.2.2.2.2.2.2.2.2.2.2.2.2.2.1
@[irreducible] noncomputable def El : Nat → Value → Prop := zc.2.2.2.2.2.2.2.2.2.2.2.2.2.2.2.2.2.2.2.2.2.2.2.2.2.2.2.2.2.2
theorem zmain : zS prog w A E h₀ L m env elt iter a b pa pb tp kk scope cl pos s₂ I fp wr ow n Pt St Mid news RR El := by
  unfold zS
  intro hh W hsz hst hPt hwo hfp hex how hcell hkind hxa hxb hab F N turn hRR
  refine wpAny_newObj_type (wpAny_newFunctionEnv hcell (by intro y hy; simp at hy) (fun h₁ hns₁ hsb₁ => ?_) hkind)
  dsimp only at hns₁ hsb₁ ⊢
  generalize hH2 : s₂.heap.push { cls := .type "list", dict := none, data := .seq ([] : List Value).toArray } = H2 at hns₁ hsb₁ ⊢
  generalize hDe : s₂.heap.objs.size = D at *
  have hC : H2.objs.size = D + 1 := by rw [← hH2, Heap.size_push, hDe]
  generalize hCe : H2.objs.size = C at *
  subst hC
  have lt : ∀ {b o}, s₂.heap.get? b = some o → b < D := fun e => hDe ▸ Heap.lt_size e
  have old : ∀ b o, s₂.heap.get? b = some o → h₁.get? b = some o := fun b o e => hsb₁.extBut b o (Nat.ne_of_lt (Nat.lt_succ_of_lt (lt e))) (Heap.get?_push_of_some _ (hH2 ▸ Heap.get?_push_of_some _ e))
  have hacc : h₁.get? D = some (LCg.lst []) := hsb₁.extBut _ _ (Nat.ne_of_lt (Nat.lt_succ_self _)) (Heap.get?_push_of_some _ (by rw [← hH2, ← hDe]; exact Heap.get?_push_size _ rfl))
  have fresh₀ : ∀ a, D ≤ a → h₀.get? a = none := fun a ha => by
    cases e : h₀.get? a with
    | none => rfl
    | some o' => exact absurd (lt (F.keep a o' e)) (Nat.not_lt.mpr ha)
  have hL : L < D := hDe ▸ F.ns.lt
  have hnews : ∀ p ∈ news, p.1 < D := fun p hp => lt (N p hp).1
  have hows : ∀ b ∈ ow, b < D := fun b hb => let ⟨_, e⟩ := hex 0 _ hst b hb; lt e
  have hfps : ∀ b ∈ fp, b < D := fun b hb => by
    rcases hfp b hb with h | ⟨o, h⟩
    · exact hows b h
    · exact hnews _ h
  have loop : ∀ s₃ : Shared, s₃ = { s₂ with heap := h₁, toks := s₂.toks + ([] : List (Str × Value)).length } →
      codeAny (model prog w) A (.compLoop (.ListComp elt [⟨.Tuple [.Name a pa, .Name b pb] kk tp, iter, [], 0⟩] scope pos) 0 (.ref I) (.ref D) (compEnvC scope cl (D + 1) env)) (RR (.ref D) (D + 1)) s₃ := by
    rintro s₃ rfl
    refine kcp_loop (fun k s' => ∃ h' tk i ys m', s' = { s₂ with heap := h', toks := tk } ∧ i ≤ n ∧ k = n + 1 - i ∧ ys.length = i ∧ St i h' ∧ Fr h₀ L h' m ∧ h'.Ns (D + 1) m' ∧ News h₀ L h' ((D, LCg.lst ys) :: news) ∧ ∀ j y, ys[j]? = some y → El j y) ?_ (n + 1)
      (exI5 h₁ _ 0 [] _ ⟨rfl, Nat.zero_le _, rfl, rfl, W.frame 0 _ _ hst fun b _ o e => old b o e, F.keeps old, hns₁, fun p hp => ?_, fun _ _ h => nomatch (show none = some _ from h)⟩)
    rotate_left
    · rcases List.mem_cons.mp hp with rfl | hp
      · exact ⟨hacc, Nat.ne_of_gt hL, fresh₀ _ (Nat.le_refl _)⟩
      · exact ⟨old _ _ (N p hp).1, (N p hp).2⟩
    intro k s' hK
    refine exE5 hK fun h' tk i ys m' hK => ?_
    refine anE9 hK fun e1 hi e2 hyl hst' F' hn' N' hel => ?_
    clear hK
    subst e1 e2
    by_cases hlt : i < n
    · refine W.item i _ _ _ hlt hst' fun T vals h₂ tk₂ hP hT hmid hk₂ => ?_
      obtain ⟨x, y, rfl⟩ := hPt i vals hP
      refine W.go _ _ _ i T _ _ _ hmid fun h₃ hst₃ hk₃ => ?_
      have wrD : ∀ c, D ≤ c → c ∉ wr := fun c hc hm => Nat.not_lt.mpr hc (hows c (hwo c hm))
      have up₃ : ∀ c o, c ∉ wr → h'.get? c = some o → h₃.get? c = some o := fun c o hc e => hk₃ c o hc (hk₂ c o hc e)
      have hT₃ : h₃.IsTuple T #[x, y] := hT.at fun o e => hk₃ T o (W.apart i T _ hmid) e
      refine kcp_assign (env := compEnvC scope cl (D + 1) env) hh hT₃ (lookup_relabel_local hxa) (lookup_relabel_local hxb) (by simp [compEnvC, relabel, hkind]) (hn'.at' fun o e => up₃ _ o (wrD _ (Nat.le_succ _)) e) fun h₄ tk₄ hn₄ hs₄ => ?_
      have up : ∀ c o, c ∉ wr → c ≠ D + 1 → h'.get? c = some o → h₄.get? c = some o := fun c o h1 h2 e => hs₄ c o h2 (up₃ c o h1 e)
      have hst₄ : St (i + 1) h₄ := W.frame _ _ _ hst₃ fun b hb o e => hs₄ b o (fun q => by have := hfps b hb; rw [q] at this; exact Nat.lt_irrefl _ (Nat.lt_of_succ_lt this)) e
      obtain ⟨its, hits, hget⟩ := led_of (hex _ _ hst₄)
      obtain ⟨oC, heC, hoC⟩ := LCg.ns_obj hn₄
      have nwr : ∀ c, (∀ b ∈ ow, c ≠ b) → c ∉ wr := fun c h hm => h c (hwo c hm) rfl
      have F₄ : Fr h₀ L h₄ m := ⟨F'.ns.at' fun o e => up _ o (nwr _ fun b hb => Ne.symm (how b hb).1) (Nat.ne_of_lt (Nat.lt_succ_of_lt hL)) e, fun c o e => up c o (nwr _ fun b hb q => by rw [q, (how b hb).2.1] at e; cases e) (fun q => by rw [q, fresh₀ _ (Nat.le_succ _)] at e; cases e) (F'.keep c o e), F'.above⟩
      have N₄ : News h₀ L h₄ (its ++ (D + 1, oC) :: (D, LCg.lst ys) :: news) := fun q hq => by
        rcases List.mem_append.mp hq with hq | hq
        · have hb : q.1 ∈ ow := by rw [← hits]; exact List.mem_map_of_mem hq
          exact ⟨hget q hq, (how _ hb).1, (how _ hb).2.1⟩
        · rcases List.mem_cons.mp hq with rfl | hq
          · exact ⟨heC, Nat.ne_of_gt (Nat.lt_succ_of_lt hL), fresh₀ _ (Nat.le_succ _)⟩
          · have z := N' q hq
            refine ⟨up _ _ (nwr _ fun b hb => ?_) ?_ z.1, z.2⟩
            · rcases List.mem_cons.mp hq with rfl | hq
              · exact Nat.ne_of_gt (hows b hb)
              · exact (how b hb).2.2 q hq
            · rcases List.mem_cons.mp hq with rfl | hq
              · exact Nat.ne_of_lt (Nat.lt_succ_self _)
              · exact Nat.ne_of_lt (Nat.lt_succ_of_lt (hnews q hq))
      refine wpAny_mono (turn i x y its oC (D + 1) D _ ys h₄ _ _ hlt hP hoC (by simp [hab]) (by simp) F₄ N₄ hits hnews (Nat.lt_succ_self _)) (fun v s₅ h₅ => ?_) fun _ _ e => e
      obtain ⟨h₅, tk₅, rfl, F₅, N₅, hv⟩ := h₅
      have zC := (N₅ (D + 1, oC) (List.mem_append_right _ (.head _))).1
      have zD := (N₅ (D, LCg.lst ys) (List.mem_append_right _ (.tail _ (.head _)))).1
      have hst₅ : St (i + 1) h₅ := W.frame _ _ _ hst₄ fun b hb o e => by
        rcases hfp b hb with h | ⟨o', h⟩
        · obtain ⟨q, hq, rfl⟩ := List.mem_map.mp (by rw [← hits] at h; exact h)
          rw [hget q hq] at e
          cases e
          exact (N₅ q (List.mem_append_left _ hq)).1
        · have e' := (N₄ _ (List.mem_append_right _ (.tail _ (.tail _ h)))).1
          rw [show h₄.get? b = some o from e] at e'
          cases e'
          exact (N₅ _ (List.mem_append_right _ (.tail _ (.tail _ h)))).1
      refine append_at (hsz := by show ys.toArray.size ≤ sizeLine; rw [List.size_toArray, hyl]; exact Nat.le_trans hi hsz) zD fun h₆ hs₆ hD₆ => ?_
      refine ⟨n + 1 - (i + 1), Nat.sub_lt_sub_left (Nat.lt_succ_of_lt hlt) (Nat.lt_succ_self i), exI5 h₆ tk₅ (i + 1) (ys ++ [v]) _ ⟨rfl, hlt, rfl, by rw [List.length_append, List.length_singleton, hyl], W.frame _ _ _ hst₅ fun b hb o e => hs₆.extBut b o (Nat.ne_of_lt (hfps b hb)) e,
        F₅.change hs₆ (Nat.ne_of_gt hL) (fresh₀ _ (Nat.le_refl _)), (hoC.ns zC).sameBut hs₆ (Nat.ne_of_gt (Nat.lt_succ_self _)), fun q hq => ?_, fun j z hz => ?_⟩⟩
      · rcases List.mem_cons.mp hq with rfl | hq
        · exact ⟨hD₆.trans (congrArg some (LCg.lst_snoc ys v)), Nat.ne_of_gt hL, fresh₀ _ (Nat.le_refl _)⟩
        · have z := N₅ q (List.mem_append_right _ (.tail _ (.tail _ hq)))
          exact ⟨hs₆.extBut _ _ (Nat.ne_of_lt (hnews q hq)) z.1, z.2⟩
      · exact snoc_at hel (hyl.symm ▸ hv) j z hz
    · have hin : i = n := Nat.le_antisymm hi (Nat.not_lt.mp hlt)
      subst hin
      refine W.done _ _ _ hst' fun h₂ tk₂ hk₂ => ?_
      have nwr : ∀ c, (∀ b ∈ ow, c ≠ b) → c ∉ wr := fun c h hm => h c (hwo c hm) rfl
      refine hRR D (D + 1) h₂ tk₂ m' ys hyl hel ⟨F'.ns.at' fun o e => hk₂ _ o (nwr _ fun b hb => Ne.symm (how b hb).1) e, fun c o e => hk₂ c o (nwr _ fun b hb q => by rw [q, (how b hb).2.1] at e; cases e) (F'.keep c o e), F'.above⟩ (fun q hq => ?_) hnews (Nat.lt_succ_self _)
        (hn'.at' fun o e => hk₂ _ o (nwr _ fun b hb => Nat.ne_of_gt (Nat.lt_succ_of_lt (hows b hb))) e) (Nat.ne_of_gt (Nat.lt_succ_of_lt hL)) (Nat.ne_of_gt hL) (fresh₀ _ (Nat.le_succ _))
      have z := N' q hq
      refine ⟨hk₂ _ _ (nwr _ fun b hb => ?_) z.1, z.2⟩
      rcases List.mem_cons.mp hq with rfl | hq
      · exact Nat.ne_of_gt (hows b hb)
      · exact (how b hb).2.2 q hq
  exact codeAny_compStart_list (loop _ rfl) (W.self 0 _ _ _ (W.frame 0 _ _ hst fun b _ o e => old b o e) (loop _ rfl))
end pair_block_z
theorem pair_block {prog : Program} {w : World} {A : Around} {E : Value → Shared → Prop} {h₀ : Heap} {L : Addr} {m : Nm} {env : Env} {elt iter : PySem.Expr} {a b : Str} {pa pb tp : Pos} {kk : Nat} {scope : Scope} {cl : List (Str × Addr)} {pos : Pos} {s₂ : Shared} {I : Addr} {fp wr ow : List Addr} {n : Nat} {Pt : Nat → Array Value → Prop} {St : Nat → Heap → Prop} {Mid : Nat → Addr → Heap → Prop} {news : Led} {RR : Value → Addr → Result → Shared → Prop} (El : Nat → Value → Prop) (hh : A.handled = none) (W : WalksU prog w A I fp wr n Pt St Mid) (hsz : n ≤ sizeLine) (hst : St 0 s₂.heap) (hPt : ∀ i vals, Pt i vals → ∃ x y, vals = #[x, y]) (hwo : ∀ b ∈ wr, b ∈ ow) (hfp : ∀ b ∈ fp, b ∈ ow ∨ ∃ o, (b, o) ∈ news) (hex : ∀ i h, St i h → ∀ b ∈ ow, ∃ o, h.get? b = some o) (how : ∀ b ∈ ow, b ≠ L ∧ h₀.get? b = none ∧ ∀ p ∈ news, p.1 ≠ b) (hcell : ∀ y ∈ scope.names, y.2 ≠ .cell) (hkind : scope.kind = .function) (hxa : scope.names.lookup a = some .local) (hxb : scope.names.lookup b = some .local) (hab : ¬ a = b) (F : Fr h₀ L s₂.heap m) (N : News h₀ L s₂.heap news) (turn : ∀ i x y its oC C D m₂ ys h tk (E' : Value → Shared → Prop), i < n → Pt i #[x, y] → LCg.NsObj oC m₂ → m₂ a = some x → m₂ b = some y → Fr h₀ L h m → News h₀ L h (its ++ (C, oC) :: (D, LCg.lst ys) :: news) → its.map (·.1) = ow → (∀ p ∈ news, p.1 < D) → D < C →
      wpAny (model prog w) A (eval elt (compEnvC scope cl C env)) (PairEnd h₀ L m { s₂ with heap := h, toks := tk } (its ++ (C, oC) :: (D, LCg.lst ys) :: news) (El i)) E' { s₂ with heap := h, toks := tk }) (hRR : ∀ D C h tk m' ys, ys.length = n → (∀ i y, ys[i]? = some y → El i y) → Fr h₀ L h m → News h₀ L h ((D, LCg.lst ys) :: news) → (∀ p ∈ news, p.1 < D) → D < C → h.Ns C m' → C ≠ L → D ≠ L → h₀.get? C = none → RR (.ref D) C (.ok .next) { s₂ with heap := h, toks := tk }) : wpAny (model prog w) A (newList []) (fun acc s₃ => wpAny (model prog w) A (newFunctionEnv scope env.globals cl [] env.qual none .none (some env)) (fun cenv s₄ =>
      codeAny (model prog w) A (.compStart (.ListComp elt [⟨.Tuple [.Name a pa, .Name b pb] kk tp, iter, [], 0⟩] scope pos) 0 (.ref I) acc { cenv with scope := relabel scope env }) (RR acc cenv.locals) s₄) E s₃) E s₂ := by
  exact @clz _ pair_block_z.zP pair_block_z.zne (by with_unfolding_all exact pair_block_z.zmain) (prog, w, A, E, h₀, L, m, env, elt, iter, a, b, pa, pb, tp, kk, scope, cl, pos, s₂, I, fp, wr, ow, n, Pt, St, Mid, news, RR, El) hh W hsz hst hPt hwo hfp hex how hcell hkind hxa hxb hab F N turn hRR
section
variable {prog : Program} {w : World} {A : Around} {E : Value → Shared → Prop} {s : Shared} {h₀ : Heap} {L : Addr} {m : Nm} {env : Env}
noncomputable def FinPE (h₀ : Heap) (L : Addr) (m : Nm) (Q : Value → Shared → Prop) (s : Shared) (D : Addr) (ys : List Value) (news : Led) : Prop := ∀ h tk, Fr h₀ L h m → News h₀ L h ((D, LCg.lst ys) :: news) → Q (.ref D) { s with heap := h, toks := tk }
noncomputable def FinPA (h₀ : Heap) (L : Addr) (m : Nm) (y : Str) (Q : Flow → Shared → Prop) (s : Shared) (D : Addr) (ys : List Value) (news : Led) : Prop := ∀ h tk, Fr h₀ L h (fun z => if z = y then some (.ref D) else m z) → News h₀ L h ((D, LCg.lst ys) :: news) → Q .next { s with heap := h, toks := tk }
noncomputable def SrcP (prog : Program) (w : World) (A : Around) (h₀ : Heap) (L : Addr) (m : Nm) (env : Env) (elt : PySem.Expr) (a b : Str) (scope : Scope) (cl : List (Str × Addr)) (Fin : Shared → Addr → List Value → Led → Prop) (it : Value) (s₂ : Shared) : Prop :=
  ∃ (I : Addr) (fp wr ow : List Addr) (n : Nat) (Pt : Nat → Array Value → Prop) (St : Nat → Heap → Prop) (Mid : Nat → Addr → Heap → Prop) (news : Led) (El : Nat → Value → Prop), it = .ref I ∧ A.handled = none ∧ WalksU prog w A I fp wr n Pt St Mid ∧ n ≤ sizeLine ∧ St 0 s₂.heap ∧ (∀ i vals, Pt i vals → ∃ x y, vals = #[x, y]) ∧
    (∀ b ∈ wr, b ∈ ow) ∧ (∀ b ∈ fp, b ∈ ow ∨ ∃ o, (b, o) ∈ news) ∧ (∀ i h, St i h → ∀ b ∈ ow, ∃ o, h.get? b = some o) ∧ (∀ b ∈ ow, b ≠ L ∧ h₀.get? b = none ∧ ∀ p ∈ news, p.1 ≠ b) ∧ Fr h₀ L s₂.heap m ∧ News h₀ L s₂.heap news ∧
    (∀ i x y its oC C D m₂ ys h tk (E' : Value → Shared → Prop), i < n → Pt i #[x, y] → LCg.NsObj oC m₂ → m₂ a = some x → m₂ b = some y → Fr h₀ L h m → News h₀ L h (its ++ (C, oC) :: (D, LCg.lst ys) :: news) → its.map (·.1) = ow → (∀ p ∈ news, p.1 < D) → D < C →
      wpAny (model prog w) A (eval elt (compEnvC scope cl C env)) (PairEnd h₀ L m { s₂ with heap := h, toks := tk } (its ++ (C, oC) :: (D, LCg.lst ys) :: news) (El i)) E' { s₂ with heap := h, toks := tk }) ∧
    (∀ D ys, ys.length = n → (∀ i y, ys[i]? = some y → El i y) → (∀ p ∈ news, p.1 < D) → Fin s₂ D ys news)
theorem ListComp_T {elt iter : PySem.Expr} {a b : Str} {pa pb tp : Pos} {kk : Nat} {scope : Scope} {cl : List (Str × Addr)} {pos : Pos} {Q : Value → Shared → Prop} (_F₀ : Fr h₀ L s.heap m)
    (hclos : closureFor scope env = pure cl) (hcell : ∀ y ∈ scope.names, y.2 ≠ .cell) (hkind : scope.kind = .function)
    (hnames : ∀ y ∈ scope.names, y.2 = .local → scope.names.lookup y.1 = some .local) (hxa : scope.names.lookup a = some .local) (hxb : scope.names.lookup b = some .local) (hab : ¬ a = b)
    (h : wpAny (model prog w) A (eval iter env) (fun xv s₁ => wpAny (model prog w) A (pyIter xv) (SrcP prog w A h₀ L m env elt a b scope cl (FinPE h₀ L m Q)) E s₁) E s)
    (hs : ∀ x, foldedSetIterable iter env x = pure x := by intro _; rfl) :
    wpAny (model prog w) A (eval (.ListComp elt [⟨.Tuple [.Name a pa, .Name b pb] kk tp, iter, [], 0⟩] scope pos) env) Q E s := by
  rw [eval_ListComp]
  refine wpAny_comprehension_free (use := none) rfl hs hclos hkind hnames (wpAny_mono h (fun xv s₁ h₁ => wpAny_mono h₁ (fun it s₂ h₂ => ?_) fun _ _ e => e) fun _ _ e => e)
  refine exE10 h₂ fun I fp wr ow n Pt St Mid news El h₂ => ?_
  refine anE14 h₂ fun e hh W hsz hst hPt hwo hfp hex how F N turn fin => ?_
  clear h₂
  subst e
  refine pair_block El hh W hsz hst hPt hwo hfp hex how hcell hkind hxa hxb hab F N turn ?_
  intro D C h tk m' ys hl hel F' N' hD hDC hn hCL hDL hC₀
  refine ⟨m', hn, fun h'' hs'' => fin D ys hl hel hD h'' tk (F'.change hs'' hCL hC₀) (fun p hp => ?_)⟩
  refine ⟨hs''.extBut _ _ ?_ (N' p hp).1, (N' p hp).2⟩
  rcases List.mem_cons.mp hp with rfl | hp
  · exact Nat.ne_of_lt hDC
  · exact Nat.ne_of_lt (Nat.lt_trans (hD p hp) hDC)
theorem Assign_ListComp_T {elt iter : PySem.Expr} {a b y : Str} {pa pb tp py : Pos} {kk : Nat} {scope : Scope} {cl : List (Str × Addr)} {pos spos : Pos} {Q : Flow → Shared → Prop} (_F₀ : Fr h₀ L s.heap m) (hLe : env.locals = L)
    (hsw : swapsWith (.ListComp elt [⟨.Tuple [.Name a pa, .Name b pb] kk tp, iter, [], 0⟩] scope pos) (some (.Name y py)) spos.line env = pure true)
    (hclos : closureFor scope env = pure cl) (hcell : ∀ y ∈ scope.names, y.2 ≠ .cell) (hkind : scope.kind = .function)
    (hnames : ∀ y ∈ scope.names, y.2 = .local → scope.names.lookup y.1 = some .local) (hxa : scope.names.lookup a = some .local) (hxb : scope.names.lookup b = some .local) (hab : ¬ a = b)
    (hy : env.kindOf y = some .local) (hp : (env.scope.kind == .class || (env.scope.kind == .module && env.locals != env.globals)) = false)
    (h : wpAny (model prog w) A (eval iter env) (fun xv s₁ => wpAny (model prog w) A (pyIter xv) (SrcP prog w A h₀ L m env elt a b scope cl (FinPA h₀ L m y Q)) E s₁) E s)
    (hs : ∀ x, foldedSetIterable iter env x = pure x := by intro _; rfl) :
    wpAny (model prog w) A (exec (.Assign [.Name y py] (.ListComp elt [⟨.Tuple [.Name a pa, .Name b pb] kk tp, iter, [], 0⟩] scope pos) spos) env) Q E s := by
  subst hLe
  rw [exec_Assign_Name_used _ _ _ _ hsw]
  refine wpAny_bind (wpAny_standAt (wpAny_bind ?_))
  show wpAny _ A (do let _ ← comprehension (.ListComp elt [⟨.Tuple [.Name a pa, .Name b pb] kk tp, iter, [], 0⟩] scope pos) scope env _ (newList []) false (eval iter env) (some (assign (.Name y py) env))) _ _ s
  refine wpAny_bind (wpAny_mono (wpAny_comprehension_free (use := some (assign (.Name y py) env)) (Q := fun _ s' => Q .next s') rfl hs hclos hkind hnames
    (wpAny_mono h (fun xv s₁ h₁ => wpAny_mono h₁ (fun it s₂ h₂ => ?_) fun _ _ e => e) fun _ _ e => e)) (fun _ s' hq => wpAny_pure (wpAny_pure hq)) fun _ _ e => e)
  refine exE10 h₂ fun I fp wr ow n Pt St Mid news El h₂ => ?_
  refine anE14 h₂ fun e hh W hsz hst hPt hwo hfp hex how F N turn fin => ?_
  clear h₂
  subst e
  refine pair_block El hh W hsz hst hPt hwo hfp hex how hcell hkind hxa hxb hab F N turn ?_
  intro D C h tk m' ys hl hel F' N' hD hDC hn hCL hDL hC₀
  show wpAny _ A (assign (.Name y py) env (.ref D)) _ _ _
  refine wpAny_assign_Name (wpAny_storeName_local hy F'.ns (fun h₂ hn₂ hs₂ => ?_) hp)
  have hL₀ : h₀.get? env.locals = none := Heap.get?_none_of_le F'.above
  have F₂ : Fr h₀ env.locals h₂ (fun z => if z = y then some (.ref D) else m z) := ⟨hn₂, fun b o e => hs₂.extBut b o (fun q => by rw [q, hL₀] at e; cases e) (F'.keep b o e), F'.above⟩
  refine ⟨m', hn.sameBut hs₂ hCL, fun h'' hs'' => fin D ys hl hel hD h'' _ (F₂.change hs'' hCL hC₀) (fun p hp => ?_)⟩
  have z : h₂.get? p.1 = some p.2 := hs₂.extBut _ _ (N' p hp).2.1 (N' p hp).1
  refine ⟨hs''.extBut _ _ ?_ z, (N' p hp).2⟩
  rcases List.mem_cons.mp hp with rfl | hp
  · exact Nat.ne_of_lt hDC
  · exact Nat.ne_of_lt (Nat.lt_trans (hD p hp) hDC)
end

theorem its2 {a b : Addr} : ∀ {its : Led}, its.map (·.1) = [a, b] → ∃ o1 o2, its = [(a, o1), (b, o2)]
  | _, h => by
    obtain ⟨⟨_, o1⟩, l1, rfl, h1⟩ := len_cons ((List.length_map ..).symm.trans (congrArg List.length h))
    obtain ⟨⟨_, o2⟩, l2, rfl, h2⟩ := len_cons h1
    rw [len_nil h2] at h ⊢
    simp only [List.map_cons, List.map_nil, List.cons.injEq, and_true] at h
    obtain ⟨rfl, rfl⟩ := h
    exact ⟨o1, o2, rfl⟩
theorem its5 {a b c d e : Addr} : ∀ {its : Led}, its.map (·.1) = [a, b, c, d, e] → ∃ o1 o2 o3 o4 o5, its = [(a, o1), (b, o2), (c, o3), (d, o4), (e, o5)]
  | _, h => by
    obtain ⟨⟨_, o1⟩, ⟨_, o2⟩, ⟨_, o3⟩, ⟨_, o4⟩, ⟨_, o5⟩, rfl⟩ := list5 ((List.length_map ..).symm.trans (congrArg List.length h))
    simp only [List.map_cons, List.map_nil, List.cons.injEq, and_true] at h
    obtain ⟨rfl, rfl, rfl, rfl, rfl⟩ := h
    exact ⟨o1, o2, o3, o4, o5, rfl⟩
section
variable {prog : Program} {w : World} {A : Around} {E : Value → Shared → Prop} {s : Shared} {h₀ : Heap} {L : Addr} {m : Nm} {env : Env}
theorem enum_src {elt : PySem.Expr} {a b : Str} {scope : Scope} {cl : List (Str × Addr)} {Fin : Shared → Addr → List Value → Led → Prop} {l : Addr} {lo : Obj} {vs : List Value} {n : Nat} {news : Led} (El : Nat → Value → Prop)
    (hh : A.handled = none) (F : Fr h₀ L s.heap m) (N : News h₀ L s.heap news) (hm : (l, lo) ∈ news) (hc : lo.cls = .type "list") (hd : lo.data = .seq vs.toArray n) (hsz : vs.length ≤ sizeLine)
    (turn : ∀ (i : Nat) x t I oe oi oC C D m₂ ys h tk (E' : Value → Shared → Prop), vs[i]? = some x → LCg.NsObj oC m₂ → m₂ a = some (.int (i : Int) t) → m₂ b = some x → Fr h₀ L h m → News h₀ L h ((I + 1, oe) :: (I, oi) :: (C, oC) :: (D, LCg.lst ys) :: news) → (∀ p ∈ news, p.1 < D) → D < C →
      wpAny (model prog w) A (eval elt (compEnvC scope cl C env)) (PairEnd h₀ L m { s with heap := h, toks := tk } ((I + 1, oe) :: (I, oi) :: (C, oC) :: (D, LCg.lst ys) :: news) (El i)) E' { s with heap := h, toks := tk })
    (fin : ∀ s₂ D ys, (∃ h, s₂ = { s with heap := h }) → ys.length = vs.length → (∀ i y, ys[i]? = some y → El i y) → (∀ p ∈ news, p.1 < D) → Fin s₂ D ys news) :
    wpAny (model prog w) A (call (.type "enumerate") [.ref l]) (fun xv s₁ => wpAny (model prog w) A (pyIter xv) (SrcP prog w A h₀ L m env elt a b scope cl Fin) E s₁) E s := by
  have hax := N _ hm
  have hl : s.heap.IsList l vs.toArray := ⟨lo, hax.1, hc, n, hd⟩
  have hlt : l < s.heap.objs.size := Heap.lt_size hax.1
  have hLs : L < s.heap.objs.size := F.ns.lt
  refine call_enumerate_list hl fun h' hE hI hs2 hk => wpAny_pyIter_enum hE ?_
  have new : ∀ k : Nat, h₀.get? (s.heap.objs.size + k) = none := fun k => by
    cases e : h₀.get? (s.heap.objs.size + k) with
    | none => rfl
    | some o => exact absurd (Heap.lt_size (F.keep _ o e)) (Nat.not_lt.mpr (Nat.le_add_right _ _))
  refine exI10 _ _ _ [s.heap.objs.size + 1, s.heap.objs.size] _ _ _ _ news El ⟨rfl, hh, (WalksT.enumerate hh (s.heap.objs.size + 1) s.heap.objs.size l (Nat.succ_ne_self _) (Nat.ne_of_lt (Nat.lt_succ_of_lt hlt)) (Nat.ne_of_lt hlt) vs.toArray).toU, by simpa using hsz,
    ⟨⟨.none, hE⟩, hI, hl.at fun o e => hk l o e⟩, ?_, fun b hb => hb, ?_, ?_, ?_, F.keeps hk, N.grown hk, ?_, ?_⟩
  · rintro i vals ⟨t, x, _, rfl⟩
    exact ⟨_, _, rfl⟩
  · exact all3 (.inl (.head _)) (.inl (.tail _ (.head _))) (.inr ⟨lo, hm⟩)
  · rintro i h ⟨⟨old, he⟩, ⟨oi, hoi, _⟩, _⟩ b hb
    rcases List.mem_cons.mp hb with rfl | hb
    · exact ⟨_, he⟩
    · rw [List.mem_singleton.mp hb]; exact ⟨_, hoi⟩
  · exact all2 ⟨Nat.ne_of_gt (Nat.lt_succ_of_lt hLs), new 1, fun p hp => Nat.ne_of_lt (Nat.lt_succ_of_lt (Heap.lt_size (N p hp).1))⟩ ⟨Nat.ne_of_gt hLs, new 0, fun p hp => Nat.ne_of_lt (Heap.lt_size (N p hp).1)⟩
  · intro i x y its oC C D m₂ ys h tk E' hi hP hC h1 h2 F' N' hits hD hDC
    obtain ⟨oe, oi, rfl⟩ := its2 hits
    obtain ⟨t, z, hz, e⟩ := hP
    have e' : [x, y] = [.int (i : Int) t, z] := congrArg Array.toList e
    obtain ⟨rfl, e2⟩ := List.cons.inj e'
    obtain ⟨rfl, _⟩ := List.cons.inj e2
    exact turn i y t _ oe oi oC C D m₂ ys h tk E' (by simpa using hz) hC h1 h2 F' N' hD hDC
  · intro D ys hl' hel hD
    exact fin _ D ys ⟨_, rfl⟩ (by simpa using hl') hel hD
theorem zip_src {elt : PySem.Expr} {a b : Str} {scope : Scope} {cl : List (Str × Addr)} {Fin : Shared → Addr → List Value → Led → Prop} {l1 l2 : Addr} {lo1 lo2 : Obj} {xs ys : List Value} {n1 n2 : Nat} {news : Led} (El : Nat → Value → Prop)
    (hh : A.handled = none) (F : Fr h₀ L s.heap m) (N : News h₀ L s.heap news) (hm1 : (l1, lo1) ∈ news) (hc1 : lo1.cls = .type "list") (hd1 : lo1.data = .seq xs.toArray n1) (hm2 : (l2, lo2) ∈ news) (hc2 : lo2.cls = .type "list") (hd2 : lo2.data = .seq ys.toArray n2) (hsz : xs.length ≤ sizeLine)
    (turn : ∀ i x y I o1 o2 o3 o4 o5 oC C D m₂ zs h tk (E' : Value → Shared → Prop), xs[i]? = some x → ys[i]? = some y → LCg.NsObj oC m₂ → m₂ a = some x → m₂ b = some y → Fr h₀ L h m →
      News h₀ L h ((I + 4, o1) :: (I + 2, o2) :: (I + 3, o3) :: (I, o4) :: (I + 1, o5) :: (C, oC) :: (D, LCg.lst zs) :: news) → (∀ p ∈ news, p.1 < D) → D < C →
      wpAny (model prog w) A (eval elt (compEnvC scope cl C env)) (PairEnd h₀ L m { s with heap := h, toks := tk } ((I + 4, o1) :: (I + 2, o2) :: (I + 3, o3) :: (I, o4) :: (I + 1, o5) :: (C, oC) :: (D, LCg.lst zs) :: news) (El i)) E' { s with heap := h, toks := tk })
    (fin : ∀ s₂ D zs, (∃ h, s₂ = { s with heap := h }) → zs.length = min xs.length ys.length → (∀ i y, zs[i]? = some y → El i y) → (∀ p ∈ news, p.1 < D) → Fin s₂ D zs news) :
    wpAny (model prog w) A (call (.type "zip") [.ref l1, .ref l2]) (fun xv s₁ => wpAny (model prog w) A (pyIter xv) (SrcP prog w A h₀ L m env elt a b scope cl Fin) E s₁) E s := by
  have hax1 := N _ hm1
  have hax2 := N _ hm2
  have hl1 : s.heap.IsList l1 xs.toArray := ⟨lo1, hax1.1, hc1, n1, hd1⟩
  have hl2 : s.heap.IsList l2 ys.toArray := ⟨lo2, hax2.1, hc2, n2, hd2⟩
  have hlt1 : l1 < s.heap.objs.size := Heap.lt_size hax1.1
  have hlt2 : l2 < s.heap.objs.size := Heap.lt_size hax2.1
  have hLs : L < s.heap.objs.size := F.ns.lt
  have D : ZipApart (s.heap.objs.size + 4) (s.heap.objs.size + 2) (s.heap.objs.size + 3) s.heap.objs.size (s.heap.objs.size + 1) l1 l2 := ktu_apart _ _ _ hlt1 hlt2
  refine call_zip_2 hl1 hl2 fun h' hz hTI hTO hi1 hi2 hs5 hk => wpAny_pyIter_zip hz ?_
  have new : ∀ k : Nat, h₀.get? (s.heap.objs.size + k) = none := fun k => by
    cases e : h₀.get? (s.heap.objs.size + k) with
    | none => rfl
    | some o => exact absurd (Heap.lt_size (F.keep _ o e)) (Nat.not_lt.mpr (Nat.le_add_right _ _))
  have big : ∀ {b : Addr} (k : Nat), b < s.heap.objs.size → b < s.heap.objs.size + k := fun k h => Nat.lt_of_lt_of_le h (Nat.le_add_right _ _)
  refine exI10 _ _ _ [s.heap.objs.size + 4, s.heap.objs.size + 2, s.heap.objs.size + 3, s.heap.objs.size, s.heap.objs.size + 1] _ _ _ _ news El ⟨rfl, hh, (WalksT.zip2 hh _ _ _ _ _ _ _ D xs.toArray ys.toArray).toU, ?_,
    ⟨hz, hTI, ⟨_, _, hTO⟩, hi1, hi2, hl1.at fun o e => hk _ o e, hl2.at fun o e => hk _ o e⟩, ?_, ?_, ?_, ?_, ?_, F.keeps hk, N.grown hk, ?_, ?_⟩
  · have : min xs.toArray.size ys.toArray.size ≤ xs.length := by simp only [List.size_toArray]; exact Nat.min_le_left _ _
    exact Nat.le_trans this hsz
  · rintro i vals ⟨x, y, _, _, rfl⟩
    exact ⟨_, _, rfl⟩
  · exact all4 (.head _) (.tail _ (.tail _ (.head _))) (.tail _ (.tail _ (.tail _ (.head _)))) (.tail _ (.tail _ (.tail _ (.tail _ (.head _)))))
  · exact all7 (.inl (.head _)) (.inl (.tail _ (.head _))) (.inl (.tail _ (.tail _ (.head _)))) (.inl (.tail _ (.tail _ (.tail _ (.head _))))) (.inl (.tail _ (.tail _ (.tail _ (.tail _ (.head _)))))) (.inr ⟨lo1, hm1⟩) (.inr ⟨lo2, hm2⟩)
  · rintro i h ⟨hz, hTI, ⟨a, b, hTO⟩, ⟨o1, ho1, _⟩, ⟨o2, ho2, _⟩, _⟩
    exact all5 ⟨_, hz⟩ ⟨_, hTI⟩ ⟨_, hTO⟩ ⟨_, ho1⟩ ⟨_, ho2⟩
  · have one : ∀ k : Nat, s.heap.objs.size + k ≠ L ∧ h₀.get? (s.heap.objs.size + k) = none ∧ ∀ p ∈ news, p.1 ≠ s.heap.objs.size + k := fun k => ⟨Nat.ne_of_gt (big k hLs), new k, fun p hp => Nat.ne_of_lt (big k (Heap.lt_size (N p hp).1))⟩
    exact all5 (one 4) (one 2) (one 3) (one 0) (one 1)
  · intro i x y its oC C D m₂ zs h tk E' hi hP hC h1 h2 F' N' hits hD hDC
    obtain ⟨o1, o2, o3, o4, o5, rfl⟩ := its5 hits
    obtain ⟨x', y', hx, hy, e⟩ := hP
    have e' : [x, y] = [x', y'] := congrArg Array.toList e
    obtain ⟨rfl, e2⟩ := List.cons.inj e'
    obtain ⟨rfl, _⟩ := List.cons.inj e2
    exact turn i x y _ o1 o2 o3 o4 o5 oC C D m₂ zs h tk E' (by simpa using hx) (by simpa using hy) hC h1 h2 F' N' hD hDC
  · intro D zs hl' hel hD
    exact fin _ D zs ⟨_, rfl⟩ (by simpa using hl') hel hD
end

section
variable {prog : Program} {w : World} {A : Around} {E : Value → Shared → Prop} {h : Heap} {g : Array GenState} {d : Drawn} {tk : Nat} {os : OsState} {h₀ : Heap} {L : Addr} {m : Nm} {news : Led}
theorem tail_tmp {s : Shared} {value slice : PySem.Expr} {o i : Value} {T id : String} {ops : List Value} {Q : Value → Shared → Prop} (hT : s.TypeIs o T) (hl : typeLookup (.type T) "__getitem__" = pure (some (.builtin id))) (h : wpAny (model prog w) A (getItem o i) Q E s)
    (hs : subscripted slice false o i = operate ops (getItem o i)) : wpAny (model prog w) A (subscriptTail value slice o i) Q E s := by
  have fin : wpAny (model prog w) A (subscripted slice false o i) (fun r s₃ => wpAny (model prog w) A (letTemporaryGo value o r >>= fun _ => pure r) Q E s₃) E s := by
    rw [hs]
    exact wpAny_operating (wpAny_mono h (fun r s₃ h₃ => wpAny_bind (wpAny_letTemporaryGo (wpAny_pure h₃))) fun _ _ x => x)
  unfold subscriptTail
  refine wpAny_bind ?_
  rw [getitemInPython_of_ne hT.not_modules]
  refine wpAny_bind (wpAny_specialOf hT hl ?_)
  first
    | exact wpAny_pure (wpAny_bind fin)
    | exact wpAny_bind (wpAny_pure (wpAny_bind fin))
    | exact wpAny_bind fin
theorem slice3_K {ops : List Value} {value slice : PySem.Expr} {l : Addr} {items : Array Value} {vl vu vs : Value} {lo hi st : Option Int} {Q : Value → Shared → Prop} (F : Fr h₀ L h m) (N : News h₀ L h news)
    (hl : h.IsList l items) (pl : IsPart vl lo) (pu : IsPart vu hi) (ps : IsPart vs st) (h0 : st ≠ some 0) (hsz : items.size ≤ sizeLine)
    (hq : ∀ D h', Fr h₀ L h' m → News h₀ L h' ((D, ({ cls := .type "list", data := .seq (slicePick items lo hi st) 0 } : Obj)) :: news) → (∀ p ∈ news, p.1 < D) → Q (.ref D) ⟨h', g, d, tk, os⟩)
    (hs : subscripted slice false (.ref l) (.ref h.objs.size) = operate ops (getItem (.ref l) (.ref h.objs.size))) :
    wpAny (model prog w) A (subscriptTail value slice (.ref l) (.ref h.objs.size)) Q E ⟨h.push { cls := .type "slice", data := .fields #[vl, vu, vs] }, g, d, tk, os⟩ := by
  refine tail_tmp (Heap.IsList.typeIs (hl.push _)) list_getitem_lookup (wpAny_getItem_list_slice (hl.push _) (Heap.IsSliceOf.new ..) pl pu ps h0 ?_ hsz) hs
  have up : ∀ b o, h.get? b = some o → ((h.push { cls := .type "slice", data := .fields #[vl, vu, vs] }).push { cls := .type "list", data := .seq (slicePick items lo hi st) }).get? b = some o := fun b o e => Heap.get?_push_of_some _ (Heap.get?_push_of_some _ e)
  have hz : (h.push ({ cls := .type "slice", data := .fields #[vl, vu, vs] } : Obj)).objs.size = h.objs.size + 1 := Heap.size_push ..
  show Q (.ref (h.push _).objs.size) _
  refine hq _ _ (F.keeps up) (fun p hp => ?_) (fun p hp => ?_)
  · rcases List.mem_cons.mp hp with rfl | hp
    · refine ⟨Heap.get?_push_size _ rfl, ?_, ?_⟩
      · show (h.push _).objs.size ≠ L
        rw [hz]; exact Nat.ne_of_gt (Nat.lt_succ_of_lt F.ns.lt)
      · cases e : h₀.get? (h.push ({ cls := .type "slice", data := .fields #[vl, vu, vs] } : Obj)).objs.size with
        | none => rfl
        | some o =>
          have h1 := Heap.lt_size (F.keep _ o e)
          rw [hz] at h1
          exact absurd h1 (Nat.not_lt.mpr (Nat.le_succ _))
    · exact ⟨up _ _ (N p hp).1, (N p hp).2⟩
  · rw [hz]; exact Nat.lt_succ_of_lt (Heap.lt_size (N p hp).1)
end
theorem slice_mem {items : Array Value} {lo hi st : Option Int} {i : Nat} {v : Value} (h : (slicePick items lo hi st)[i]? = some v) : ∃ j : Nat, items[j]? = some v := by
  have hm : v ∈ (slicePick items lo hi st).toList := by
    rw [← Array.getElem?_toList] at h
    exact List.mem_of_getElem? h
  unfold slicePick at hm
  simp only [List.mem_filterMap] at hm
  obtain ⟨j, _, hj⟩ := hm
  exact ⟨_, hj⟩
theorem ints_at {vs : List Value} {ns : List Int} (h : IntsAre vs ns) {j : Nat} {v : Value} (e : vs.toArray[j]? = some v) : ∃ k t, v = .int k t := by
  have e' : vs[j]? = some v := by simpa using e
  induction h generalizing j with
  | nil => simp at e'
  | cons n t _ ih =>
    cases j with
    | zero => exact ⟨n, t, (by simpa using e' : _ = v).symm⟩
    | succ j => exact ih (j := j) (by simpa using e') (by simpa using e')
theorem ints_of {B : Int} : ∀ {ys : List Value}, (∀ (i : Nat) y, ys[i]? = some y → ∃ k t, y = Value.int k t ∧ 0 ≤ k ∧ k < B) → ∃ ks, IntsAre ys ks ∧ 0 ≤ ks.sum ∧ ks.sum ≤ B * ys.length
  | [], _ => ⟨[], .nil, by simp, by simp⟩
  | y :: ys, h => by
    obtain ⟨k, t, rfl, h0, h1⟩ := h 0 y rfl
    obtain ⟨ks, hi, a, b⟩ := ints_of (ys := ys) fun i y hy => h (i + 1) y (by simpa using hy)
    refine ⟨k :: ks, .cons k t hi, ?_, ?_⟩
    · simp only [List.sum_cons]; lia
    · simp only [List.sum_cons, List.length_cons]
      push_cast
      rw [Int.mul_add, Int.mul_one]
      lia

theorem fresh_T_law1 : True := by
  k_with_none
  w_on
  w_top off
  (k_with "1 my news" => (first | assumption | (refine Mine.newsSub (by assumption) ?_; kcj_all) | (refine Mine.newsSub (by assumption) ?_; intro _ hp; repeat (first | exact hp | refine List.Mem.tail _ ?_))))
  (k_with "1 my lit" => ((try (conv in (occs := *) lawSt _ => all_goals whnf)); (try (conv in (occs := *) lawT _ => all_goals whnf)); (try (conv in (occs := *) lawU _ => all_goals whnf)); (try (conv in (occs := *) lawIfT => all_goals whnf)); (try (conv in (occs := *) lawIter => all_goals whnf)); (conv in (occs := *) lawScope => all_goals (whnf; dsimp only))))
  (k_with "1 eval Name" => (k_here; k_dflt (refine' nameX_L ?F ?v ?_ ?a ?b ?c; (case F => k_asm); (case a => rfl); (case b => rfl); (case v => first | exact @rfl (Option Value) (some _) | assumption); (case c => decide); k_whole)))
  (k_with "1 eval Name" => (k_here; (with_reducible show wpAny _ _ (eval (Expr.Name _ _) (envX _ _ _ _ _ (lawCl _ _ _ _ _ _ _ _))) _ _ _); (refine' nameX_L (by k_asm) (by assumption) ?_ ?a ?b ?c; (case a => rfl); (case b => rfl); (case c => decide)); (try dsimp only)))
  trivial
theorem start3 {t0 t1 t2 : Tok} {i : Nat} {x : Value} (h : ([.int 2741 t0, .int 1194 t1, .int 4690 t2] : List Value)[i]? = some x) : i < 3 ∧ ∃ k u, x = .int k u ∧ 0 ≤ k ∧ k < 5000 := by
  exact ⟨PyProof.Rows.place_lt h, at3 (P := fun _ x => ∃ k u, x = Value.int k u ∧ 0 ≤ k ∧ k < 5000) ⟨_, _, rfl, by decide, by decide⟩ ⟨_, _, rfl, by decide, by decide⟩ ⟨_, _, rfl, by decide, by decide⟩ h⟩
theorem ints3 {B : Int} : ∀ {ys : List Value}, ys.length = 3 → (∀ (i : Nat) y, ys[i]? = some y → ∃ k t, y = Value.int k t ∧ 0 ≤ k ∧ k < B) → ∃ c0 t0 c1 t1 c2 t2, ys = [.int c0 t0, .int c1 t1, .int c2 t2] ∧ (0 ≤ c0 ∧ c0 < B) ∧ (0 ≤ c1 ∧ c1 < B) ∧ (0 ≤ c2 ∧ c2 < B)
  | _, hl, h => by
    obtain ⟨y0, y1, y2, rfl⟩ := list3 hl
    obtain ⟨c0, t0, e0, h0⟩ := h 0 y0 rfl
    obtain ⟨c1, t1, e1, h1⟩ := h 1 y1 rfl
    obtain ⟨c2, t2, e2, h2⟩ := h 2 y2 rfl
    exact ⟨c0, t0, c1, t1, c2, t2, by rw [e0, e1, e2], h0, h1, h2⟩
theorem law1 (news : Led) (fr : LF) (l0 : Addr) (vs : List Value) (ns : List Int) (oc os : Obj) (hd : os.data = .cell (some (.ref l0))) (hdc : oc.data = .cell none) (hi : IntsAre vs ns) (hlen : vs.length ≤ 63) (hsc : as ≠ ac) (ap' : ∀ q ∈ news, q.1 ≠ ac) :
    AtLaw [lawSt 0] ((ac, oc) :: (as, os) :: news) fr (fun h₀ L s Q => h₀.IsList l0 vs.toArray ∧ ∀ oc' c c0 c1 c2 n t0 t1 t2 h' tk', (0 ≤ c0 ∧ c0 < 70000000) → (0 ≤ c1 ∧ c1 < 70000000) → (0 ≤ c2 ∧ c2 < 70000000) → (∀ q ∈ (ac, oc) :: (as, os) :: news, q.1 < c) → Fr h₀ L h' (nmOf fr) → News h₀ L h' ((c, listOf #[.int c0 t0, .int c1 t1, .int c2 t2] n) :: (ac, oc') :: (as, os) :: news) → oc'.data = .cell (some (.ref c)) → Q .next { s with heap := h', toks := tk' }) := by
  dsimp only [AtLaw, KH, VW, prg]
  k_fill
  intros; rename_i hret
  walk_at "my lit"
  obtain ⟨hlist, hret⟩ := hret
  refine wpAny_execs_cons (wpAny_Assign_Name (ListComp_T (cl := [("script", as)]) (by assumption) ?c1 ?c2 ?c3 ?c4 ?c5 ?c6 ?c7 ?_ ?hs) (by with_unfolding_all rfl))
  case c1 => with_unfolding_all rfl
  case c2 => decide
  case c3 => rfl
  case c4 => decide
  case c5 => rfl
  case c6 => rfl
  case c7 => decide
  case hs => intro x; with_unfolding_all rfl
  (k_with "call type:enumerate" => refine hold ?_)
  k_steps
  dsimp only [Hold]
  rename News _ _ _ _ => N1
  rename_i l1
  refine enum_src (vs := [.int 2741 _, .int 1194 _, .int 4690 _]) (El := fun _ y => ∃ k t, y = .int k t ∧ 0 ≤ k ∧ k < 70000000) rfl (by k_asm) N1 (.head _) rfl rfl (by rw [sizeLine_eq]; show 3 ≤ 16777216; decide) ?_ ?_
  · intro i x t I oe oi oC C D m₂ ys h tk E' hx hC h1 h2 F' N' hD hDC
    obtain ⟨hi3, st, u, rfl, hst⟩ := start3 hx
    (k_with "eval ListComp" => refine hold ?_)
    (k_with "subscriptTail" => refine hold ?_)
    k_steps
    dsimp only [Hold]
    refine LCg.ListComp_U (cl := []) (by assumption) ?d1 ?d2 ?d3 ?d4 ?d5 ?_ ?ds
    case d1 => with_unfolding_all rfl
    case d2 => decide
    case d3 => rfl
    case d4 => decide
    case d5 => rfl
    case ds => intro x; with_unfolding_all rfl
    k_steps
    rename IntsAre _ (List.take 63 ns) => hI2
    rename List Value => ws'
    rename News _ _ _ _ => N2
    rename_i l2
    have hw : (List.take 63 ns).length ≤ 63 := by rw [List.length_take]; lia
    have hw2 := hI2.length
    refine slice3_K (lo := some (i : Int)) (hi := none) (st := some 3) (by k_asm) N2 ⟨_, (N2 _ (.head _)).1, rfl, _, rfl⟩ (by constructor) (by constructor) (by constructor) (by decide) (by rw [List.size_toArray, sizeLine_eq]; lia) ?_ (by with_unfolding_all rfl)
    intro D2 h9 F3 N3 l3
    clear N2
    refine LCg.CompSrc.ledger rfl (by k_asm) N3 (.head _) (Nat.le_trans (slicePick_size_le _ _ _ _) (by rw [List.size_toArray, sizeLine_eq]; lia)) ?_
    intro g9
    refine cmp_rest (El := fun _ y => ∃ k t, y = .int k t ∧ 0 ≤ k ∧ k < 1000000) ?_ ?_
    · intro i2 v I2 oI2 C2 oC2 DD2 m3 ys2 h5 tk5 E5 hi2 hv hC5 hx5 F5 N5 off ne5
      obtain ⟨j, hj⟩ := slice_mem hv
      obtain ⟨k, tk9, rfl⟩ := ints_at hI2 hj
      k_steps
      refine ⟨_, _, _, rfl, by assumption, by assumption, off, .inr ⟨_, .head _, rfl, _, rfl⟩, rfl, _, _, rfl, ?_, ?_⟩
      · rw [Int.fmod_eq_emod_of_nonneg _ (by decide)]; lia
      · rw [Int.fmod_eq_emod_of_nonneg _ (by decide)]; lia
    · intro ys2 hl2 hel2
      (k_with "call builtin:sum" => refine hold ?_)
      k_steps
      dsimp only [Hold]
      obtain ⟨ks, hks, hk0, hk1⟩ := ints_of hel2
      have hsz2 := slicePick_size_le ws'.toArray (some (i : Int)) none (some 3)
      rw [List.size_toArray] at hsz2
      rename News _ _ _ _ => N4
      refine sumK rfl (by k_asm) N4 ⟨_, (N4 _ (.head _)).1, rfl, _, rfl⟩ hks ?_
      intro h6 tk6 t6 F6 N6
      clear N4
      k_steps
      have hyl : ys2.length ≤ 63 := Nat.le_trans (Nat.le_of_eq hl2) (Nat.le_trans hsz2 (Nat.le_trans (Nat.le_of_eq hw2) hw))
      exact ⟨_, _, rfl, by k_asm, by walk_at "my news", _, _, rfl, by lia, by lia⟩
  · intro s9 D ys hs9 hl hel hD h tk F9 N9
    obtain ⟨g9, rfl⟩ := hs9
    refine exE6 (ints3 hl hel) fun c0 t0 c1 t1 c2 t2 hh9 => ?_
    refine anE4 hh9 fun eys b0 b1 b2 => ?_
    clear hh9
    subst eys
    dsimp only
    refine storeX_C F9 N9 rfl (.tail (Nat.ne_of_gt (hD _ (.tail _ (.head _)))) (.tail (Nat.ne_of_gt l1.1) (.head (ap_cons hsc ap')))) hdc ?_
    intro h8 o8 F8 N8 d8
    exact wpAny_execs_nil (hret _ _ _ _ _ _ _ _ _ _ _ b0 b1 b2 (fun q hq => hD q (.tail _ hq)) F8 (newsSub N8 fun q hq => (List.mem_cons.mp hq).elim (fun e => e ▸ .head _) fun hq => .tail _ (.tail _ hq)) d8)

theorem fresh_T_law2 : True := by
  k_with_none
  w_on
  w_top off
  (k_with "1 my lit" => ((try (conv in (occs := *) lawSt _ => all_goals whnf)); (try (conv in (occs := *) lawT _ => all_goals whnf)); (try (conv in (occs := *) lawU _ => all_goals whnf)); (try (conv in (occs := *) lawIfT => all_goals whnf)); (try (conv in (occs := *) lawIter => all_goals whnf)); (conv in (occs := *) lawScope => all_goals (whnf; dsimp only))))
  (k_with "1 eval Name" => (k_here; k_dflt (refine' nameX_L ?F ?v ?_ ?a ?b ?c; (case F => k_asm); (case a => rfl); (case b => rfl); (case v => first | exact @rfl (Option Value) (some _) | assumption); (case c => decide); k_whole)))
  (k_with "1 eval Name" => (k_here; (with_reducible show wpAny _ _ (eval (Expr.Name _ _) (envX _ _ _ _ _ (lawCl _ _ _ _ _ _ _ _))) _ _ _); (refine' nameX_L (by k_asm) (by assumption) ?_ ?a ?b ?c; (case a => rfl); (case b => rfl); (case c => decide)); (try dsimp only)))
  trivial
noncomputable def wayB (c0 : Int) (i : Nat) : Int := 1 - 2 * ((c0.fdiv (2 ^ i)).fmod 2)
theorem off1_mem {D : Addr} : ∀ {l : Led}, LCg.Off1 D l → ∀ p ∈ l, p.1 ≠ D
  | [], _, _, h => nomatch h
  | _ :: _, h, p, hp => by
    rcases List.mem_cons.mp hp with rfl | hp
    · exact h.1
    · exact off1_mem h.2 p hp
theorem law2 (news : Led) (fr : LF) (c : Addr) (c0 c1 c2 : Int) (t0 t1 t2 : Tok) (n : Nat) (oc ow : Obj) (hd : oc.data = .cell (some (.ref c))) (hdw : ow.data = .cell none) (hb : 0 ≤ c0 ∧ c0 < 70000000) (hne : ac ≠ aw ∧ c ≠ aw) (ap' : ∀ q ∈ news, q.1 ≠ aw) :
    AtLaw [lawSt 1] ((aw, ow) :: (ac, oc) :: (c, listOf #[.int c0 t0, .int c1 t1, .int c2 t2] n) :: news) fr
      (fun h₀ L s Q => ∀ ow' l vs nn h' tk', IntsAre vs ((List.range' 0 8).map (wayB c0)) → (∀ q ∈ (aw, ow) :: (ac, oc) :: (c, listOf #[.int c0 t0, .int c1 t1, .int c2 t2] n) :: news, q.1 ≠ l) → Fr h₀ L h' (nmOf fr) → News h₀ L h' ((l, listOf vs.toArray nn) :: (aw, ow') :: (ac, oc) :: (c, listOf #[.int c0 t0, .int c1 t1, .int c2 t2] n) :: news) → ow'.data = .cell (some (.ref l)) → Q .next { s with heap := h', toks := tk' }) := by
  dsimp only [AtLaw, KH, VW, prg]
  k_fill
  intros; rename_i hret
  walk_at "my lit"
  refine wpAny_execs_cons (wpAny_Assign_Name (LCg.ListComp_U (cl := [("cells", ac)]) (by assumption) ?c1 ?c2 ?c3 ?c4 ?c5 ?_ ?hs) (by with_unfolding_all rfl))
  case c1 => with_unfolding_all rfl
  case c2 => decide
  case c3 => rfl
  case c4 => decide
  case c5 => rfl
  case hs => intro x; with_unfolding_all rfl
  (k_with "CompSrc" => refine hold ?_)
  (k_with "1 binaryOp Pow int int" => (k_here; (try k_fmods); (with_reducible refine pow_int_small ?kb1 ?kb2 ?kb3 ?_); (case kb1 => assumption); (case kb2 => exact Int.le_trans (Int.le_of_lt (by assumption)) (by decide : (0 : Int) + (((8 : Int) - 0).toNat : Int) ≤ 1000000)); (case kb3 => decide)))
  (k_with "1 binaryOp FloorDiv int int" => (k_here; kbt_open; (with_reducible refine floordiv_int ?kbe ?_ (Or.inl (PyProof.noPylong_of_log2 ?kbp))); (case kbe => kbt_ne); (case kbp => exact kbt_py (Int.lt_of_lt_of_le (by assumption) (by decide : (0 : Int) + (((8 : Int) - 0).toNat : Int) ≤ 9000)))))
  k_steps
  rename IntsAre _ _ => hI
  rename News _ _ _ ((_, LCg.lst _) :: _) => N9
  rename _ ∧ _ ∧ _ ∧ LCg.Off1 _ _ => off
  refine storeX_C (by assumption) N9 rfl (.tail (Ne.symm off.1) (.head (ap_cons hne.1 (ap_cons hne.2 ap')))) hdw ?_
  intro h8 o8 F8 N8 d8
  refine wpAny_execs_nil (hret _ _ _ _ _ _ ?_ (ap_cons off.1 (ap_cons off.2.1 (ap_cons off.2.2.1 (off1_mem off.2.2.2)))) F8 N8 d8)
  have e : List.map (fun k' : Int => 1 - 2 * (([c0, c1, c2].getD (Int.toNat 0) 0).fdiv (2 ^ k'.toNat)).fmod 2) (rangeKs 0 (8 - 0 : Int).toNat) = (List.range' 0 8).map (wayB c0) := rfl
  rw [← e]
  exact hI

theorem fresh_T_law3 : True := by
  k_with_none
  w_on
  w_top off
  (k_with "1 my lit" => ((try (conv in (occs := *) lawSt _ => all_goals whnf)); (try (conv in (occs := *) lawT _ => all_goals whnf)); (try (conv in (occs := *) lawU _ => all_goals whnf)); (try (conv in (occs := *) lawIfT => all_goals whnf)); (try (conv in (occs := *) lawIter => all_goals whnf)); (conv in (occs := *) lawScope => all_goals (whnf; dsimp only))))
  (k_with "1 eval Name" => (k_here; k_dflt (refine' nameX_L ?F ?v ?_ ?a ?b ?c; (case F => k_asm); (case a => rfl); (case b => rfl); (case v => first | exact @rfl (Option Value) (some _) | assumption); (case c => decide); k_whole)))
  (k_with "1 eval Name" => (k_here; (with_reducible show wpAny _ _ (eval (Expr.Name _ _) (envX _ _ _ _ _ (lawCl _ _ _ _ _ _ _ _))) _ _ _); (refine' nameX_L (by k_asm) (by assumption) ?_ ?a ?b ?c; (case a => rfl); (case b => rfl); (case c => decide)); (try dsimp only)))
  (k_with "1 binaryOp Div int int" => ((with_reducible show wpAny _ _ (binaryOp _ (Value.int _ _) (Value.int _ _)) _ _ _); refine Mine.div_small rfl (by first | lia | (simp; lia)) (by lia) ?_; (try dsimp only)))
  trivial
theorem law3 (news : Led) (fr : LF) (c : Addr) (c0 c1 c2 : Int) (t0 t1 t2 : Tok) (n : Nat) (oc : Obj) (hd : oc.data = .cell (some (.ref c))) (hb : 0 ≤ c0 ∧ c0 < 100000000 ∧ 0 ≤ c1 ∧ c1 < 100000000) :
    AtLaw [lawSt 2] ((ac, oc) :: (c, listOf #[.int c0 t0, .int c1 t1, .int c2 t2] n) :: news) fr (fun h₀ L s Q => ∀ t h' tk', Fr h₀ L h' (nmOf (("number", .int ((c1 + c0.fdiv 256).fmod 2187) t) :: fr)) → News h₀ L h' ((ac, oc) :: (c, listOf #[.int c0 t0, .int c1 t1, .int c2 t2] n) :: news) → Q .next { s with heap := h', toks := tk' }) := by
  dsimp only [AtLaw, KH, VW, prg]
  k_fill
  intros; rename_i hret
  walk_at "my lit"
  k_steps
  exact hret _ _ _ (frPush (by assumption)) (by assumption)
theorem law4 (news : Led) (fr : LF) (c : Addr) (c0 c1 c2 : Int) (t0 t1 t2 : Tok) (n : Nat) (oc od op : Obj) (hd : oc.data = .cell (some (.ref c))) (hdd : od.data = .cell none) (hdp : op.data = .cell none) (hb : 0 ≤ c2 ∧ c2 < 100000000)
    (hne : ap ≠ ad ∧ ac ≠ ad ∧ c ≠ ad ∧ ac ≠ ap ∧ c ≠ ap) (ap1 : ∀ q ∈ news, q.1 ≠ ad) (ap2 : ∀ q ∈ news, q.1 ≠ ap) :
    AtLaw [lawSt 3] ((ad, od) :: (ap, op) :: (ac, oc) :: (c, listOf #[.int c0 t0, .int c1 t1, .int c2 t2] n) :: news) fr (fun h₀ L s Q => ∀ t u v od' op' h' tk', od'.data = .cell (some (.int ((c2.fdiv 3).fmod 32) u)) → op'.data = .cell (some (.int (1 + (c2.fdiv 96).fmod 32) v)) → Fr h₀ L h' (nmOf (("first", .int (c2.fmod 3) t) :: fr)) →
      News h₀ L h' ((ad, od') :: (ap, op') :: (ac, oc) :: (c, listOf #[.int c0 t0, .int c1 t1, .int c2 t2] n) :: news) → Q .next { s with heap := h', toks := tk' }) := by
  dsimp only [AtLaw, KH, VW, prg]
  k_fill
  intros; rename_i hret
  walk_at "my lit"
  (k_with "storeName" => refine hold ?_)
  k_steps
  dsimp only [Hold]
  rename News _ _ _ ((_, _) :: (ad, _) :: _) => N1
  refine storeX_L (by assumption) (newsSub N1 fun q hq => .tail _ hq) ?_
  intro h1 F1 N2
  clear N1
  k_steps
  dsimp only [Hold]
  refine storeX_C F1 N2 rfl (.head (ap_cons hne.1 (ap_cons hne.2.1 (ap_cons hne.2.2.1 ap1)))) hdd ?_
  intro h3 o3 F3 N3 d3
  k_steps
  dsimp only [Hold]
  refine storeX_C F3 N3 rfl (.tail (Ne.symm hne.1) (.head (ap_cons hne.2.2.2.1 (ap_cons hne.2.2.2.2 ap2)))) hdp ?_
  intro h5 o5 F5 N5 d5
  k_steps
  exact hret _ _ _ _ _ _ _ d3 d5 (frPush F5) N5
theorem law5 (news : Led) (fr : LF) (dk sp : Int) (td ts : Tok) (ol od op : Obj) (hdd : od.data = .cell (some (.int dk td))) (hdp : op.data = .cell (some (.int sp ts))) (hdl : ol.data = .cell none) (hb : 0 ≤ dk ∧ dk < 32 ∧ 1 ≤ sp ∧ sp ≤ 32)
    (hne : ad ≠ al ∧ ap ≠ al) (ap1 : ∀ q ∈ news, q.1 ≠ al) :
    AtLaw [lawSt 4] ((al, ol) :: (ad, od) :: (ap, op) :: news) fr (fun h₀ L s Q => ∀ t ol' h' tk', ol'.data = .cell (some (.float (qf (2 * dk + sp) 128) t)) → Fr h₀ L h' (nmOf fr) →
      News h₀ L h' ((al, ol') :: (ad, od) :: (ap, op) :: news) → Q .next { s with heap := h', toks := tk' }) := by
  dsimp only [AtLaw, KH, VW, prg]
  k_fill
  intros; rename_i hret
  walk_at "my lit"
  (k_with "storeName" => refine hold ?_)
  k_steps
  dsimp only [Hold]
  rename News _ _ _ _ => N1
  refine storeX_C (by assumption) N1 rfl (.head (ap_cons hne.1 (ap_cons hne.2 ap1))) hdl ?_
  intro h3 o3 F3 N3 d3
  k_steps
  exact hret _ _ _ _ d3 F3 N3
noncomputable def lightF (dk sp : Int) : UInt64 := qf (2 * dk + sp) 128
noncomputable def shareF (dk sp : Int) : UInt64 := if fle (lightF dk sp) 4602678819172646912 then qf sp (2 * dk + sp) else qf sp (128 - 2 * dk - sp)
theorem shareF_a {dk sp : Int} {t : Tok} (h : fle (qf (2 * dk + sp) 128) 4602678819172646912 = true) : ∃ t', Value.float (qf sp (2 * dk + sp)) t = .float (shareF dk sp) t' := ⟨t, by unfold shareF lightF; rw [if_pos h]⟩
theorem shareF_b {dk sp : Int} {t : Tok} (h : fle (qf (2 * dk + sp) 128) 4602678819172646912 = false) : ∃ t', Value.float (qf sp (128 - 2 * dk - sp)) t = .float (shareF dk sp) t' := ⟨t, by unfold shareF lightF; rw [if_neg (by rw [h]; decide)]⟩
theorem law6 (news : Led) (fr : LF) (dk sp : Int) (td ts tl : Tok) (oh ol od op : Obj) (hdd : od.data = .cell (some (.int dk td))) (hdp : op.data = .cell (some (.int sp ts))) (hdl : ol.data = .cell (some (.float (qf (2 * dk + sp) 128) tl))) (hdh : oh.data = .cell none) (hb : 0 ≤ dk ∧ dk < 32 ∧ 1 ≤ sp ∧ sp ≤ 32)
    (hne : al ≠ ah ∧ ad ≠ ah ∧ ap ≠ ah) (ap1 : ∀ q ∈ news, q.1 ≠ ah) :
    AtLaw [lawSt 5] ((ah, oh) :: (al, ol) :: (ad, od) :: (ap, op) :: news) fr (fun h₀ L s Q => ∀ t oh' h' tk', oh'.data = .cell (some (.float (shareF dk sp) t)) → Fr h₀ L h' (nmOf fr) →
      News h₀ L h' ((ah, oh') :: (al, ol) :: (ad, od) :: (ap, op) :: news) → Q .next { s with heap := h', toks := tk' }) := by
  dsimp only [AtLaw, KH, VW, prg]
  k_fill
  intros; rename_i hret
  walk_at "my lit"
  (k_with "storeName" => refine hold ?_)
  (k_with "eval IfExp" => refine hold ?_)
  k_steps
  dsimp only [Hold]
  refine join_any (fun t => .float (shareF dk sp) t) (by k_asm) (by k_asm) (IfExp_ ?_) ?_
  · k_steps
    · exact Joined.mk (shareF_a (by assumption)) (by k_asm) (by k_asm)
    · exact Joined.mk (shareF_b (by assumption)) (by k_asm) (by k_asm)
  rename Fr _ _ _ _ => Fo
  rename News _ _ _ _ => No
  intro tj hj tkj Fj Nj
  clear Fo No
  k_steps
  dsimp only [Hold]
  refine storeX_C Fj Nj rfl (.head (ap_cons hne.1 (ap_cons hne.2.1 (ap_cons hne.2.2 ap1)))) hdh ?_
  intro h3 o3 F3 N3 d3
  k_steps
  exact hret _ _ _ _ d3 F3 N3

noncomputable def SrcT (prog : Program) (w : World) (A : Around) (h₀ : Heap) (L : Addr) (m : Nm) (env : Env) (elt : PySem.Expr) (x : Str) (scope : Scope) (cl : List (Str × Addr)) (Fin : Shared → List Value → Led → Prop) (xv : Value) (s₁ : Shared) : Prop :=
  ∃ (T : Addr) (items : Array Value) (news : Led), xv = .ref T ∧ A.handled = none ∧ Fr h₀ L s₁.heap m ∧ News h₀ L s₁.heap news ∧ (T, tupObj items.toList) ∈ news ∧ items.size ≤ sizeLine ∧
    ∀ s₂ : Shared, (∃ h, s₂ = { s₁ with heap := h }) → LCg.CompRest prog w A h₀ L m env elt x scope cl s₂ (fun nw => (T, tupObj items.toList) ∈ nw) (fun i v => items[i]? = some v) (Fin s₂) items.size 0 [] news
section
variable {prog : Program} {w : World} {A : Around} {E : Value → Shared → Prop} {s : Shared} {h₀ : Heap} {L : Addr} {m : Nm} {env : Env}
theorem ListComp_Tup {elt iter : PySem.Expr} {x : Str} {px : Pos} {scope : Scope} {cl : List (Str × Addr)} {pos : Pos} {Q : Value → Shared → Prop} (F₀ : Fr h₀ L s.heap m)
    (hclos : closureFor scope env = pure cl) (hcell : ∀ y ∈ scope.names, y.2 ≠ .cell) (hkind : scope.kind = .function)
    (hnames : ∀ y ∈ scope.names, y.2 = .local → scope.names.lookup y.1 = some .local) (hx : scope.names.lookup x = some .local)
    (h : wpAny (model prog w) A (eval iter env) (SrcT prog w A h₀ L m env elt x scope cl (fun s₂ => LCg.FinE h₀ L m s₂ Q)) E s)
    (hs : ∀ x, foldedSetIterable iter env x = pure x := by intro _; rfl) :
    wpAny (model prog w) A (eval (.ListComp elt [⟨.Name x px, iter, [], 0⟩] scope pos) env) Q E s := by
  rw [eval_ListComp]
  refine wpAny_comprehension_free (use := none) rfl hs hclos hkind hnames (wpAny_mono h (fun xv s₁ h₁ => ?_) fun _ _ e => e)
  refine exE3 h₁ fun T items news hx9 => anE7 hx9 fun ex hh F N hT hsz R => ?_
  clear hx9 h₁
  subst ex
  have tup : ∀ {h : Heap}, h.get? T = some (tupObj items.toList) → h.IsTuple T items := fun e => ⟨_, e, rfl, 0, rfl⟩
  have hlt : T < s₁.heap.objs.size := Heap.lt_size (N _ hT).1
  refine wpAny_pyIter_tuple (tup (N _ hT).1) ?_
  refine LCg.block_U (Walks.tuple hh s₁.heap.objs.size T (Nat.ne_of_lt hlt) items) hsz (fun i h st => let ⟨o, e, _⟩ := st.1; ⟨o, e⟩) (S := fun nw => (T, tupObj items.toList) ∈ nw)
    (fun i h h' o nw st e e' _ N' hS => ⟨st.1.at fun o' e2 => by rw [e] at e2; cases e2; exact e', tup (N' _ hS).1⟩) hcell hkind hx ⟨⟨_, Heap.get?_push_size _ rfl, rfl, rfl⟩, tup (Heap.get?_push_of_some _ (N _ hT).1)⟩ (fun b hb => ?_)
    (F.keeps fun _ _ e => Heap.get?_push_of_some _ e) (N.grown fun _ _ e => Heap.get?_push_of_some _ e) (Nat.ne_of_lt F.ns.lt) (next_is_new F) (fun p hp => Nat.ne_of_lt (Heap.lt_size (N p hp).1)) hT (R _ ⟨_, rfl⟩) ?_
  · show b < (s₁.heap.push _).objs.size
    rw [Heap.size_push]
    rcases List.mem_cons.mp hb with rfl | hb
    · exact Nat.lt_succ_self _
    · rw [List.mem_singleton.mp hb]; exact Nat.lt_succ_of_lt hlt
  · intro D C h tk m' ys news' F' N' o1 hn hC₀ hD₀ hCL hDL hCD offC fin
    refine ⟨m', hn, fun h'' hs'' => fin D h'' tk (F'.change hs'' hCL hC₀) (fun p hp => ?_) o1⟩
    refine ⟨hs''.extBut _ _ ?_ (N' p hp).1, (N' p hp).2⟩
    rcases List.mem_cons.mp hp with rfl | hp
    · exact Ne.symm hCD
    · exact offC p hp
end

section
variable {prog : Program} {w : World} {A : Around} {E : Value → Shared → Prop} {s : Shared} {h₀ : Heap} {L : Addr} {m : Nm} {env : Env}
theorem byiter_st {I : Addr} {b : Array UInt8} {t : Tok} : ∀ i (h h' : Heap) (o : Obj) (nw : Led), KBw.IsBytesIter h I b t i → h.get? I = some o → h'.get? I = some o → (∀ b o, h₀.get? b = some o → h'.get? b = some o) → News h₀ L h' nw → True → KBw.IsBytesIter h' I b t i :=
  fun i h h' o nw st e e' _ _ _ => by obtain ⟨o', q, r⟩ := st; rw [e] at q; cases q; exact ⟨o, e', r⟩
theorem comp_Bytes {elt iter : PySem.Expr} {x : Str} {px : Pos} {scope : Scope} {cl : List (Str × Addr)} {pos : Pos} {Q : Value → Shared → Prop} {b : Array UInt8} {t : Tok} {news : Led} (F : Fr h₀ L s.heap m) (N : News h₀ L s.heap news) (hh : A.handled = none) (hsz : b.size ≤ sizeLine)
    (hclos : closureFor scope env = pure cl) (hcell : ∀ y ∈ scope.names, y.2 ≠ .cell) (hkind : scope.kind = .function)
    (hnames : ∀ y ∈ scope.names, y.2 = .local → scope.names.lookup y.1 = some .local) (hx : scope.names.lookup x = some .local)
    (R : ∀ s₂ : Shared, (∃ h, s₂ = { s with heap := h }) → LCg.CompRest prog w A h₀ L m env elt x scope cl s₂ (fun _ => True) (fun i v => ∃ c u, b[i]? = some c ∧ v = .int (c.toNat : Int) u) (LCg.FinE h₀ L m s₂ Q) b.size 0 [] news)
    (hs : ∀ x, foldedSetIterable iter env x = pure x := by intro _; rfl) :
    wpAny (model prog w) A (comprehension (.ListComp elt [⟨.Name x px, iter, [], 0⟩] scope pos) scope env (firstIterPos [⟨.Name x px, iter, [], 0⟩] pos) (newList []) false (pure (.bytes b t)) none) Q E s := by
  refine wpAny_comprehension_free (use := none) rfl hs hclos hkind hnames (wpAny_pure ?_)
  refine KBw.pyIter_bytes ?_
  refine LCg.block_U (KBw.walks hh s.heap.objs.size b t) hsz (fun i h st => let ⟨o, e, _⟩ := st; ⟨o, e⟩) (S := fun _ => True) byiter_st hcell hkind hx ⟨_, Heap.get?_push_size _ rfl, rfl, rfl⟩ (fun b hb => ?_)
    (F.keeps fun _ _ e => Heap.get?_push_of_some _ e) (N.grown fun _ _ e => Heap.get?_push_of_some _ e) (Nat.ne_of_lt F.ns.lt) (next_is_new F) (fun p hp => Nat.ne_of_lt (Heap.lt_size (N p hp).1)) trivial (R _ ⟨_, rfl⟩) ?_
  · rw [List.mem_singleton.mp hb]
    show s.heap.objs.size < (s.heap.push _).objs.size
    rw [Heap.size_push]; exact Nat.lt_succ_self _
  · intro D C h tk m' ys news' F' N' o1 hn hC₀ hD₀ hCL hDL hCD offC fin
    refine ⟨m', hn, fun h'' hs'' => fin D h'' tk (F'.change hs'' hCL hC₀) (fun p hp => ?_) o1⟩
    refine ⟨hs''.extBut _ _ ?_ (N' p hp).1, (N' p hp).2⟩
    rcases List.mem_cons.mp hp with rfl | hp
    · exact Ne.symm hCD
    · exact offC p hp
end

theorem cmp_restJ {prog : Program} {w : World} {A : Around} {h₀ : Heap} {L : Addr} {m : Nm} {env : Env} {elt : PySem.Expr} {x : Str} {scope : Scope} {cl : List (Str × Addr)} {s : Shared} {S : Led → Prop} {P : Nat → Value → Prop} {Fin : List Value → Led → Prop} {news : Led} {n : Nat} (J : Nat → List Value → Led → Prop) (hJ : J 0 [] news)
    (turn : ∀ i v I oI C oC D m₂ ys nw h tk (E' : Value → Shared → Prop), i < n → P i v → J i ys nw → LCg.NsObj oC m₂ → m₂ x = some v → Fr h₀ L h m → News h₀ L h ((I, oI) :: (C, oC) :: (D, LCg.lst ys) :: nw) → LCg.Off3 I C D nw → ((@Ne Nat I C) ∧ (@Ne Nat I D) ∧ (@Ne Nat C D)) →
      wpAny (model prog w) A (eval elt (compEnvC scope cl C env)) (LCg.CompEnd h₀ L m { s with heap := h, toks := tk } I oI C oC D (LCg.lst ys) S (fun y nw' => J (i + 1) (ys ++ [y]) nw')) E' { s with heap := h, toks := tk })
    (fin : ∀ ys nw, J n ys nw → Fin ys nw) : LCg.CompRest prog w A h₀ L m env elt x scope cl s S P Fin n 0 [] news := by
  have key : ∀ (j i : Nat) (ys : List Value) (nw : Led), i + j = n → J i ys nw → LCg.CompRest prog w A h₀ L m env elt x scope cl s S P Fin j i ys nw := by
    intro j
    induction j with
    | zero =>
      intro i ys nw hi hy
      exact LCg.CompRest.zero (fin ys nw (by rw [← hi]; exact hy))
    | succ j ih =>
      intro i ys nw hi hy
      refine LCg.CompRest.succ ?_
      intro v I oI C oC D m₂ h tk E' hv hC hx F N off ne
      refine wpAny_mono (turn i v I oI C oC D m₂ ys nw h tk E' (by lia) hv hy hC hx F N off ne) (fun y s₂ hq => ?_) fun _ _ e => e
      obtain ⟨h', tk', nw', e, F', N', off', hS, hj⟩ := hq
      exact ⟨h', tk', nw', e, F', N', off', hS, ih (i + 1) _ nw' (by lia) hj⟩
  exact key n 0 [] news (by lia) hJ

section
variable {prog : Program} {w : World} {A : Around} {E : Value → Shared → Prop} {s : Shared} {h₀ : Heap} {L : Addr} {m : Nm} {env : Env}
noncomputable abbrev names5 (t : Str) (a0 a2 a3 a4 : Str) (k0 k2 k3 k4 : NameKind) : List (Str × NameKind) := [(a0, k0), (t, .cell), (a2, k2), (a3, k3), (a4, k4)]
theorem newEnv_cell {t a0 a2 a3 a4 : Str} {k0 k2 k3 k4 : NameKind} {scope : Scope} {globals : Addr} {cl : List (Str × Addr)} {qual : Str} {outer : Env} {Q : Env → Shared → Prop} (hn : scope.names = names5 t a0 a2 a3 a4 k0 k2 k3 k4)
    (e0 : (k0 == NameKind.cell) = false) (e2 : (k2 == NameKind.cell) = false) (e3 : (k3 == NameKind.cell) = false) (e4 : (k4 == NameKind.cell) = false)
    (h : Q { scope, locals := s.heap.objs.size, globals, cells := (t, s.heap.objs.size + 1) :: cl, qual, func := none, code := outer.code, frame := outer.frame, builtins := outer.builtins }
      { s with heap := (s.heap.push { cls := .type "dict", data := .dict #[] }).push { cls := .type "cell", data := .cell none } }) :
    wpAny (model prog w) A (newFunctionEnv scope globals cl [] qual none .none (some outer)) Q E s := by
  delta newFunctionEnv
  rw [hn]
  repeat (first
    | (with_reducible refine wpAny_ite_false (decide_eq_false (ne_true_of_eq_false e0)) ?_) | (with_reducible refine wpAny_ite_false (decide_eq_false (ne_true_of_eq_false e2)) ?_)
    | (with_reducible refine wpAny_ite_false (decide_eq_false (ne_true_of_eq_false e3)) ?_) | (with_reducible refine wpAny_ite_false (decide_eq_false (ne_true_of_eq_false e4)) ?_)
    | rw [List.forIn_cons] | rw [List.forIn_nil] | with_reducible refine wpAny_alloc ?_ | lk)
  rw [Heap.size_push]
  exact h
noncomputable def CellEnd (h₀ : Heap) (L : Addr) (m : Nm) (s : Shared) (own : Led) (D : Addr) (off : Addr → Prop) (J : Value → Led → Prop) (y : Value) (s' : Shared) : Prop :=
  ∃ h' tk' nw', s' = { s with heap := h', toks := tk' } ∧ Fr h₀ L h' m ∧ News h₀ L h' (own ++ nw') ∧ (∀ p ∈ nw', off p.1) ∧ J y nw'
end
namespace ListComp_Cell_z
noncomputable def zS (prog : Program) (w : World) (A : Around) (E : Value → Shared → Prop) (s : Shared) (h₀ : Heap) (L : Addr) (m : Nm) (env : Env) (elt : PySem.Expr) (iter : PySem.Expr) (x : Str) (px : Pos) (scope : Scope) (cl : List (Str × Addr)) (pos : Pos) (Q : Value → Shared → Prop) (a0 : Str) (a2 : Str) (a3 : Str) (a4 : Str) (k0 : NameKind) (k2 : NameKind) (k3 : NameKind) (k4 : NameKind) (n : Nat) (J : Nat → List Value → Led → Prop) : Prop := ∀ (_F₀ : Fr h₀ L s.heap m) (hn : scope.names = names5 x a0 a2 a3 a4 k0 k2 k3 k4) (e0 : (k0 == NameKind.cell) = false) (e2 : (k2 == NameKind.cell) = false) (e3 : (k3 == NameKind.cell) = false) (e4 : (k4 == NameKind.cell) = false) (hclos : closureFor scope env = pure cl) (hkind : scope.kind = .function) (hnames : ∀ y ∈ scope.names, y.2 = .local → scope.names.lookup y.1 = some .local) (hx : (relabel scope env).names.lookup x = some .cell) (h : wpAny (model prog w) A (eval iter env) (fun xv s₁ => ∃ r t u v news, xv = .ref r ∧ A.handled = none ∧ Fr h₀ L s₁.heap m ∧ News h₀ L s₁.heap news ∧ IsRange s₁.heap r 0 (n : Int) 1 t u v ∧ n ≤ 1000 ∧ J 0 [] news ∧
      (∀ i t I oI oC C oc c D ys nw h tk (E' : Value → Shared → Prop), i < n → J i ys nw → oc.data = .cell (some (.int (i : Int) t)) → Fr h₀ L h m → News h₀ L h ((I, oI) :: (C, oC) :: (c, oc) :: (D, LCg.lst ys) :: nw) → (∀ p ∈ nw, p.1 ≠ I ∧ p.1 ≠ C ∧ p.1 ≠ c ∧ p.1 ≠ D) →
        wpAny (model prog w) A (eval elt (compEnvC scope ((x, c) :: cl) C env)) (CellEnd h₀ L m { s₁ with heap := h, toks := tk } [(I, oI), (C, oC), (c, oc), (D, LCg.lst ys)] D (fun a => a ≠ I ∧ a ≠ C ∧ a ≠ c ∧ a ≠ D) (fun y nw' => J (i + 1) (ys ++ [y]) nw')) E' { s₁ with heap := h, toks := tk }) ∧
      (∀ ys nw D h tk, J n ys nw → Fr h₀ L h m → News h₀ L h ((D, LCg.lst ys) :: nw) → (∀ p ∈ nw, p.1 ≠ D) → Q (.ref D) { s₁ with heap := h, toks := tk })) E s) (hs : ∀ x, foldedSetIterable iter env x = pure x), wpAny (model prog w) A (eval (.ListComp elt [⟨.Name x px, iter, [], 0⟩] scope pos) env) Q E s
noncomputable abbrev zT : Type := (Program) × (World) × (Around) × (Value → Shared → Prop) × (Shared) × (Heap) × (Addr) × (Nm) × (Env) × (PySem.Expr) × (PySem.Expr) × (Str) × (Pos) × (Scope) × (List (Str × Addr)) × (Pos) × (Value → Shared → Prop) × (Str) × (Str) × (Str) × (Str) × (NameKind) × (NameKind) × (NameKind) × (NameKind) × (Nat) × (Nat → List Value → Led → Prop)
noncomputable def zP (x : zT) : Prop := zS x.1 x.2.1 x.2.2.1 x.2.2.2.1 x.2.2.2.2.1 x.2.2.2.2.2.1 x.2.2.2.2.2.2.1 x.2.2.2.2.2.2.2.1 x.2.2.2.2.2.2.2.2.1 x.2.2.2.2.2.2.2.2.2.1 x.2.2.2.2.2.2.2.2.2.2.1 x.2.2.2.2.2.2.2.2.2.2.2.1 x.2.2.2.2.2.2.2.2.2.2.2.2.1 x.2.2.2.2.2.2.2.2.2.2.2.2.2.1 x.2.2.2.2.2.2.2.2.2.2.2.2.2.2.1 x.2.2.2.2.2.2.2.2.2.2.2.2.2.2.2.1 x.2.2.2.2.2.2.2.2.2.2.2.2.2.2.2.2.1 x.2.2.2.2.2.2.2.2.2.2.2.2.2.2.2.2.2.1 x.2.2.2.2.2.2.2.2.2.2.2.2.2.2.2.2.2.2.1 x.2.2.2.2.2.2.2.2.2.2.2.2.2.2.2.2.2.2.2.1 x.2.2.2.2.2.2.2.2.2.2.2.2.2.2.2.2.2.2.2.2.1 x.2.2.2.2.2.2.2.2.2.2.2.2.2.2.2.2.2.2.2.2.2.1 x.2.2.2.2.2.2.2.2.2.2.2.2.2.2.2.2.2.2.2.2.2.2.1 x.2.2.2.2.2.2.2.2.2.2.2.2.2.2.2.2.2.2.2.2.2.2.2.1 x.2.2.2.2.2.2.2.2.2.2.2.2.2.2.2.2.2.2.2.2.2.2.2.2.1 x.2.2.2.2.2.2.2.2.2.2.2.2.2.2.2.2.2.2.2.2.2.2.2.2.2.1 x.2.2.2.2.2.2.2.2.2.2.2.2.2.2.2.2.2.2.2.2.2.2.2.2.2.2
theorem zne : Nonempty zT := ⟨(default, dW, {}, fun _ _ => True, {}, default, (0 : Nat), fun _ => none, default, default, default, ⟨#[]⟩, default, default, [], default, fun _ _ => True, ⟨#[]⟩, ⟨#[]⟩, ⟨#[]⟩, ⟨#[]⟩, .local, .local, .local, .local, 0, fun _ _ _ => True)⟩
noncomputable def zc : zT := @Classical.epsilon _ zne fun x => ¬ zP x
@[irreducible] noncomputable def prog : Program := zc.1
@[irreducible] noncomputable def w : World := zc.2.1
@[irreducible] noncomputable def A : Around := zc.2.2.1
@[irreducible] noncomputable def E : Value → Shared → Prop := zc.2.2.2.1
@[irreducible] noncomputable def s : Shared := zc.2.2.2.2.1
@[irreducible] noncomputable def h₀ : Heap := zc.2.2.2.2.2.1
@[irreducible] noncomputable def L : Addr := zc.2.2.2.2.2.2.1
@[irreducible] noncomputable def m : Nm := zc.2.2.2.2.2.2.2.1
@[irreducible] noncomputable def env : Env := zc.2.2.2.2.2.2.2.2.1
@[irreducible] noncomputable def elt : PySem.Expr := zc.2.2.2.2.2.2.2.2.2.1
@[irreducible] noncomputable def iter : PySem.Expr := zc.2.2.2.2.2.2.2.2.2.2.1
@[irreducible] noncomputable def x : Str := zc.2.2.2.2.2.2.2.2.2.2.2.1
@[irreducible] noncomputable def px : Pos := zc.2.2.2.2.2.2.2.2.2.2.2.2.1
@[irreducible] noncomputable def scope : Scope := zc.2.2.2.2.2.2.2.2.2.2.2.2.2.1
@[irreducible] noncomputable def cl : List (Str × Addr) := zc.2.2.2.2.2.2.2.2.2.2.2.2.2.2.1
@[irreducible] noncomputable def pos : Pos := zc.2.2.2.2.2.2.2.2.2.2.2.2.2.2.2.1
@[irreducible] noncomputable def Q : Value → Shared → Prop := zc.2.2.2.2.2.2.2.2.2.2.2.2.2.2.2.2.1
@[irreducible] noncomputable def a0 : Str := zc.2.2.2.2.2.2.2.2.2.2.2.2.2.2.2.2.2.1
@[irreducible] noncomputable def a2 : Str := zc.2.2.2.2.2.2.2.2.2.2.2.2.2.2.2.2.2.2.1
@[irreducible] noncomputable def a3 : Str := zc.2.2.2.2.2.2.2.2.2.2.2.2.2.2.2.2.2.2.2.1
@[irreducible] noncomputable def a4 : Str := zc.2.2.2.2.2.2.2.2.2.2.2.2.2.2.2.2.2.2.2.2.1
@[irreducible] noncomputable def k0 : NameKind := zc.2.2.2.2.2.2.2.2.2.2.2.2.2.2.2.2.2.2.2.2.2.1
@[irreducible] noncomputable def k2 : NameKind := zc.2.2.2.2.2.2.2.2.2.2.2.2.2.2.2.2.2.2.2.2.2.2.1
@[irreducible] noncomputable def k3 : NameKind := zc.2.2.2.2.2.2.2.2.2.2.2.2.2.2.2.2.2.2.2.2.2.2.2.1
@[irreducible] noncomputable def k4 : NameKind := zc.2.2.2.2.2.2.2.2.2.2.2.2.2.2.2.2.2.2.2.2.2.2.2.2.1
@[irreducible] noncomputable def n : Nat := zc.2.2.2.2.2.2.2.2.2.2.2.2.2.2.2.2.2.2.2.2.2.2.2.2.2.1
@[irreducible] noncomputable def J : Nat → List Value → Led → Prop := zc.2.2.2.2.2.2.2.2.2.2.2.2.2.2.2.2.2.2.2.2.2.2.2.2.2.2
theorem zmain : zS prog w A E s h₀ L m env elt iter x px scope cl pos Q a0 a2 a3 a4 k0 k2 k3 k4 n J := by
  unfold zS
  intro _F₀ hn e0 e2 e3 e4 hclos hkind hnames hx h hs
  rw [eval_ListComp]
  refine wpAny_comprehension_free (use := none) rfl hs hclos hkind hnames (wpAny_mono h (fun xv s₁ h₁ => ?_) fun _ _ e => e)
  refine exE5 h₁ fun r t₀ u₀ v₀ news h₁ => ?_
  refine anE9 h₁ fun e hh F N hR hn1 hJ turn fin => ?_
  clear h₁
  subst e
  refine wpAny_pyIter_range hR (small0 hn1) ?_
  rw [size0]
  refine wpAny_newObj_type (newEnv_cell hn e0 e2 e3 e4 ?_)
  generalize hI : s₁.heap.objs.size = I at *
  have hLI : L < I := hI ▸ F.ns.lt
  have lt : ∀ {b o}, s₁.heap.get? b = some o → b < I := fun e => hI ▸ Heap.lt_size e
  have hnews : ∀ p ∈ news, p.1 < I := fun p hp => lt (N p hp).1
  generalize hH1 : s₁.heap.push ({ cls := .type "range_iterator", data := .fields #[rawInt 0, rawInt (n : Int), rawInt 1] } : Obj) = H1 at *
  have z1 : H1.objs.size = I + 1 := by rw [← hH1, Heap.size_push, hI]
  dsimp only
  generalize hH2 : H1.push ({ cls := .type "list", data := .seq ([] : List Value).toArray } : Obj) = H2 at *
  have z2 : H2.objs.size = I + 1 + 1 := by rw [← hH2, Heap.size_push, z1]
  have hD : H1.objs.size = I + 1 := z1
  rw [hD, z2]
  generalize hB : (H2.push ({ cls := .type "dict", data := .dict #[] } : Obj)).push ({ cls := .type "cell", data := .cell none } : Obj) = B at *
  have z3 : (H2.push ({ cls := .type "dict", data := .dict #[] } : Obj)).objs.size = I + 1 + 1 + 1 := by rw [Heap.size_push, z2]
  have oldB : ∀ b o, s₁.heap.get? b = some o → B.get? b = some o := fun b o e => by
    rw [← hB, ← hH2, ← hH1]
    exact Heap.get?_push_of_some _ (Heap.get?_push_of_some _ (Heap.get?_push_of_some _ (Heap.get?_push_of_some _ e)))
  have gI : IsRangeIter B I ((0 : Nat) : Int) ((n : Int) - ((0 : Nat) : Int)) 1 := by
    show B.get? I = some _
    rw [← hB, ← hH2, ← hH1, ← hI]
    rw [Heap.get?_push_of_some _ (Heap.get?_push_of_some _ (Heap.get?_push_of_some _ (Heap.get?_push_size _ rfl)))]
    simp [rawInt]
  have gD : B.get? (I + 1) = some (LCg.lst []) := by
    rw [← hB, ← hH2, ← z1]
    exact Heap.get?_push_of_some _ (Heap.get?_push_of_some _ (Heap.get?_push_size _ rfl))
  have gC : B.Ns (I + 1 + 1) (fun _ => none) := by
    rw [← hB, ← z2]
    exact (Heap.Ns.new H2 (.type "dict")).push _
  have gc : B.IsCell (I + 1 + 1 + 1) none := ⟨_, by rw [← hB, ← z3]; exact Heap.get?_push_size _ rfl, rfl⟩
  have fresh₀ : ∀ a, I ≤ a → h₀.get? a = none := fun a ha => by
    cases e : h₀.get? a with
    | none => rfl
    | some o' => exact absurd (lt (F.keep a o' e)) (Nat.not_lt.mpr ha)
  have f0 := fresh₀ I (Nat.le_refl _)
  have f1 := fresh₀ (I + 1) (Nat.le_add_right _ 1)
  have f2 := fresh₀ (I + 1 + 1) (Nat.le_add_right _ 2)
  have f3 := fresh₀ (I + 1 + 1 + 1) (Nat.le_add_right _ 3)
  have l0 : I ≠ L := Nat.ne_of_gt hLI
  have l1 : I + 1 ≠ L := Nat.ne_of_gt (Nat.lt_succ_of_lt hLI)
  have l2 : I + 1 + 1 ≠ L := Nat.ne_of_gt (Nat.lt_succ_of_lt (Nat.lt_succ_of_lt hLI))
  have l3 : I + 1 + 1 + 1 ≠ L := Nat.ne_of_gt (Nat.lt_succ_of_lt (Nat.lt_succ_of_lt (Nat.lt_succ_of_lt hLI)))
  have n01 : I ≠ I + 1 := Nat.ne_of_lt (Nat.lt_succ_self _)
  have n02 : I ≠ I + 1 + 1 := Nat.ne_of_lt (Nat.lt_add_of_pos_right (by decide : 0 < 2))
  have n03 : I ≠ I + 1 + 1 + 1 := Nat.ne_of_lt (Nat.lt_add_of_pos_right (by decide : 0 < 3))
  have n12 : I + 1 ≠ I + 1 + 1 := Nat.ne_of_lt (Nat.lt_succ_self _)
  have n13 : I + 1 ≠ I + 1 + 1 + 1 := Nat.ne_of_lt (Nat.lt_add_of_pos_right (by decide : 0 < 2))
  have n23 : I + 1 + 1 ≠ I + 1 + 1 + 1 := Nat.ne_of_lt (Nat.lt_succ_self _)
  have lD : ∀ {p : Addr × Obj}, p ∈ news → p.1 ≠ I ∧ p.1 ≠ I + 1 + 1 ∧ p.1 ≠ I + 1 + 1 + 1 ∧ p.1 ≠ I + 1 := fun hp => have := hnews _ hp
    ⟨Nat.ne_of_lt this, Nat.ne_of_lt (Nat.lt_add_right 2 this), Nat.ne_of_lt (Nat.lt_add_right 3 this), Nat.ne_of_lt (Nat.lt_succ_of_lt this)⟩
  clear hnews hD z1 z2 z3 hB hH1 hH2 fresh₀ lt hLI hI hR
  generalize I + 1 = D at *
  generalize D + 1 = C at *
  generalize C + 1 = c at *
  revert I B D C c
  refine nb ?_
  set_option tactic.hygienic false in intros
  have hx' : Env.kindOf (compEnvC scope ((x, c) :: cl) C env) x = some .cell := hx
  have loop : codeAny (model prog w) A (.compLoop (.ListComp elt [⟨.Name x px, iter, [], 0⟩] scope pos) 0 (.ref I) (.ref (D)) (compEnvC scope ((x, c) :: cl) (C) env)) (compPost (model prog w) A E none Q (.ref (D)) (C)) { s₁ with heap := B } := by
    refine kcp_loop (fun k s' => ∃ (h' : Heap) (tk i : Nat) (ys : List Value) (m' : Nm) (nw : Led), s' = { s₁ with heap := h', toks := tk } ∧ i ≤ n ∧ k = n + 1 - i ∧ ys.length = i ∧ IsRangeIter h' I (i : Int) ((n : Int) - (i : Int)) 1 ∧ Fr h₀ L h' m ∧ h'.Ns (C) m' ∧ (∃ v, h'.IsCell (c) v) ∧ News h₀ L h' ((D, LCg.lst ys) :: nw) ∧
        (∀ p ∈ nw, p.1 ≠ I ∧ p.1 ≠ C ∧ p.1 ≠ c ∧ p.1 ≠ D) ∧ J i ys nw) ?_ (n + 1)
      (exI6 B _ 0 [] _ news ⟨rfl, Nat.zero_le _, rfl, rfl, gI, F.keeps oldB, gC, ⟨_, gc⟩, fun p hp => ?_, fun p hp => ?_, hJ⟩)
    rotate_left
    · rcases List.mem_cons.mp hp with rfl | hp
      · exact ⟨gD, l1, f1⟩
      · exact ⟨oldB _ _ (N p hp).1, (N p hp).2⟩
    · exact lD hp
    clear gI gD gC gc hJ lD oldB
    intro k s' hK
    refine exE6 hK fun h' tk i ys m' nw hK => ?_
    refine anE11 hK fun e1 hi e2 hyl hit F' hn' hcv N' off hJ' => ?_
    clear hK
    subst e1 e2
    refine Exists.elim hcv fun cv hcell => ?_
    clear hcv
    by_cases hlt : i < n
    · refine wpAny_pyNext_range_item hit (Int.sub_pos_of_lt (Int.ofNat_lt.mpr hlt)) fun h₂ hit₂ hs₂ => ?_
      refine wpAny_of_eq (a := ()) (by with_unfolding_all rfl) ?_
      refine wpAny_assign_Name (wpAny_storeName_cell (by simp [compEnvC, relabel, hkind]) hx' (by simp [compEnvC]) (v₀ := cv) (let ⟨o, e, r⟩ := hcell; ⟨o, hs₂.extBut _ _ (Ne.symm n03) e, r⟩) fun h₃ hc₃ hs₃ => ?_)
      have up : ∀ b o, b ≠ I → b ≠ c → h'.get? b = some o → h₃.get? b = some o := fun b o b1 b2 e => hs₃.extBut b o b2 (hs₂.extBut b o b1 e)
      obtain ⟨oc, hoc, hod⟩ := hc₃
      obtain ⟨oI, heI, hoI⟩ : ∃ oI : Obj, h₃.get? I = some oI ∧ ∀ h : Heap, h.get? I = some oI → IsRangeIter h I ((i : Int) + 1) ((n : Int) - (i : Int) - 1) 1 := ⟨_, hs₃.extBut _ _ n03 hit₂, fun _ e => e⟩
      obtain ⟨oC, heC, hoC⟩ := LCg.ns_obj (hn'.at' fun o e => up _ o (Ne.symm n02) n23 e)
      have F₃ : Fr h₀ L h₃ m := ⟨F'.ns.at' fun o e => up _ o (Ne.symm l0) (Ne.symm l3) e, fun b o e => up b o (fun q => by rw [q, f0] at e; cases e) (fun q => by rw [q, f3] at e; cases e) (F'.keep b o e), F'.above⟩
      have N₃ : News h₀ L h₃ ((I, oI) :: (C, oC) :: (c, oc) :: (D, LCg.lst ys) :: nw) := fun q hq => by
        rcases List.mem_cons.mp hq with rfl | hq
        · exact ⟨heI, l0, f0⟩
        · rcases List.mem_cons.mp hq with rfl | hq
          · exact ⟨heC, l2, f2⟩
          · rcases List.mem_cons.mp hq with rfl | hq
            · exact ⟨hoc, l3, f3⟩
            · have z := N' q hq
              refine ⟨up _ _ ?_ ?_ z.1, z.2⟩
              · rcases List.mem_cons.mp hq with rfl | hq
                · exact Ne.symm n01
                · exact (off q hq).1
              · rcases List.mem_cons.mp hq with rfl | hq
                · exact n13
                · exact (off q hq).2.2.1
      refine wpAny_mono (turn i _ I oI oC (C) oc (c) (D) ys nw h₃ _ _ hlt hJ' hod F₃ N₃ off) (fun v s₅ h₅ => ?_) fun _ _ e => e
      refine exE3 h₅ fun h₅ tk₅ nw₅ hh₅ => ?_
      refine anE5 hh₅ fun e F₅ N₅ off₅ hJ₅ => ?_
      clear hh₅
      subst e
      have zI := (N₅ (I, oI) (.head _)).1
      have zC := (N₅ (C, oC) (.tail _ (.head _))).1
      have zc := (N₅ (c, oc) (.tail _ (.tail _ (.head _)))).1
      have zD := (N₅ (D, LCg.lst ys) (.tail _ (.tail _ (.tail _ (.head _))))).1
      refine append_at (hsz := by show ys.toArray.size ≤ sizeLine; rw [List.size_toArray, hyl, sizeLine_eq]; exact Nat.le_trans hi (Nat.le_trans hn1 (by decide))) zD fun h₆ hs₆ hD₆ => ?_
      refine ⟨n + 1 - (i + 1), Nat.sub_lt_sub_left (Nat.lt_succ_of_lt hlt) (Nat.lt_succ_self i), exI6 h₆ tk₅ (i + 1) (ys ++ [v]) _ nw₅ ⟨rfl, hlt, rfl, by rw [List.length_append, List.length_singleton, hyl], ?_, F₅.change hs₆ l1 f1, (hoC.ns zC).sameBut hs₆ (Ne.symm n12),
        ⟨_, oc, hs₆.extBut _ _ (Ne.symm n13) zc, hod⟩, fun q hq => ?_, off₅, hJ₅⟩⟩
      · have e := hoI h₆ (hs₆.extBut _ _ n01 zI)
        have e1 : ((i + 1 : Nat) : Int) = (i : Int) + 1 := by push_cast; rfl
        have e2 : (n : Int) - ((i + 1 : Nat) : Int) = (n : Int) - (i : Int) - 1 := by push_cast; exact (Int.sub_sub _ _ _).symm
        rw [e1, e2] at *
        exact e
      · rcases List.mem_cons.mp hq with rfl | hq
        · exact ⟨hD₆.trans (congrArg some (LCg.lst_snoc ys v)), l1, f1⟩
        · have z := N₅ q (.tail _ (.tail _ (.tail _ (.tail _ hq))))
          exact ⟨hs₆.extBut _ _ (off₅ q hq).2.2.2 z.1, z.2⟩
    · have hin : i = n := Nat.le_antisymm hi (Nat.not_lt.mp hlt)
      subst hin
      refine wpAny_pyNext_range_end hh hit (Int.le_of_eq (Int.sub_self _)) fun h₂ hk₂ => ?_
      have F₂ : Fr h₀ L h₂ m := ⟨F'.ns.at' fun o e => hk₂ _ o (Ne.symm l0) e, fun b o e => hk₂ b o (fun q => by rw [q, f0] at e; cases e) (F'.keep b o e), F'.above⟩
      refine ⟨m', hn'.at' fun o e => hk₂ _ o (Ne.symm n02) e, fun h'' hs'' => fin ys nw (D) h'' tk hJ' (F₂.change hs'' l2 f2) (fun q hq => ?_) fun p hp => (off p hp).2.2.2⟩
      have z := N' q hq
      refine ⟨hs''.extBut _ _ ?_ (hk₂ _ _ ?_ z.1), z.2⟩
      · rcases List.mem_cons.mp hq with rfl | hq
        · exact n12
        · exact (off q hq).2.1
      · rcases List.mem_cons.mp hq with rfl | hq
        · exact Ne.symm n01
        · exact (off q hq).1
  exact codeAny_compStart_list loop (wpAny_pyIter_rangeiter gI loop)
end ListComp_Cell_z
theorem ListComp_Cell {prog : Program} {w : World} {A : Around} {E : Value → Shared → Prop} {s : Shared} {h₀ : Heap} {L : Addr} {m : Nm} {env : Env} {elt iter : PySem.Expr} {x : Str} {px : Pos} {scope : Scope} {cl : List (Str × Addr)} {pos : Pos} {Q : Value → Shared → Prop} {a0 a2 a3 a4 : Str} {k0 k2 k3 k4 : NameKind} {n : Nat} (J : Nat → List Value → Led → Prop) (_F₀ : Fr h₀ L s.heap m) (hn : scope.names = names5 x a0 a2 a3 a4 k0 k2 k3 k4) (e0 : (k0 == NameKind.cell) = false) (e2 : (k2 == NameKind.cell) = false) (e3 : (k3 == NameKind.cell) = false) (e4 : (k4 == NameKind.cell) = false) (hclos : closureFor scope env = pure cl) (hkind : scope.kind = .function) (hnames : ∀ y ∈ scope.names, y.2 = .local → scope.names.lookup y.1 = some .local) (hx : (relabel scope env).names.lookup x = some .cell) (h : wpAny (model prog w) A (eval iter env) (fun xv s₁ => ∃ r t u v news, xv = .ref r ∧ A.handled = none ∧ Fr h₀ L s₁.heap m ∧ News h₀ L s₁.heap news ∧ IsRange s₁.heap r 0 (n : Int) 1 t u v ∧ n ≤ 1000 ∧ J 0 [] news ∧
      (∀ i t I oI oC C oc c D ys nw h tk (E' : Value → Shared → Prop), i < n → J i ys nw → oc.data = .cell (some (.int (i : Int) t)) → Fr h₀ L h m → News h₀ L h ((I, oI) :: (C, oC) :: (c, oc) :: (D, LCg.lst ys) :: nw) → (∀ p ∈ nw, p.1 ≠ I ∧ p.1 ≠ C ∧ p.1 ≠ c ∧ p.1 ≠ D) →
        wpAny (model prog w) A (eval elt (compEnvC scope ((x, c) :: cl) C env)) (CellEnd h₀ L m { s₁ with heap := h, toks := tk } [(I, oI), (C, oC), (c, oc), (D, LCg.lst ys)] D (fun a => a ≠ I ∧ a ≠ C ∧ a ≠ c ∧ a ≠ D) (fun y nw' => J (i + 1) (ys ++ [y]) nw')) E' { s₁ with heap := h, toks := tk }) ∧
      (∀ ys nw D h tk, J n ys nw → Fr h₀ L h m → News h₀ L h ((D, LCg.lst ys) :: nw) → (∀ p ∈ nw, p.1 ≠ D) → Q (.ref D) { s₁ with heap := h, toks := tk })) E s) (hs : ∀ x, foldedSetIterable iter env x = pure x := by intro _; rfl) : wpAny (model prog w) A (eval (.ListComp elt [⟨.Name x px, iter, [], 0⟩] scope pos) env) Q E s := by
  exact @clz _ ListComp_Cell_z.zP ListComp_Cell_z.zne (by with_unfolding_all exact ListComp_Cell_z.zmain) (prog, w, A, E, s, h₀, L, m, env, elt, iter, x, px, scope, cl, pos, Q, a0, a2, a3, a4, k0, k2, k3, k4, n, J) _F₀ hn e0 e2 e3 e4 hclos hkind hnames hx h hs
section
variable {prog : Program} {w : World} {A : Around} {E : Value → Shared → Prop} {s : Shared} {h₀ : Heap} {L : Addr} {m : Nm} {env : Env}
end

theorem fresh_T_law7 : True := by
  k_with_none
  w_on
  w_top off
  (k_with "1 my lit" => ((try (conv in (occs := *) lawSt _ => all_goals whnf)); (try (conv in (occs := *) lawT _ => all_goals whnf)); (try (conv in (occs := *) lawU _ => all_goals whnf)); (try (conv in (occs := *) lawIfT => all_goals whnf)); (try (conv in (occs := *) lawIter => all_goals whnf)); (conv in (occs := *) lawScope => all_goals (whnf; dsimp only))))
  (k_with "1 cd" => (dsimp only [Mine.Calls, Mine.Ret, Mine.RetNew, Mine.KH, Mine.VW, Mine.prg] at hC))
  (k_with "1 cc" => ((case k1 => k_asm); (case k2 => k_asm); (case k3 => k_asm); (case k4 => k_asm); (case k5 => k_asm); (case kK => first | exact rfl | assumption); (case kd => ktr_room); (case ku => ktr_units)))
  (k_with "1 eval Name" => (k_here; k_dflt (refine' nameX_L ?F ?v ?_ ?a ?b ?c; (case F => k_asm); (case a => rfl); (case b => rfl); (case v => first | exact @rfl (Option Value) (some _) | assumption); (case c => decide); k_whole)))
  (k_with "1 eval Name" => (k_here; (with_reducible show wpAny _ _ (eval (Expr.Name _ _) (envX _ _ _ _ _ (lawCl _ _ _ _ _ _ _ _))) _ _ _); (refine' nameX_L (by k_asm) (by assumption) ?_ ?a ?b ?c; (case a => rfl); (case b => rfl); (case c => decide)); (try dsimp only)))
  (k_with "1 binaryOp Div int int" => ((with_reducible show wpAny _ _ (binaryOp _ (Value.int _ _) (Value.int _ _)) _ _ _); refine Mine.div_small rfl (by first | lia | (simp; lia)) (by lia) ?_; (try dsimp only)))
  (k_with "1 binaryOp Mult int float" => ((with_reducible show wpAny _ _ (binaryOp _ (Value.int _ _) (Value.float _ _)) _ _ _); refine Mine.mul_if_small (by lia) ?_; (try dsimp only)))
  (k_with "1 call ref" => ((with_reducible show wpAny _ _ (call (Value.ref 65) _) _ _ _); (have hC := @Mine.hls_call); (walk_at "cd"); refine' hC _ _ _ _ _ _ _ _ _ _ _ ?ok _ _ _ _ _ _ _ _ _ _ _ _ _ _ _ _ _ ?k1 ?k2 ?k3 ?k4 ?k5 ?kK ?kd ?ku ?_; (case ok => first | assumption | fail "hls: a grey");walk_at "cc"; clear hC; intro T9 o9 h9 tk9 F9 N9 l9 O9; obtain ⟨t91, t92, t93, O9⟩ := O9; subst O9; (try simp only [AllLt, and_true] at l9); (try dsimp only); (try k_fold)))
  trivial
noncomputable def pcomp (dk sp third : Int) (j : Nat) : UInt64 :=
  vF (hlsM1 (lightF dk sp) (shareF dk sp)) (hlsM2 (lightF dk sp) (shareF dk sp)) (if j = 0 then Float64.add (qf third 3) 4599676419421066581 else if j = 1 then qf third 3 else Float64.sub (qf third 3) 4599676419421066581)
noncomputable def paintP (x : UInt64) : UInt64 := Float64.add (Float64.mul (Float64.ofInt 64) x) 4602678819172646912
noncomputable def paintI (dk sp third : Int) (j : Nat) : Int := if (j : Int) = third then dk + sp else dk
noncomputable def PaintOk (dk sp : Int) : Prop := feq (shareF dk sp) 0 = false ∧ ∀ (third j : Nat), third < 3 → j < 3 → FiW (paintP (pcomp dk sp third j)) ∧ fint (paintP (pcomp dk sp third j)) = paintI dk sp third j
noncomputable def PaintJ (dk sp : Int) (news : Led) (i : Nat) (ys : List Value) (nw : Led) : Prop :=
  ∃ ps : List Addr, ps.length = i ∧ ys = refs ps ∧ (∀ j, j < i → (∃ u0 u1 u2 n, (ps.getD j 0, listOf #[.int (paintI dk sp j 0) u0, .int (paintI dk sp j 1) u1, .int (paintI dk sp j 2) u2] n) ∈ nw) ∧ ∀ q ∈ news, q.1 ≠ ps.getD j 0) ∧ ∀ q ∈ news, q ∈ nw
theorem PaintJ.sub {dk sp : Int} {news nw : Led} {i : Nat} {ys : List Value} (h : PaintJ dk sp news i ys nw) : ∀ q ∈ news, q ∈ nw := Exists.elim h fun _ h => h.2.2.2
theorem PaintJ.step {dk sp : Int} {news nw : Led} {i n : Nat} {ys : List Value} {D : Addr} {u0 u1 u2 : Tok} (h : PaintJ dk sp news i ys nw) (hD : ∀ q ∈ nw, q.1 ≠ D) : PaintJ dk sp news (i + 1) (ys ++ [.ref D]) ((D, listOf #[.int (paintI dk sp i 0) u0, .int (paintI dk sp i 1) u1, .int (paintI dk sp i 2) u2] n) :: nw) := by
  obtain ⟨ps, hl, rfl, hp, hs⟩ := h
  refine ⟨ps ++ [D], by simp [hl], by rw [refs_app]; rfl, fun j hj => ?_, fun q hq => .tail _ (hs q hq)⟩
  rcases Nat.lt_or_ge j i with h | h
  · have e : (ps ++ [D]).getD j 0 = ps.getD j 0 := by rw [List.getD_eq_getElem?_getD, List.getD_eq_getElem?_getD, List.getElem?_append_left (by lia)]
    rw [e]
    obtain ⟨⟨a, b, c, d, h1⟩, h2⟩ := hp j h
    exact ⟨⟨a, b, c, d, .tail _ h1⟩, h2⟩
  · obtain rfl : j = i := by lia
    have e : (ps ++ [D]).getD j 0 = D := by rw [List.getD_eq_getElem?_getD, List.getElem?_append_right (by lia), hl, Nat.sub_self]; rfl
    rw [e]
    exact ⟨⟨_, _, _, _, .head _⟩, fun q hq => hD q (hs q hq)⟩
theorem pcomp_at {dk sp third : Int} {t0 t1 t2 : Tok} {j : Nat} {v : Value} (h : (#[.float (vF (hlsM1 (lightF dk sp) (shareF dk sp)) (hlsM2 (lightF dk sp) (shareF dk sp)) (Float64.add (qf third 3) 4599676419421066581)) t0, .float (vF (hlsM1 (lightF dk sp) (shareF dk sp)) (hlsM2 (lightF dk sp) (shareF dk sp)) (qf third 3)) t1,
    .float (vF (hlsM1 (lightF dk sp) (shareF dk sp)) (hlsM2 (lightF dk sp) (shareF dk sp)) (Float64.sub (qf third 3) 4599676419421066581)) t2] : Array Value)[j]? = some v) : j < 3 ∧ ∃ t, v = .float (pcomp dk sp third j) t := by
  have h' := List.getElem?_toArray.symm.trans h
  exact ⟨PyProof.Rows.place_lt h', at3 (P := fun j v => ∃ t, v = Value.float (pcomp dk sp third j) t) ⟨_, rfl⟩ ⟨_, rfl⟩ ⟨_, rfl⟩ h'⟩
theorem paints3 {f : Nat → Int} : ∀ {ys : List Value}, ys.length = 3 → (∀ (i : Nat) y, ys[i]? = some y → ∃ t, y = Value.int (f i) t) → ∃ t0 t1 t2, ys = [.int (f 0) t0, .int (f 1) t1, .int (f 2) t2]
  | _, hl, h => by
    obtain ⟨y0, y1, y2, rfl⟩ := list3 hl
    obtain ⟨t0, e0⟩ := h 0 y0 rfl
    obtain ⟨t1, e1⟩ := h 1 y1 rfl
    obtain ⟨t2, e2⟩ := h 2 y2 rfl
    exact ⟨t0, t1, t2, by rw [e0, e1, e2]⟩
theorem law7 (news : Led) (fr : LF) (dk sp : Int) (th tl : Tok) (oh ol : Obj) (hdl : ol.data = .cell (some (.float (qf (2 * dk + sp) 128) tl))) (hdh : oh.data = .cell (some (.float (shareF dk sp) th))) (ok : PaintOk dk sp) :
    AtLaw [lawSt 6] ((ah, oh) :: (al, ol) :: news) fr (fun h₀ L s Q => ∀ pa ys nw h' tk', PaintJ dk sp ((ah, oh) :: (al, ol) :: news) 3 ys nw → (∀ q ∈ nw, q.1 ≠ pa) → Fr h₀ L h' (nmOf (("paints", .ref pa) :: fr)) → News h₀ L h' ((pa, LCg.lst ys) :: nw) → Q .next { s with heap := h', toks := tk' }) := by
  dsimp only [AtLaw, KH, VW, prg]
  k_fill
  intros; rename_i hret
  walk_at "my lit"
  refine' wpAny_execs_cons (LCg.Assign_ListComp_U (by assumption) rfl (by with_unfolding_all rfl) ?c1 ?c2 ?c3 ?c4 ?c5 (by with_unfolding_all rfl) (by rfl) ?_ ?hs)
  case c1 => with_unfolding_all rfl
  case c2 => decide
  case c3 => rfl
  case c4 => decide
  case c5 => rfl
  case hs => intro x; with_unfolding_all rfl
  (k_with "call type:range" => refine hold ?_)
  k_steps
  dsimp only [Hold]
  rename News _ _ _ _ => N0
  refine range1_rows (by k_asm) N0 ?_
  intro h5 tk5 tt1 tt2 tt3 hR F5 N5 k5
  clear N0
  refine LCg.CompSrc.range rfl F5 N5 hR (by decide) (n := 3) (by decide) (by rw [sizeLine_eq]; decide) ?_
  intro g1
  refine cmp_restJ (PaintJ dk sp ((ah, oh) :: (al, ol) :: news)) ⟨[], rfl, rfl, fun _ h => absurd h (Nat.not_lt_zero _), fun _ h => h⟩ ?_ ?_
  · intro i v I oI C oC D m₂ ys nw h tk E' hi hv hJ hC hx F N off ne
    obtain ⟨tv, rfl⟩ := hv
    have hJ' := hJ
    have hsub := PaintJ.sub hJ'
    refine' ListComp_Tup (by assumption) ?d1 ?d2 ?d3 ?d4 ?d5 ?_ ?ds
    case d1 => with_unfolding_all rfl
    case d2 => decide
    case d3 => rfl
    case d4 => decide
    case d5 => rfl
    case ds => intro x; with_unfolding_all rfl
    have h0 := ok.1
    have hPP : ∀ j, j < 3 → FiW (paintP (pcomp dk sp (0 + (i : Int)) j)) ∧ fint (paintP (pcomp dk sp (0 + (i : Int)) j)) = paintI dk sp i j := fun j hj => by
      rw [Int.zero_add]
      exact ok.2 i j hi hj
    have hm1 := hsub _ (.head _)
    have hm2 := hsub _ (.tail _ (.head _))
    k_steps
    rename News _ _ _ ((_, tupObj _) :: _) => N7
    rename _ < _ => l7
    refine ⟨_, #[_, _, _], _, rfl, rfl, by k_asm, N7, .head _, by rw [sizeLine_eq]; show 3 ≤ 16777216; decide, fun s₂ hs₂ => ?_⟩
    obtain ⟨g2, rfl⟩ := hs₂
    refine cmp_rest (El := fun j y => ∃ t, y = .int (paintI dk sp i j) t) ?_ ?_
    · intro j v I2 oI2 C2 oC2 DD2 m3 ys2 h5 tk5 E5 hi2 hv2 hC5 hx5 F5 N5' off5 ne5
      obtain ⟨hj3, t9, rfl⟩ := pcomp_at (dk := dk) (sp := sp) (third := 0 + (i : Int)) hv2
      have hP := hPP j hj3
      (k_with "call type:int" => k_dflt (refine int_float hP ?_; (try dsimp only)))
      k_steps
      exact ⟨_, _, _, rfl, by assumption, by assumption, off5, .head _, rfl, _, rfl⟩
    · intro ys2 hl2 hel2
      k_steps
      refine exE3 (paints3 hl2 hel2) fun u0 u1 u2 hh9 => ?_
      subst hh9
      rename _ ∧ _ ∧ _ ∧ _ ∧ LCg.Off1 _ _ => o7
      rename News _ _ _ ((_, LCg.lst [_, _, _]) :: _) => N8
      exact ⟨_, _, (_, LCg.lst [_, _, _]) :: nw, rfl, by assumption, newsSub N8 fun q hq => by
          rcases List.mem_cons.mp hq with rfl | hq
          · exact .tail _ (.tail _ (.head _))
          · rcases List.mem_cons.mp hq with rfl | hq
            · exact .tail _ (.tail _ (.tail _ (.head _)))
            · rcases List.mem_cons.mp hq with rfl | hq
              · exact .tail _ (.tail _ (.tail _ (.tail _ (.head _))))
              · rcases List.mem_cons.mp hq with rfl | hq
                · exact .head _
                · exact .tail _ (.tail _ (.tail _ (.tail _ (.tail _ hq)))), ⟨⟨o7.2.1.symm, o7.2.2.1.symm, o7.2.2.2.1.symm⟩, off⟩, trivial, PaintJ.step hJ (off1_mem o7.2.2.2.2)⟩
  · intro ys nw hJ D h tk F N off
    exact wpAny_execs_nil (hret _ _ _ _ _ hJ (off1_mem off) (frPush F) N)

noncomputable def rowD (f : Nat → Int) : PyData := .list [.int (f 0), .int (f 1), .int (f 2)]
noncomputable def rowsD (f : Nat → Nat → Int) : PyData := .list [rowD (f 0), rowD (f 1), rowD (f 2)]
theorem rowD_reads {h : Heap} {a : Addr} {f : Nat → Int} {t0 t1 t2 : Tok} {n : Nat} (e : h.get? a = some (listOf #[.int (f 0) t0, .int (f 1) t1, .int (f 2) t2] n)) : Reads h (.ref a) (rowD f) [a] :=
  Reads.list e rfl rfl (show ReadsAll h [.int (f 0) t0, .int (f 1) t1, .int (f 2) t2] [.int (f 0), .int (f 1), .int (f 2)] [] from .cons (Reads.int _ _) (.cons (Reads.int _ _) (.cons (Reads.int _ _) .nil)))
theorem rowsD_reads {h : Heap} {a p0 p1 p2 : Addr} {f : Nat → Nat → Int} {n : Nat} (e : h.get? a = some (listOf #[.ref p0, .ref p1, .ref p2] n)) (r0 : Reads h (.ref p0) (rowD (f 0)) [p0]) (r1 : Reads h (.ref p1) (rowD (f 1)) [p1]) (r2 : Reads h (.ref p2) (rowD (f 2)) [p2]) :
    ∃ as, Reads h (.ref a) (rowsD f) as :=
  ⟨_, Reads.list e rfl rfl (show ReadsAll h [.ref p0, .ref p1, .ref p2] [rowD (f 0), rowD (f 1), rowD (f 2)] _ from .cons r0 (.cons r1 (.cons r2 .nil)))⟩
theorem rowsD_shaped (f : Nat → Nat → Int) : SeqAt.shaped (rowsD f) = true := by
  simp [SeqAt.shaped, rowsD, rowD, PyData.canLay0, PyData.canLayAll0, PyData.depth, PyData.depthAll]
theorem rowsD_mix (f : Nat → Nat → Int) : SeqAt.noMix (rowsD f) (rowsD f) = true := by
  simp [rowsD, rowD, SeqAt.noMix, SeqAt.noMixAll]
theorem rowsD_same (f : Nat → Nat → Int) : PySem.Spec.same (rowsD f) (rowsD f) = true := by
  simp [rowsD, rowD, PySem.Spec.same, PySem.Spec.sameAll]
theorem ne_rows {prog : Program} {w : World} {A : Around} {E : Value → Shared → Prop} {s : Shared} {a b : Value} {f : Nat → Nat → Int} {Q : Value → Shared → Prop} (ra : ∃ as, Reads s.heap a (rowsD f) as) (rb : ∃ as, Reads s.heap b (rowsD f) as) (hu : A.units + 64 < cLine)
    (h : Q (.bool false) s) : wpAny (model prog w) A (compareOp .NotEq a b) Q E s := by
  obtain ⟨as, ra⟩ := ra
  obtain ⟨bs, rb⟩ := rb
  refine ne_dataH_same ra rb (rowsD_shaped f) (rowsD_shaped f) hu (rowsD_mix f) ?_
  rw [rowsD_same]
  exact h
theorem PaintJ.reads {dk sp : Int} {news nw : Led} {ys : List Value} {h : Heap} {D : Addr} (hJ : PaintJ dk sp news 3 ys nw) (e : h.get? D = some (LCg.lst ys)) (hn : ∀ q ∈ nw, h.get? q.1 = some q.2) : ∃ as, Reads h (.ref D) (rowsD fun i j => paintI dk sp i j) as := by
  obtain ⟨ps, hl, rfl, hp, -⟩ := hJ
  obtain ⟨q0, q1, q2, rfl⟩ := list3 hl
  obtain ⟨⟨_, _, _, _, m0⟩, _⟩ := hp 0 (by decide)
  obtain ⟨⟨_, _, _, _, m1⟩, _⟩ := hp 1 (by decide)
  obtain ⟨⟨_, _, _, _, m2⟩, _⟩ := hp 2 (by decide)
  exact rowsD_reads e (rowD_reads (f := fun j => paintI dk sp ((0 : Nat) : Int) j) (hn _ m0)) (rowD_reads (f := fun j => paintI dk sp ((1 : Nat) : Int) j) (hn _ m1)) (rowD_reads (f := fun j => paintI dk sp ((2 : Nat) : Int) j) (hn _ m2))

theorem fresh_T_law8 : True := by
  k_with_none
  w_on
  w_top off
  (k_with "1 my lit" => ((try (conv in (occs := *) lawSt _ => all_goals whnf)); (try (conv in (occs := *) lawT _ => all_goals whnf)); (try (conv in (occs := *) lawU _ => all_goals whnf)); (try (conv in (occs := *) lawIfT => all_goals whnf)); (try (conv in (occs := *) lawIter => all_goals whnf)); (conv in (occs := *) lawScope => all_goals (whnf; dsimp only))))
  (k_with "1 eval Name" => (k_here; k_dflt (refine' nameX_L ?F ?v ?_ ?a ?b ?c; (case F => k_asm); (case a => rfl); (case b => rfl); (case v => first | exact @rfl (Option Value) (some _) | assumption); (case c => decide); k_whole)))
  (k_with "1 eval Name" => (k_here; (with_reducible show wpAny _ _ (eval (Expr.Name _ _) (envX _ _ _ _ _ (lawCl _ _ _ _ _ _ _ _))) _ _ _); (refine' nameX_L (by k_asm) (by assumption) ?_ ?a ?b ?c; (case a => rfl); (case b => rfl); (case c => decide)); (try dsimp only)))
  trivial
theorem paintI_eq {dk sp : Int} {i j : Nat} (h : (0 : Int) + (j : Int) = (i : Int)) : dk + sp = paintI dk sp i j := by
  unfold paintI; rw [if_pos (by lia)]
theorem paintI_ne {dk sp : Int} {i j : Nat} (h : (0 : Int) + (j : Int) ≠ (i : Int)) : dk = paintI dk sp i j := by
  unfold paintI; rw [if_neg (by lia)]
theorem law8 (news0 news : Led) (fr : LF) (dk sp : Int) (td ts : Tok) (od op : Obj) (hdd : od.data = .cell (some (.int dk td))) (hdp : op.data = .cell (some (.int sp ts))) (hb : 0 ≤ dk ∧ dk < 32 ∧ 1 ≤ sp ∧ sp ≤ 32)
    (pa : Addr) (ys0 : List Value) (hP0 : PaintJ dk sp news0 3 ys0 news) (hfr : nmOf fr "paints" = some (.ref pa)) :
    AtLaw [lawSt 7] ((ad, od) :: (ap, op) :: (pa, LCg.lst ys0) :: news) fr
      (fun h₀ L s Q => ∀ h' tk', Fr h₀ L h' (nmOf fr) → News h₀ L h' ((ad, od) :: (ap, op) :: (pa, LCg.lst ys0) :: news) → Q .next { s with heap := h', toks := tk' }) := by
  dsimp only [AtLaw, KH, VW, prg]
  k_fill
  intros; rename_i hret
  walk_at "my lit"
  (k_with "eval ListComp" => refine hold ?_)
  (k_with "call type:range" => refine hold ?_)
  k_steps
  dsimp only [Hold]
  refine' ListComp_Cell (PaintJ dk sp ((ad, od) :: (ap, op) :: (pa, LCg.lst ys0) :: news)) (n := 3) (by assumption) ?g1 ?g2 ?g3 ?g4 ?g5 ?g6 ?g7 ?g8 ?g9 ?_ ?hs
  case g1 => rfl
  case g2 => rfl
  case g3 => rfl
  case g4 => rfl
  case g5 => rfl
  case g6 => with_unfolding_all rfl
  case g7 => rfl
  case g8 => decide
  case g9 => rfl
  case hs => intro x; with_unfolding_all rfl
  k_steps
  dsimp only [Hold]
  rename News _ _ _ _ => N0
  refine range1_rows (by k_asm) N0 ?_
  intro h5 tk5 tt1 tt2 tt3 hR F5 N5 k5
  clear N0
  refine ⟨_, _, _, _, _, rfl, trivial, F5, N5, hR, by decide, ⟨[], rfl, rfl, fun _ h => absurd h (Nat.not_lt_zero _), fun _ h => h⟩, ?_, ?_⟩
  · intro i t I oI oC C oc c D ys nw h tk E' hi hJ hoc F N off
    have hJ' := hJ
    have hsub := PaintJ.sub hJ'
    have hm1 := hsub _ (.head _)
    have hm2 := hsub _ (.tail _ (.head _))
    clear hsub
    refine' LCg.ListComp_U (by assumption) ?d1 ?d2 ?d3 ?d4 ?d5 ?_ ?ds
    case d1 => with_unfolding_all rfl
    case d2 => decide
    case d3 => rfl
    case d4 => decide
    case d5 => rfl
    case ds => intro x; with_unfolding_all rfl
    k_steps
    dsimp only [Hold]
    rename News _ _ _ _ => N0
    refine range1_rows (by k_asm) N0 ?_
    intro h6 tk6 tt4 tt5 tt6 hR6 F6 N6 k6
    clear N0
    refine LCg.CompSrc.range rfl F6 N6 hR6 (by decide) (n := 3) (by decide) (by rw [sizeLine_eq]; decide) ?_
    intro g9
    refine cmp_rest (El := fun j y => ∃ t, y = .int (paintI dk sp i j) t) ?_ ?_
    · intro j v I2 oI2 C2 oC2 DD2 m3 ys2 h5 tk5 E5 hi2 hv2 hC5 hx5 F5 N5' off5 ne5
      obtain ⟨t9, rfl⟩ := hv2
      k_steps
      · exact ⟨_, _, _, rfl, by assumption, by assumption, off5, trivial, rfl, _, congrArg (Value.int · _) (paintI_eq (by assumption))⟩
      · exact ⟨_, _, _, rfl, by assumption, by assumption, off5, trivial, rfl, _, congrArg (Value.int · _) (paintI_ne (by assumption))⟩
    · intro ys2 hl2 hel2
      k_steps
      rename News _ _ _ ((_, LCg.lst ys2) :: _) => N8
      rename _ ∧ _ ∧ _ ∧ _ ∧ LCg.Off1 _ _ => o7
      refine exE3 (paints3 hl2 hel2) fun u0 u1 u2 hh9 => ?_
      subst hh9
      have o8 := off1_mem o7.2.2.2.2
      have J8 := PaintJ.step (u0 := u0) (u1 := u1) (u2 := u2) (n := 3) hJ o8
      refine ⟨_, _, _, rfl, by assumption, newsSub N8 fun q hq => ?_, ?_, J8⟩
      · rcases List.mem_cons.mp hq with rfl | hq
        · exact .tail _ (.head _)
        · rcases List.mem_cons.mp hq with rfl | hq
          · exact .tail _ (.tail _ (.head _))
          · rcases List.mem_cons.mp hq with rfl | hq
            · exact .tail _ (.tail _ (.tail _ (.head _)))
            · rcases List.mem_cons.mp hq with rfl | hq
              · exact .tail _ (.tail _ (.tail _ (.tail _ (.head _))))
              · rcases List.mem_cons.mp hq with rfl | hq
                · exact List.mem_cons.mpr (.inl rfl)
                · exact .tail _ (.tail _ (.tail _ (.tail _ (.tail _ hq))))
      · intro p hp
        rcases List.mem_cons.mp hp with rfl | hp
        · exact ⟨o7.1.symm, o7.2.1.symm, o7.2.2.1.symm, o7.2.2.2.1.symm⟩
        · exact off p hp
  · intro ys nw D h tk hJ F N off
    have hJ' := hJ
    have hsub := PaintJ.sub hJ'
    refine ne_rows (f := fun i j => paintI dk sp i j) (PaintJ.reads hP0 (N _ (.tail _ (hsub _ (.tail _ (.tail _ (.head _)))))).1 fun q hq => (N q (.tail _ (hsub q (.tail _ (.tail _ (.tail _ hq)))))).1) (PaintJ.reads hJ (N _ (.head _)).1 fun q hq => (N q (.tail _ hq)).1) (by units_room) ?_
    k_steps
    exact hret _ _ F (newsSub N fun q hq => .tail _ (hsub q hq))

theorem fresh_T_law9 : True := by
  k_with_none
  w_on
  w_top off
  (k_with "1 my lit" => ((try (conv in (occs := *) lawSt _ => all_goals whnf)); (try (conv in (occs := *) lawT _ => all_goals whnf)); (try (conv in (occs := *) lawU _ => all_goals whnf)); (try (conv in (occs := *) lawIfT => all_goals whnf)); (try (conv in (occs := *) lawIter => all_goals whnf)); (conv in (occs := *) lawScope => all_goals (whnf; dsimp only))))
  trivial
theorem law9 (news : Led) (fr : LF) :
    AtLaw [lawSt 8] news fr
      (fun h₀ L s Q => ∀ lb t0 t1 t2 t3 h' tk', Fr h₀ L h' (nmOf (("labels", .ref lb) :: fr)) → News h₀ L h' ((lb, listOf #[.bytes #[34, 40, 92, 34, 34] t0, .bytes #[] t1, .bytes #[34, 41, 34] t2, .bytes #[34, 92, 92, 34] t3] 0) :: news) → (∀ q ∈ news, q.1 ≠ lb) → Q .next { s with heap := h', toks := tk' }) := by
  dsimp only [AtLaw, KH, VW, prg]
  k_fill
  intros; rename_i hret
  walk_at "my lit"
  (k_with "storeName" => refine hold ?_)
  k_steps
  dsimp only [Hold]
  rename_i l1
  refine storeX_L (by assumption) (by assumption) ?_
  intro h3 F3 N3
  exact wpAny_execs_nil (hret _ _ _ _ _ _ _ (frPush F3) N3 fun q hq => Nat.ne_of_lt (l1 q hq))

theorem fresh_T_law10 : True := by
  k_with_none
  w_on
  w_top off
  (k_with "1 my lit" => ((try (conv in (occs := *) lawSt _ => all_goals whnf)); (try (conv in (occs := *) lawT _ => all_goals whnf)); (try (conv in (occs := *) lawU _ => all_goals whnf)); (try (conv in (occs := *) lawIfT => all_goals whnf)); (try (conv in (occs := *) lawIter => all_goals whnf)); (conv in (occs := *) lawScope => all_goals (whnf; dsimp only))))
  (k_with "1 cd" => (dsimp only [Mine.Calls, Mine.Ret, Mine.RetNew, Mine.KH, Mine.VW, Mine.prg] at hC))
  (k_with "1 cc" => ((case k1 => k_asm); (case k2 => k_asm); (case k3 => k_asm); (case k4 => k_asm); (case k5 => k_asm); (case kK => first | exact rfl | assumption); (case kd => ktr_room); (case ku => ktr_units)))
  (k_with "1 eval Name" => (k_here; k_dflt (refine' nameX_L ?F ?v ?_ ?a ?b ?c; (case F => k_asm); (case a => rfl); (case b => rfl); (case v => first | exact @rfl (Option Value) (some _) | assumption); (case c => decide); k_whole)))
  (k_with "1 eval Name" => (k_here; (with_reducible show wpAny _ _ (eval (Expr.Name _ _) (envX _ _ _ _ _ (lawCl _ _ _ _ _ _ _ _))) _ _ _); (refine' nameX_L (by k_asm) (by assumption) ?_ ?a ?b ?c; (case a => rfl); (case b => rfl); (case c => decide)); (try dsimp only)))
  trivial
theorem frPush2 {h₀ h : Heap} {L : Addr} {a b : Str} {v u : Value} {fr : LF} (F : Fr h₀ L h (fun y => if y = b then some u else if y = a then some v else nmOf fr y)) : Fr h₀ L h (nmOf ((b, u) :: (a, v) :: fr)) :=
  frPush (fr := (a, v) :: fr) (frame_as F fun z => by
    show (if z = b then some u else List.lookup z ((a, v) :: fr)) = if z = b then some u else if z = a then some v else List.lookup z fr
    by_cases e : z = a
    · subst e; simp
    · have : (z == a) = false := by simpa using e
      rw [if_neg e]
      show (if z = b then some u else (match z == a with | true => some v | false => List.lookup z fr)) = _
      rw [this])
theorem law10 (news : Led) (fr : LF) (l : Addr) (vs : List Value) (nn : Nat) (ws : List Int) (k f : Int) (t tf : Tok) (ow : Obj) (hdw : ow.data = .cell (some (.ref l)))
    (hi : IntsAre vs ws) (hl : ws.length = 8) (hw : ∀ x ∈ ws, x = 1 ∨ x = -1) (h0 : 0 ≤ k) (h1 : k < 6561) (h2 : -100 < f) (h3 : f < 100) (hk : nmOf fr "number" = some (.int k t)) (hf : nmOf fr "first" = some (.int f tf)) :
    AtLaw [lawSt 9] ((l, listOf vs.toArray nn) :: (aw, ow) :: news) fr
      (fun h₀ L s Q => ∀ T t1 t2 h' tk', Fr h₀ L h' (nmOf (("y", .int (place ws k f).2.1 t2) :: ("x", .int (place ws k f).1 t1) :: fr)) → News h₀ L h' ((T, tupObj [.int (place ws k f).1 t1, .int (place ws k f).2.1 t2]) :: (l, listOf vs.toArray nn) :: (aw, ow) :: news) → (∀ q ∈ (l, listOf vs.toArray nn) :: (aw, ow) :: news, q.1 ≠ T) → Q .next { s with heap := h', toks := tk' }) := by
  dsimp only [AtLaw, KH, VW, prg]
  k_fill
  intros; rename_i hret
  walk_at "my lit"
  (k_with "call ref" => refine hold ?_)
  k_steps
  dsimp only [Hold]
  have hC := fun t t2 => place_call w mean mg mb ((aw, ow) :: news) l vs nn ws k f t t2 hi hl hw h0 h1 h2 h3
  (walk_at "cd"; refine' hC _ _ _ _ _ _ _ _ _ _ _ _ _ _ _ _ _ _ _ ?k1 ?k2 ?k3 ?k4 ?k5 ?kK ?kd ?ku ?_; walk_at "cc"; clear hC)
  rintro T o h5 tk5 F5 N5 l5 ⟨t1, t2, rfl⟩
  k_steps
  exact hret _ _ _ _ _ (frPush2 (by assumption)) (by k_asm) (fun q hq => Nat.ne_of_lt (allLt_lt l5 q hq))

theorem fresh_T_law11 : True := by
  k_with_none
  w_on
  w_top off
  (k_with "1 my lit" => ((try (conv in (occs := *) lawSt _ => all_goals whnf)); (try (conv in (occs := *) lawT _ => all_goals whnf)); (try (conv in (occs := *) lawU _ => all_goals whnf)); (try (conv in (occs := *) lawIfT => all_goals whnf)); (try (conv in (occs := *) lawIter => all_goals whnf)); (conv in (occs := *) lawScope => all_goals (whnf; dsimp only))))
  (k_with "1 eval Name" => (k_here; k_dflt (refine' nameX_L ?F ?v ?_ ?a ?b ?c; (case F => k_asm); (case a => rfl); (case b => rfl); (case v => first | exact @rfl (Option Value) (some _) | assumption); (case c => decide); k_whole)))
  (k_with "1 eval Name" => (k_here; (with_reducible show wpAny _ _ (eval (Expr.Name _ _) (envX _ _ _ _ _ (lawCl _ _ _ _ _ _ _ _))) _ _ _); (refine' nameX_L (by k_asm) (by assumption) ?_ ?a ?b ?c; (case a => rfl); (case b => rfl); (case c => decide)); (try dsimp only)))
  trivial
theorem min3_int {prog : Program} {w : World} {A : Around} {E : Value → Shared → Prop} {s : Shared} {h₀ : Heap} {L : Addr} {m : Nm} {news : Led} {x y z : Int} {tx ty tz : Tok} {Q : Value → Shared → Prop} (hh : A.handled = none) (F : Fr h₀ L s.heap m) (N : News h₀ L s.heap news)
    (h : ∀ t h' tk', Fr h₀ L h' m → News h₀ L h' news → Q (.int (min (min x y) z) t) { s with heap := h', toks := tk' }) :
    wpAny (model prog w) A (call (.builtin "min") [.int x tx, .int y ty, .int z tz]) Q E s := by
  refine min_three_num hh (.int _ _) (.int _ _) (.int _ _) fun h' tk hk => ?_
  have e : ∃ t, (if Flt.ltV (.int y ty) (.int x tx) then (if Flt.ltV (.int z tz) (.int y ty) then Value.int z tz else .int y ty) else (if Flt.ltV (.int z tz) (.int x tx) then .int z tz else .int x tx)) = .int (min (min x y) z) t := by
    show ∃ t, (if decide (y < x) = true then (if decide (z < y) = true then Value.int z tz else .int y ty) else (if decide (z < x) = true then .int z tz else .int x tx)) = .int (min (min x y) z) t
    simp only [decide_eq_true_eq]
    by_cases h1 : y < x
    · by_cases h2 : z < y
      · exact ⟨tz, by rw [if_pos h1, if_pos h2, Int.min_eq_right (Int.le_of_lt h1), Int.min_eq_right (Int.le_of_lt h2)]⟩
      · exact ⟨ty, by rw [if_pos h1, if_neg h2, Int.min_eq_right (Int.le_of_lt h1), Int.min_eq_left (Int.not_lt.mp h2)]⟩
    · by_cases h2 : z < x
      · exact ⟨tz, by rw [if_neg h1, if_pos h2, Int.min_eq_left (Int.not_lt.mp h1), Int.min_eq_right (Int.le_of_lt h2)]⟩
      · exact ⟨tx, by rw [if_neg h1, if_neg h2, Int.min_eq_left (Int.not_lt.mp h1), Int.min_eq_left (Int.not_lt.mp h2)]⟩
  obtain ⟨t, e⟩ := e
  rw [e]
  exact h t h' tk (Fr.keeps F hk) (News.keepsAll N hk)
theorem law11 (news : Led) (fr : LF) (c : Addr) (c0 c1 c2 sp x y : Int) (t0 t1 t2 ts tx ty : Tok) (n : Nat) (oc op : Obj) (hd : oc.data = .cell (some (.ref c))) (hdp : op.data = .cell (some (.int sp ts)))
    (hb : 0 ≤ c2 ∧ c2 < 100000000) (hs : 1 ≤ sp ∧ sp ≤ 32) (hx : -200 < x ∧ x < 200) (hy : -200 < y ∧ y < 200) (hkx : nmOf fr "x" = some (.int x tx)) (hky : nmOf fr "y" = some (.int y ty)) :
    AtLaw [lawSt 10] ((ac, oc) :: (c, listOf #[.int c0 t0, .int c1 t1, .int c2 t2] n) :: (ap, op) :: news) fr
      (fun h₀ L s Q => ∀ t h' tk', Fr h₀ L h' (nmOf (("white", .int (512 * (c2.fdiv 3072).fmod 8 - sp * min (min x y) 0) t) :: fr)) → News h₀ L h' ((ac, oc) :: (c, listOf #[.int c0 t0, .int c1 t1, .int c2 t2] n) :: (ap, op) :: news) → Q .next { s with heap := h', toks := tk' }) := by
  dsimp only [AtLaw, KH, VW, prg]
  k_fill
  intros; rename_i hret
  walk_at "my lit"
  k_steps
  rename News _ _ _ _ => N1
  refine min3_int rfl (by k_asm) N1 ?_
  intro t6 h6 tk6 F6 N6
  clear N1
  k_steps
  exact hret _ _ _ (frPush (by assumption)) (by assumption)

theorem fresh_T_law12 : True := by
  k_with_none
  w_on
  w_top off
  (k_with "1 my lit" => ((try (conv in (occs := *) lawSt _ => all_goals whnf)); (try (conv in (occs := *) lawT _ => all_goals whnf)); (try (conv in (occs := *) lawU _ => all_goals whnf)); (try (conv in (occs := *) lawIfT => all_goals whnf)); (try (conv in (occs := *) lawIter => all_goals whnf)); (conv in (occs := *) lawScope => all_goals (whnf; dsimp only))))
  (k_with "1 eval Name" => (k_here; k_dflt (refine' nameX_L ?F ?v ?_ ?a ?b ?c; (case F => k_asm); (case a => rfl); (case b => rfl); (case v => first | exact @rfl (Option Value) (some _) | assumption); (case c => decide); k_whole)))
  (k_with "1 eval Name" => (k_here; (with_reducible show wpAny _ _ (eval (Expr.Name _ _) (envX _ _ _ _ _ (lawCl _ _ _ _ _ _ _ _))) _ _ _); (refine' nameX_L (by k_asm) (by assumption) ?_ ?a ?b ?c; (case a => rfl); (case b => rfl); (case c => decide)); (try dsimp only)))
  trivial
theorem mul_small {sp x : Int} (hs : 1 ≤ sp ∧ sp ≤ 32) (hx : -200 < x ∧ x < 200) : -6400 ≤ sp * x ∧ sp * x ≤ 6400 := by
  obtain ⟨h1, h2⟩ := hs
  obtain ⟨h3, h4⟩ := hx
  have a : 0 ≤ sp * (x + 200) := Int.mul_nonneg (by lia) (by lia)
  have b : 0 ≤ sp * (200 - x) := Int.mul_nonneg (by lia) (by lia)
  rw [Int.mul_add] at a
  rw [Int.mul_sub] at b
  lia
theorem law12 (news : Led) (fr : LF) (sp x y V : Int) (ts tx ty tv : Tok) (op : Obj) (hdp : op.data = .cell (some (.int sp ts)))
    (hs : 1 ≤ sp ∧ sp ≤ 32) (hx : -200 < x ∧ x < 200) (hy : -200 < y ∧ y < 200) (hV : 0 ≤ V ∧ V < 20000) (hkx : nmOf fr "x" = some (.int x tx)) (hky : nmOf fr "y" = some (.int y ty)) (hkv : nmOf fr "white" = some (.int V tv)) :
    AtLaw [lawSt 11] ((ap, op) :: news) fr
      (fun h₀ L s Q => ∀ p t0 t1 t2 n h' tk', Fr h₀ L h' (nmOf (("pot", .ref p) :: fr)) → News h₀ L h' ((p, listOf #[.int (V + sp * x) t0, .int (V + sp * y) t1, .int V t2] n) :: (ap, op) :: news) → (∀ q ∈ (ap, op) :: news, q.1 ≠ p) → Q .next { s with heap := h', toks := tk' }) := by
  dsimp only [AtLaw, KH, VW, prg]
  k_fill
  intros; rename_i hret
  walk_at "my lit"
  have hsx := mul_small hs hx
  have hsy := mul_small hs hy
  (k_with "storeName" => refine hold ?_)
  k_steps
  dsimp only [Hold]
  rename_i l1
  refine storeX_L (by assumption) (by assumption) ?_
  intro h3 F3 N3
  exact wpAny_execs_nil (hret _ _ _ _ _ _ _ (frPush F3) N3 (fun q hq => Nat.ne_of_lt (allLt_lt (nw := (ap, op) :: news) l1 q hq)))

theorem fresh_T_law13 : True := by
  k_with_none
  w_on
  w_top off
  (k_with "1 my lit" => ((try (conv in (occs := *) lawSt _ => all_goals whnf)); (try (conv in (occs := *) lawT _ => all_goals whnf)); (try (conv in (occs := *) lawU _ => all_goals whnf)); (try (conv in (occs := *) lawIfT => all_goals whnf)); (try (conv in (occs := *) lawIter => all_goals whnf)); (conv in (occs := *) lawScope => all_goals (whnf; dsimp only))))
  (k_with "1 cd" => (dsimp only [Mine.Calls, Mine.Ret, Mine.RetNew, Mine.KH, Mine.VW, Mine.prg] at hC))
  (k_with "1 cc" => ((case k1 => k_asm); (case k2 => k_asm); (case k3 => k_asm); (case k4 => k_asm); (case k5 => k_asm); (case kK => first | exact rfl | assumption); (case kd => ktr_room); (case ku => ktr_units)))
  (k_with "1 eval Name" => (k_here; k_dflt (refine' nameX_L ?F ?v ?_ ?a ?b ?c; (case F => k_asm); (case a => rfl); (case b => rfl); (case v => first | exact @rfl (Option Value) (some _) | assumption); (case c => decide); k_whole)))
  (k_with "1 eval Name" => (k_here; (with_reducible show wpAny _ _ (eval (Expr.Name _ _) (envX _ _ _ _ _ (lawCl _ _ _ _ _ _ _ _))) _ _ _); (refine' nameX_L (by k_asm) (by assumption) ?_ ?a ?b ?c; (case a => rfl); (case b => rfl); (case c => decide)); (try dsimp only)))
  trivial
theorem law13 (news : Led) (fr : LF) (k f : Int) (t tf : Tok) (h0 : 0 ≤ k) (h1 : k < 10000) (hk : nmOf fr "number" = some (.int k t)) (hf : nmOf fr "first" = some (.int f tf)) :
    AtLaw [lawSt 12] news fr
      (fun h₀ L s Q => ∀ p dx hash tkd Ts rest' n h' tk', Fr h₀ L h' (nmOf (("pile", .ref p) :: fr)) → News h₀ L h' ((p, accObj dx (refs Ts) n) :: rest') → Ts.length = 8 → (∀ i, i < 8 → IsP rest' (Ts.getD i 0) (digS (fig k (7 - i)))) →
        (dx, sizeD hash tkd (.int f tf)) ∈ rest' → (∀ q ∈ news, q ∈ rest') → (∀ q ∈ rest', q.1 ≠ p) → Q .next { s with heap := h', toks := tk' }) := by
  dsimp only [AtLaw, KH, VW, prg]
  k_fill
  intros; rename_i hret
  walk_at "my lit"
  (k_with "call ref" => refine hold ?_)
  k_steps
  dsimp only [Hold]
  have hC := fun t tf => pile_call w mean mg mb news k f t tf h0 h1
  (walk_at "cd"; refine' hC _ _ _ _ _ _ _ _ _ _ _ _ _ _ _ _ _ _ _ ?k1 ?k2 ?k3 ?k4 ?k5 ?kK ?kd ?ku ?_; walk_at "cc"; clear hC)
  intro p dx hash tkd Ts rest' n h5 tk5 F5 N5 e1 e2 e3 e4 e5
  k_steps
  exact hret _ _ _ _ _ _ _ _ _ (frPush (by assumption)) (by k_asm) e1 e2 e3 e4 e5

theorem uXY (i : Int) : ∃ q, uX (i.fmod 3) + uY (i.fmod 3) = 1 + 3 * q := by
  rcases fmod3_cases i with h | h | h <;> rw [h]
  · exact ⟨0, by decide⟩
  · exact ⟨0, by decide⟩
  · exact ⟨-1, by decide⟩
theorem dXY {way f h : Int} (hf : f = 0 ∨ f = 1 ∨ f = 2) : ∃ q, dX way f h + dY way f h = f + 3 * q := by
  obtain ⟨a, ha⟩ := uXY h
  obtain ⟨b, hb⟩ := uXY (h + way)
  unfold dX dY
  rcases hf with rfl | rfl | rfl
  · exact ⟨0, by simp⟩
  · exact ⟨a, by simp; omega⟩
  · exact ⟨a + b, by simp; lia⟩
theorem read_place {way f x y h : Int} {F : Str} (hw : way = 1 ∨ way = -1) (hf : f = 0 ∨ f = 1 ∨ f = 2) :
    rdStep way ((placeStep way f (x, y, h)).1, (placeStep way f (x, y, h)).2.1, (placeStep way f (x, y, h)).2.2, F) = (x, y, h, piece f ++ F) := by
  obtain ⟨q, hq⟩ := dXY (way := way) (h := h) hf
  have ef : ((placeStep way f (x, y, h)).1 + (placeStep way f (x, y, h)).2.1).fmod 3 = f := by
    rw [Int.fmod_eq_emod_of_nonneg _ (by decide)]
    simp only [placeStep]
    rcases hw with rfl | rfl
    · simp only [if_true]; lia
    · simp only [show ((-1 : Int) = 1) = False from by decide, if_false]; lia
  have ed : rdD way f (placeStep way f (x, y, h)).2.2 = h := by
    simp only [placeStep, rdD]
    split <;> lia
  simp only [rdStep, ef, ed]
  simp only [placeStep]
  have fd : ∀ z : Int, z.fdiv 3 = z / 3 := fun z => Int.fdiv_eq_ediv_of_nonneg z (by decide)
  simp only [fd]
  rcases hw with rfl | rfl
  · simp only [if_true]
    refine Prod.ext ?_ (Prod.ext ?_ rfl)
    · simp only; lia
    · simp only; lia
  · simp only [show ((-1 : Int) = 1) = False from by decide, if_false]
    refine Prod.ext ?_ (Prod.ext ?_ rfl)
    · simp only; lia
    · simp only; lia
noncomputable def lowText (k : Int) : Nat → Str
  | 0 => Str.ofString ""
  | j + 1 => piece (fig k j) ++ lowText k j
theorem rdN_stN {ws : List Int} {k hd : Int} (hl : ws.length = 8) (hw : ∀ x ∈ ws, x = 1 ∨ x = -1) : ∀ j, j ≤ 8 →
    rdN ws ((stN ws k hd 8).1, (stN ws k hd 8).2.1, (stN ws k hd 8).2.2, Str.ofString "") j = ((stN ws k hd (8 - j)).1, (stN ws k hd (8 - j)).2.1, (stN ws k hd (8 - j)).2.2, lowText k j)
  | 0, _ => rfl
  | j + 1, h => by
    have ih := rdN_stN (k := k) (hd := hd) hl hw j (by lia)
    show rdStep (ws.getD j 0) (rdN ws _ j) = _
    rw [ih]
    have e : 8 - j = (8 - (j + 1)) + 1 := by lia
    have e2 : 7 - (8 - (j + 1)) = j := by omega
    have es : stN ws k hd (8 - j) = placeStep (ws.getD j 0) (fig k j) (stN ws k hd (8 - (j + 1))) := by
      rw [e]
      show placeStep (ws.getD (7 - (8 - (j + 1))) 0) (fig k (7 - (8 - (j + 1)))) _ = _
      rw [e2]
    rw [es]
    exact read_place (way_pm hl hw (by lia)) (fig_cases k j)
theorem lowText_figs (k : Int) : lowText k 8 = textOf (figs k) := by
  simp [lowText, figs, textOf, List.range']
theorem readF_place {ws : List Int} {k hd : Int} (hl : ws.length = 8) (hw : ∀ x ∈ ws, x = 1 ∨ x = -1) :
    readF ws (place ws k hd).1 (place ws k hd).2.1 (place ws k hd).2.2 hd = figsText k := by
  have h := rdN_stN (k := k) (hd := hd) hl hw 8 (Nat.le_refl _)
  unfold readF place
  rw [h, lowText_figs, ← figsText_eq]
  simp [stN]

theorem fig_zero (k : Int) : fig k 0 = k % 3 := by
  unfold fig
  rw [Int.fmod_eq_emod_of_nonneg _ (by decide), Int.pow_zero, Int.fdiv_one]
theorem fig_succ (k : Int) (l : Nat) : fig k (l + 1) = fig (k / 3) l := by
  unfold fig
  have e : ∀ (a : Int) (n : Nat), a.fdiv (3 ^ n) = a / 3 ^ n := fun a n => Int.fdiv_eq_ediv_of_nonneg _ (Int.le_of_lt (Int.pow_pos (by decide)))
  rw [e, e, Int.pow_succ, Int.mul_comm, Int.ediv_ediv_of_nonneg (by decide)]
theorem fig_carry : ∀ (n : Nat) (k : Int), (∃ l, l < n ∧ fig k l ≠ 2) → ∃ t, t < n ∧ (∀ l, l < t → fig k l = 2 ∧ fig (k + 1) l = 0) ∧ (fig k t = 0 ∨ fig k t = 1) ∧ fig (k + 1) t = fig k t + 1 ∧ ∀ l, t < l → fig (k + 1) l = fig k l
  | 0, _, h => by obtain ⟨_, h, _⟩ := h; lia
  | n + 1, k, h => by
    have c := fig_cases k 0
    by_cases h2 : fig k 0 = 2
    · have e3 : (k + 1) / 3 = k / 3 + 1 := by rw [fig_zero] at h2; lia
      have hx : ∃ l, l < n ∧ fig (k / 3) l ≠ 2 := by
        obtain ⟨l, hl, hne⟩ := h
        cases l with
        | zero => exact absurd h2 hne
        | succ l => exact ⟨l, by lia, by rw [← fig_succ]; exact hne⟩
      obtain ⟨t, ht, a, b, c', d⟩ := fig_carry n (k / 3) hx
      refine ⟨t + 1, by lia, fun l hl => ?_, by rw [fig_succ]; exact b, by rw [fig_succ, fig_succ, e3]; exact c', fun l hl => ?_⟩
      · cases l with
        | zero => exact ⟨h2, by rw [fig_zero] at h2 ⊢; lia⟩
        | succ l => rw [fig_succ, fig_succ, e3]; exact a l (by lia)
      · cases l with
        | zero => lia
        | succ l => rw [fig_succ, fig_succ, e3]; exact d l (by lia)
    · have e3 : (k + 1) / 3 = k / 3 := by rw [fig_zero] at h2; lia
      refine ⟨0, by lia, fun l hl => by lia, by lia, by rw [fig_zero, fig_zero] at *; lia, fun l hl => ?_⟩
      cases l with
      | zero => lia
      | succ l => rw [fig_succ, fig_succ, e3]
theorem fig_notwo {k : Int} (h0 : 0 ≤ k) (h1 : k < 6560) : ∃ l, l < 8 ∧ fig k l ≠ 2 := by
  apply Classical.byContradiction
  intro hn
  have all : ∀ l, l < 8 → fig k l = 2 := fun l hl => Classical.byContradiction fun h => hn ⟨l, hl, h⟩
  have a0 := all 0 (by decide)
  have a1 := all 1 (by decide)
  have a2 := all 2 (by decide)
  have a3 := all 3 (by decide)
  have a4 := all 4 (by decide)
  have a5 := all 5 (by decide)
  have a6 := all 6 (by decide)
  have a7 := all 7 (by decide)
  simp only [fig_succ, fig_zero] at a0 a1 a2 a3 a4 a5 a6 a7
  clear all hn
  lia
theorem unit_turn {w h : Int} (hw : w = 1 ∨ w = -1) : (if w = 1 then 2 * uX (h.fmod 3) - uY (h.fmod 3) else uX (h.fmod 3) + uY (h.fmod 3)) = uX (h.fmod 3) + (uX (h.fmod 3) + uX ((h + w).fmod 3)) ∧
    (if w = 1 then uX (h.fmod 3) + uY (h.fmod 3) else 2 * uY (h.fmod 3) - uX (h.fmod 3)) = uY (h.fmod 3) + (uY (h.fmod 3) + uY ((h + w).fmod 3)) := by
  rw [fmod3_add]
  rcases fmod3_cases h with e | e | e <;> rw [e] <;> rcases hw with rfl | rfl <;> decide
noncomputable def Near3 (w : Int) (s' s : Int × Int × Int) : Prop := s'.1 = s.1 + uX (s.2.2.fmod 3) ∧ s'.2.1 = s.2.1 + uY (s.2.2.fmod 3) ∧ s'.2.2 = s.2.2 + w
theorem ps_base {f w : Int} (hf0 : f = 0 ∨ f = 1) (s : Int × Int × Int) : Near3 (if f = 0 then w else -w) (placeStep w (f + 1) s) (placeStep w f s) := by
  unfold Near3
  rcases hf0 with rfl | rfl
  · simp [placeStep, dX, dY]
  · simp [placeStep, dX, dY]
    lia
theorem ps_step {w wt : Int} (hm : w = 1 ∨ w = -1) {s' s : Int × Int × Int} (h : Near3 wt s' s) : Near3 wt (placeStep w 0 s') (placeStep w 2 s) := by
  obtain ⟨x, y, h⟩ := s
  obtain ⟨x', y', h'⟩ := s'
  obtain ⟨a, b, c⟩ := h
  have u := unit_turn (h := h) hm
  simp only at a b c
  subst a b c
  unfold Near3
  rcases hm with rfl | rfl
  · simp [placeStep, dX, dY] at u ⊢
    lia
  · simp [placeStep, dX, dY] at u ⊢
    lia
theorem place_succ {ws : List Int} {k hd f : Int} {t : Nat} (hl : ws.length = 8) (hw : ∀ x ∈ ws, x = 1 ∨ x = -1) (ht : t < 8) (low : ∀ l, l < t → fig k l = 2 ∧ fig (k + 1) l = 0) (hf : fig k t = f) (hf1 : fig (k + 1) t = f + 1) (hf0 : f = 0 ∨ f = 1) (hi : ∀ l, t < l → fig (k + 1) l = fig k l) :
    (place ws (k + 1) hd).1 = (place ws k hd).1 + uX ((place ws k hd).2.2.fmod 3) ∧ (place ws (k + 1) hd).2.1 = (place ws k hd).2.1 + uY ((place ws k hd).2.2.fmod 3) ∧
      (place ws (k + 1) hd).2.2 = (place ws k hd).2.2 + if f = 0 then ws.getD t 0 else -ws.getD t 0 := by
  have A : ∀ j, j ≤ 7 - t → stN ws (k + 1) hd j = stN ws k hd j := by
    intro j
    induction j with
    | zero => intro _; rfl
    | succ j ih =>
      intro hj
      show placeStep _ (fig (k + 1) (7 - j)) _ = placeStep _ (fig k (7 - j)) _
      rw [ih (Nat.le_of_succ_le hj), hi (7 - j) (by lia)]
  have C : ∀ i, i ≤ t → Near3 (if f = 0 then ws.getD t 0 else -ws.getD t 0) (stN ws (k + 1) hd (8 - t + i)) (stN ws k hd (8 - t + i)) := by
    intro i
    induction i with
    | zero =>
      intro _
      have e : 8 - t + 0 = (7 - t) + 1 := by lia
      have e2 : 7 - (7 - t) = t := by omega
      rw [e]
      show Near3 _ (placeStep (ws.getD (7 - (7 - t)) 0) (fig (k + 1) (7 - (7 - t))) (stN ws (k + 1) hd (7 - t))) (placeStep (ws.getD (7 - (7 - t)) 0) (fig k (7 - (7 - t))) (stN ws k hd (7 - t)))
      rw [e2, A (7 - t) (Nat.le_refl _), hf, hf1]
      exact ps_base hf0 _
    | succ i ih =>
      intro hi'
      have hlev : 7 - (8 - t + i) < t := by lia
      obtain ⟨g1, g2⟩ := low _ hlev
      show Near3 _ (placeStep (ws.getD (7 - (8 - t + i)) 0) (fig (k + 1) (7 - (8 - t + i))) (stN ws (k + 1) hd (8 - t + i))) (placeStep (ws.getD (7 - (8 - t + i)) 0) (fig k (7 - (8 - t + i))) (stN ws k hd (8 - t + i)))
      rw [g1, g2]
      exact ps_step (way_pm hl hw (i := 7 - (8 - t + i)) (Nat.lt_trans hlev ht)) (ih (Nat.le_of_succ_le hi'))
  have := C t (Nat.le_refl _)
  rw [Nat.sub_add_cancel (Nat.le_of_lt ht)] at this
  exact this

theorem Strip.app {a b o q : List UInt8} (h : Strip a o) (h' : Strip b q) : Strip (a ++ b) (o ++ q) := by
  induction h with
  | nil => exact h'
  | sign hc _ ih => exact .sign hc ih
  | lab5 _ ih => exact .lab5 ih
  | lab3 _ ih => exact .lab3 ih
  | lab4 _ ih => exact .lab4 ih
noncomputable def netS (ws : List Int) (k : Int) : Nat → Int
  | 0 => 0
  | i + 1 => netS ws k i + if fig k i = 1 then ws.getD i 0 else 0
noncomputable abbrev dep (o : List UInt8) : Int := (o.count 40 : Nat) - (o.count 41 : Nat)
noncomputable abbrev l0 : Array UInt8 := #[34, 40, 92, 34, 34]
noncomputable abbrev l1 : Array UInt8 := #[]
noncomputable abbrev l2 : Array UInt8 := #[34, 41, 34]
noncomputable abbrev l3 : Array UInt8 := #[34, 92, 92, 34]
theorem lab_strip (i : Nat) : Strip (labB l0 l1 l2 l3 ((i : Int).fmod 4)).toList [] := by
  have h : (i : Int).fmod 4 = 0 ∨ (i : Int).fmod 4 = 1 ∨ (i : Int).fmod 4 = 2 ∨ (i : Int).fmod 4 = 3 := by
    rw [Int.fmod_eq_emod_of_nonneg _ (by decide)]; lia
  rcases h with h | h | h | h <;> rw [h]
  · exact .lab5 .nil
  · exact .nil
  · exact .lab3 .nil
  · exact .lab4 .nil
theorem pair_strip {wy f : Int} (hw : wy = 1 ∨ wy = -1) (hf : IsFig f) : ∃ o, Strip (KBy.picked (pairB wy) none (some f)).toList o ∧ dep o = if f = 1 then wy else 0 := by
  rcases hw with rfl | rfl <;> rcases hf with rfl | rfl | rfl
  · exact ⟨[], .nil, by decide⟩
  · exact ⟨[40], .sign (by decide) .nil, by decide⟩
  · exact ⟨[40, 41], .sign (by decide) (.sign (by decide) .nil), by decide⟩
  · exact ⟨[], .nil, by decide⟩
  · exact ⟨[41], .sign (by decide) .nil, by decide⟩
  · exact ⟨[41, 40], .sign (by decide) (.sign (by decide) .nil), by decide⟩
theorem txt_strip {ws : List Int} {k : Int} {ds : List Int} (hl : ws.length = 8) (hw : ∀ x ∈ ws, x = 1 ∨ x = -1) (hd : ∀ i, i < 8 → ds.getD i 0 = fig k i) : ∀ i, i ≤ 8 → ∃ o, Strip (txtB ws l0 l1 l2 l3 ds i).toList o ∧ dep o = netS ws k i
  | 0, _ => ⟨[], .nil, rfl⟩
  | i + 1, h => by
    obtain ⟨o, h1, e1⟩ := txt_strip hl hw hd i (by lia)
    obtain ⟨q, h2, e2⟩ := pair_strip (way_pm hl hw (i := i) (by lia)) (fig_cases k i)
    refine ⟨o ++ q, ?_, ?_⟩
    · simp only [txtB, Array.toList_append, hd i (by lia)]
      have := (h1.app (lab_strip i)).app h2
      rwa [List.append_nil] at this
    · have ea : dep (o ++ q) = dep o + dep q := by simp only [dep, List.count_append]; lia
      rw [ea, e1, e2]
      rfl
theorem stN_net {ws : List Int} {k hd : Int} : ∀ j, j ≤ 8 → (stN ws k hd j).2.2 + netS ws k (8 - j) = hd + netS ws k 8
  | 0, _ => rfl
  | j + 1, h => by
    have ih := stN_net (ws := ws) (k := k) (hd := hd) j (by lia)
    have e : (stN ws k hd (j + 1)).2.2 = (stN ws k hd j).2.2 + if fig k (7 - j) = 1 then ws.getD (7 - j) 0 else 0 := rfl
    have e2 : 8 - j = (7 - j) + 1 := by lia
    have e3 : 8 - (j + 1) = 7 - j := by lia
    rw [e2] at ih
    rw [e3, e]
    have e4 : netS ws k ((7 - j) + 1) = netS ws k (7 - j) + if fig k (7 - j) = 1 then ws.getD (7 - j) 0 else 0 := rfl
    lia
theorem place_head (ws : List Int) (k hd : Int) : (place ws k hd).2.2 = hd + netS ws k 8 := by
  have := stN_net (ws := ws) (k := k) (hd := hd) 8 (Nat.le_refl _)
  simpa [netS, place] using this

theorem fresh_T_law14 : True := by
  k_with_none
  w_on
  w_top off
  (k_with "1 my lit" => ((try (conv in (occs := *) lawSt _ => all_goals whnf)); (try (conv in (occs := *) lawT _ => all_goals whnf)); (try (conv in (occs := *) lawU _ => all_goals whnf)); (try (conv in (occs := *) lawIfT => all_goals whnf)); (try (conv in (occs := *) lawIter => all_goals whnf)); (conv in (occs := *) lawScope => all_goals (whnf; dsimp only))))
  (k_with "1 cd" => (dsimp only [Mine.Calls, Mine.Ret, Mine.RetNew, Mine.KH, Mine.VW, Mine.prg] at hC))
  (k_with "1 cc" => ((case k1 => k_asm); (case k2 => k_asm); (case k3 => k_asm); (case k4 => k_asm); (case k5 => k_asm); (case kK => first | exact rfl | assumption); (case kd => ktr_room); (case ku => ktr_units)))
  (k_with "1 eval Name" => (k_here; k_dflt (refine' nameX_L ?F ?v ?_ ?a ?b ?c; (case F => k_asm); (case a => rfl); (case b => rfl); (case v => first | exact @rfl (Option Value) (some _) | assumption); (case c => decide); k_whole)))
  (k_with "1 eval Name" => (k_here; (with_reducible show wpAny _ _ (eval (Expr.Name _ _) (envX _ _ _ _ _ (lawCl _ _ _ _ _ _ _ _))) _ _ _); (refine' nameX_L (by k_asm) (by assumption) ?_ ?a ?b ?c; (case a => rfl); (case b => rfl); (case c => decide)); (try dsimp only)))
  trivial
theorem figs_eq8 (k : Int) : figsText k = textOf [fig k 7, fig k 6, fig k 5, fig k 4, fig k 3, fig k 2, fig k 1, fig k 0] := (figsText_eq k).trans rfl
theorem newsAdd {h₀ h : Heap} {L : Addr} {news : Led} {q : Addr × Obj} (N : News h₀ L h news) (hq : q ∈ news) : News h₀ L h (q :: news) := newsSub N fun x hx => by
  rcases List.mem_cons.mp hx with rfl | hx
  · exact hq
  · exact hx
theorem law14 (rest : Led) (fr : LF) (op od ow : Obj) (p dx : Addr) (Ts : List Addr) (n : Nat) (lb l : Addr) (u0 u1 u2 u3 : Tok) (n2 : Nat) (vs : List Value) (nn : Nat) (ws : List Int) (k f : Int) (tf : Tok)
    (hp : (p, accObj dx (refs Ts) n) ∈ rest) (hdx : (dx, od) ∈ rest) (ap' : ∀ q ∈ rest, q.1 ≠ 121) (ok : TxtOk op) (hTl : Ts.length = 8) (hT : ∀ i, i < 8 → IsP rest (Ts.getD i 0) (digS (fig k (7 - i))))
    (hlb : (lb, listOf #[.bytes l0 u0, .bytes l1 u1, .bytes l2 u2, .bytes l3 u3] n2) ∈ rest) (hll : (l, listOf vs.toArray nn) ∈ rest) (haw : (aw, ow) ∈ rest) (hdw : ow.data = .cell (some (.ref l)))
    (hi : IntsAre vs ws) (hl : ws.length = 8) (hw : ∀ x ∈ ws, x = 1 ∨ x = -1)
    (h1 : nmOf fr "pile" = some (.ref p)) (h2 : nmOf fr "labels" = some (.ref lb)) (h3 : nmOf fr "first" = some (.int f tf)) :
    AtLaw [lawSt 13] ((121, op) :: rest) fr
      (fun h₀ L s Q => AllBare s.gens ∧ ∀ op' t h' tk' gs', Fr h₀ L h' (nmOf (("depth", .int (place ws k f).2.2 t) :: fr)) → News h₀ L h' ((121, op') :: rest) → TxtOk op' → AllBare gs' → Q .next { s with heap := h', toks := tk', gens := gs' }) := by
  dsimp only [AtLaw, KH, VW, prg]
  k_fill
  intros; rename_i hret
  obtain ⟨hG, hret⟩ := hret
  walk_at "my lit"
  (k_with "call type:str" => refine hold ?_)
  (k_with "call ref" => refine hold ?_)
  k_steps
  dsimp only [Hold]
  have hC := str_call w mean mg mb rest p dx Ts n op od k hp hdx ap' ok hTl hT
  (walk_at "cd"; refine' hC _ _ _ _ _ _ _ _ _ _ _ _ _ _ _ _ _ ?k1 ?k2 ?k3 ?k4 ?k5 ?kK ?kd ?ku ?_; walk_at "cc"; clear hC)
  refine ⟨hG, fun op' t h5 tk5 gs5 F5 N5 o5 g5 => ?_⟩
  generalize hS : figsText k = S
  k_steps
  dsimp only [Hold]
  have hS' := hS.symm.trans (figs_eq8 k)
  rw [hS']
  have N6 := newsAdd (newsAdd N5 (.tail _ hll)) (.tail _ (.tail _ hlb))
  have hC := fun t t0 t1 t2 t3 => text_call w mean mg mb ((121, op') :: rest) l lb vs nn ws (fig k 7) (fig k 6) (fig k 5) (fig k 4) (fig k 3) (fig k 2) (fig k 1) (fig k 0) l0 l1 l2 l3 n2 t t0 t1 t2 t3 hi hl hw (figs_fig k) (by decide) (by decide) (by decide) (by decide)
  (walk_at "cd"; refine' hC _ _ _ _ _ _ _ _ _ _ _ _ _ _ _ _ _ _ _ _ _ _ ?k1 ?k2 ?k3 ?k4 ?k5 ?kK ?kd ?ku ?_; walk_at "cc"; clear hC)
  intro t6 h6 tk6 F6 N7
  generalize hD : txtB ws l0 l1 l2 l3 [fig k 0, fig k 1, fig k 2, fig k 3, fig k 4, fig k 5, fig k 6, fig k 7] 8 = D
  k_steps
  dsimp only [Hold]
  obtain ⟨o, hs, ho⟩ := txt_strip (ws := ws) (k := k) (ds := [fig k 0, fig k 1, fig k 2, fig k 3, fig k 4, fig k 5, fig k 6, fig k 7]) hl hw (lt8 rfl rfl rfl rfl rfl rfl rfl rfl) 8 (Nat.le_refl _)
  have hz := txtB_size (ws := ws) (ds := [fig k 0, fig k 1, fig k 2, fig k 3, fig k 4, fig k 5, fig k 6, fig k 7]) (b0 := l0) (b1 := l1) (b2 := l2) (b3 := l3) (by decide) (by decide) (by decide) (by decide) 8
  rw [hD] at hs hz
  have hC := fun t t2 => depth_call w mean mg mb ((121, op') :: rest) D o f t t2 (by lia) hs
  have N8 := newsSub N7 fun q hq => .tail _ (.tail _ hq)
  clear N7 N6
  (walk_at "cd"; refine' hC _ _ _ _ _ _ _ _ _ _ _ _ _ _ _ _ _ _ _ ?k1 ?k2 ?k3 ?k4 ?k5 ?kK ?kd ?ku ?_; walk_at "cc"; clear hC)
  have he : f + (o.count 40 : Nat) - (o.count 41 : Nat) = (place ws k f).2.2 := by
    rw [place_head, ← ho]; simp only [dep]; lia
  rw [he]
  intro t9 h9 tk9 F9 N9
  k_steps
  exact hret _ _ _ _ _ (frPush (by assumption)) (by assumption) o5 g5

theorem fresh_T_law15 : True := by
  k_with_none
  w_on
  w_top off
  (k_with "1 my lit" => ((try (conv in (occs := *) lawSt _ => all_goals whnf)); (try (conv in (occs := *) lawT _ => all_goals whnf)); (try (conv in (occs := *) lawU _ => all_goals whnf)); (try (conv in (occs := *) lawIfT => all_goals whnf)); (try (conv in (occs := *) lawIter => all_goals whnf)); (conv in (occs := *) lawScope => all_goals (whnf; dsimp only))))
  trivial
theorem law15 (news : Led) (fr : LF) :
    AtLaw [lawSt 14] news fr
      (fun h₀ L s Q => ∀ t h' tk', Fr h₀ L h' (nmOf (("row", .bytes #[] t) :: fr)) → News h₀ L h' news → Q .next { s with heap := h', toks := tk' }) := by
  dsimp only [AtLaw, KH, VW, prg]
  k_fill
  intros; rename_i hret
  walk_at "my lit"
  k_steps
  exact hret _ _ _ (frPush (by assumption)) (by assumption)

section
variable {prog : Program} {w : World} {A : Around} {E : Value → Shared → Prop} {s : Shared} {env : Env} {h₀ : Heap} {x : Str} {body : List Stmt} {Q : Flow → Shared → Prop}
noncomputable def SameG (s s₂ : Shared) : Prop := s₂.drawn = s.drawn ∧ s₂.os = s.os
theorem SameG.eq {s s₂ : Shared} (h : SameG s s₂) : s₂ = { s with heap := s₂.heap, toks := s₂.toks, gens := s₂.gens } := by
  obtain ⟨a, b, c, d, e⟩ := s
  obtain ⟨a', b', c', d', e'⟩ := s₂
  obtain ⟨rfl, rfl⟩ := h
  rfl
noncomputable def TurnEnd (h₀ : Heap) (L : Addr) (s : Shared) (I : Addr) (it : Obj) (J : Array GenState → Nm → Led → Prop) (Q : Flow → Shared → Prop) (f : Flow) (s' : Shared) : Prop :=
  match f with
  | .ret v => Q (.ret v) s'
  | .brk => Q .next s'
  | _ => SameG s s' ∧ ∃ m' nw', Fr h₀ L s'.heap m' ∧ News h₀ L s'.heap ((I, it) :: nw') ∧ (∀ p ∈ nw', p.1 ≠ I) ∧ J s'.gens m' nw'
theorem For_rangeG {iter : PySem.Expr} {px pos : Pos} {n : Nat} (J : Nat → Array GenState → Nm → Led → Prop) (hx : env.kindOf x = some .local)
    (hp : (env.scope.kind == .class || (env.scope.kind == .module && env.locals != env.globals)) = false)
    (h : wpAny (model prog w) A (eval iter env) (fun xv s₁ => ∃ r t u v m news, xv = .ref r ∧ A.handled = none ∧ IsRange s₁.heap r 0 (n : Int) 1 t u v ∧ n ≤ 1000 ∧ Fr h₀ env.locals s₁.heap m ∧ News h₀ env.locals s₁.heap news ∧ J 0 s₁.gens m news ∧
      (∀ I i t m₁ nw s₂, SameG s₁ s₂ → i < n → J i s₂.gens m₁ nw → (∀ p ∈ nw, p.1 ≠ I) → Fr h₀ env.locals s₂.heap (fun y => if y = x then some (.int (i : Int) t) else m₁ y) →
        News h₀ env.locals s₂.heap ((I, itR ((i : Int) + 1) ((n : Int) - ((i : Int) + 1))) :: nw) →
        wpAny (model prog w) A (execs body env) (TurnEnd h₀ env.locals s₁ I (itR ((i : Int) + 1) ((n : Int) - ((i : Int) + 1))) (J (i + 1)) Q) E s₂) ∧
      (∀ m₁ nw s₂, SameG s₁ s₂ → J n s₂.gens m₁ nw → Fr h₀ env.locals s₂.heap m₁ → News h₀ env.locals s₂.heap nw → Q .next s₂)) E s)
    (hs : ∀ x, foldedSetIterable iter env x = pure x := by intro _; rfl)
    (hE : PassesOwn (model prog w) A env E := by passes_own) :
    wpAny (model prog w) A (exec (.For (.Name x px) iter body [] pos) env) Q E s := by
  refine wpAny_For (wpAny_mono h (fun xv s₁ h₁ => ?_) fun _ _ e => e) hs
  refine exE6 h₁ fun r t₀ u₀ v₀ m news h₁ => ?_
  refine anE9 h₁ fun e hh hR hn F N hJ turn done => ?_
  clear h₁
  subst e
  refine wpAny_pyIter_range hR (small0 hn) ?_
  rw [size0]
  generalize hI : s₁.heap.objs.size = I at *
  have hLI : env.locals < I := hI ▸ F.ns.lt
  have new : h₀.get? I = none := by
    cases e : h₀.get? I with
    | none => rfl
    | some o => exact absurd (Heap.lt_size (F.keep _ o e)) (by rw [hI]; exact Nat.lt_irrefl _)
  have hIL : I ≠ env.locals := Nat.ne_of_gt hLI
  have old : ∀ b o, h₀.get? b = some o → b ≠ I := fun b o e q => by rw [q, new] at e; cases e
  refine codeAny_forLoop (R := fun r s' => match r with | .ok f => Q f s' | .error e => cameBackBy (model prog w) A env E e s')
    (fun k s' => ∃ (m' : Nm) (nw : Led) (i : Nat), SameG s₁ s' ∧ IsRangeIter s'.heap I (i : Int) ((n : Int) - (i : Int)) 1 ∧ Fr h₀ env.locals s'.heap m' ∧ News h₀ env.locals s'.heap nw ∧ (∀ p ∈ nw, p.1 ≠ I) ∧ J i s'.gens m' nw ∧ i ≤ n ∧ k = n + 1 - i) ?_ (n + 1)
    (exI3 m news 0 ⟨⟨rfl, rfl⟩, ?_, F.push _, fun p hp => ⟨Heap.get?_push_of_some _ (N p hp).1, (N p hp).2⟩, fun p hp => Nat.ne_of_lt (hI ▸ Heap.lt_size (N p hp).1), hJ, Nat.zero_le _, rfl⟩)
  · clear hI hJ F N hR
    revert I
    refine nb ?_
    intro I hLI new hIL old k s' hK
    refine exE3 hK fun m' nw i hK => ?_
    refine anE8 hK fun hS hit F' N' off hJ' hi ek => ?_
    clear hK
    subst ek
    by_cases hlt : i < n
    · refine wpAny_pyNext_range_item hit (Int.sub_pos_of_lt (Int.ofNat_lt.mpr hlt)) fun h₁ hit₁ hs₁ => ?_
      have F₁ : Fr h₀ env.locals h₁ m' := ⟨F'.ns.at' fun o e => hs₁.extBut _ o (Ne.symm hIL) e, fun b o e => hs₁.extBut b o (old b o e) (F'.keep b o e), F'.above⟩
      have N₁ : News h₀ env.locals h₁ nw := fun p hp => ⟨hs₁.extBut _ _ (off p hp) (N' p hp).1, (N' p hp).2⟩
      refine wpAny_assign_Name (wpAny_storeName_local hx F₁.ns (fun h₂ hn₂ hs₂ => ?_) hp)
      have F₂ := F₁.set hn₂ hs₂
      have hit₂ : h₂.get? I = some (itR ((i : Int) + 1) ((n : Int) - ((i : Int) + 1))) := by
        have e2 : (n : Int) - ((i : Int) + 1) = (n : Int) - (i : Int) - 1 := (Int.sub_sub _ _ _).symm
        rw [e2]
        exact (hs₂.2 I hIL).trans hit₁
      have N₂ : News h₀ env.locals h₂ ((I, itR ((i : Int) + 1) ((n : Int) - ((i : Int) + 1))) :: nw) := fun p hp => by
        rcases List.mem_cons.mp hp with rfl | hp
        · exact ⟨hit₂, hIL, new⟩
        · exact (N₁.set hs₂) p hp
      refine wpAny_mono (wpAny_passesOwn hE (turn I i _ m' nw _ (show SameG s₁ _ from ⟨hS.1, hS.2⟩) hlt hJ' off F₂ N₂)) (fun f s₃ h₃ => ?_) fun _ _ e => e
      have go : (SameG s₁ s₃ ∧ ∃ m' nw', Fr h₀ env.locals s₃.heap m' ∧ News h₀ env.locals s₃.heap ((I, itR ((i : Int) + 1) ((n : Int) - ((i : Int) + 1))) :: nw') ∧ (∀ p ∈ nw', p.1 ≠ I) ∧ J (i + 1) s₃.gens m' nw') →
          ∃ k', k' < n + 1 - i ∧ ∃ (m' : Nm) (nw : Led) (i : Nat), SameG s₁ s₃ ∧ IsRangeIter s₃.heap I (i : Int) ((n : Int) - (i : Int)) 1 ∧ Fr h₀ env.locals s₃.heap m' ∧ News h₀ env.locals s₃.heap nw ∧ (∀ p ∈ nw, p.1 ≠ I) ∧ J i s₃.gens m' nw ∧ i ≤ n ∧ k' = n + 1 - i := by
        rintro ⟨hS₃, m₃, nw₃, F₃, N₃, off₃, hJ₃⟩
        refine ⟨n + 1 - (i + 1), Nat.sub_lt_sub_left (Nat.lt_succ_of_lt hlt) (Nat.lt_succ_self i), exI3 m₃ nw₃ (i + 1) ⟨hS₃, ?_, F₃, fun p hp => N₃ p (.tail _ hp), off₃, hJ₃, hlt, rfl⟩⟩
        have := (N₃ _ (.head _)).1
        push_cast
        exact this
      cases f with
      | ret v => exact h₃
      | brk => exact h₃
      | next => exact go h₃
      | cont => exact go h₃
    · have hin : i = n := Nat.le_antisymm hi (Nat.not_lt.mp hlt)
      subst hin
      refine wpAny_pyNext_range_end hh hit (Int.le_of_eq (Int.sub_self _)) fun h₁ he₁ => wpAny_execs_nil ?_
      have F₁ : Fr h₀ env.locals h₁ m' := ⟨F'.ns.at' fun o e => he₁ _ o (Ne.symm hIL) e, fun b o e => he₁ b o (old b o e) (F'.keep b o e), F'.above⟩
      exact done m' nw { s' with heap := h₁ } ⟨hS.1, hS.2⟩ hJ' F₁ fun p hp => ⟨he₁ _ _ (off p hp) (N' p hp).1, (N' p hp).2⟩
  · show Heap.get? _ I = some _
    rw [← hI]
    rw [Heap.get?_push_size _ rfl]
    simp [rawInt]
end

theorem fresh_T_t1 : True := by
  k_with_none
  w_on
  w_top off
  (k_with "1 my lit" => ((try (conv in (occs := *) lawSt _ => all_goals whnf)); (try (conv in (occs := *) lawT _ => all_goals whnf)); (try (conv in (occs := *) lawU _ => all_goals whnf)); (try (conv in (occs := *) lawIfT => all_goals whnf)); (try (conv in (occs := *) lawIter => all_goals whnf)); (conv in (occs := *) lawScope => all_goals (whnf; dsimp only))))
  (k_with "1 cd" => (dsimp only [Mine.Calls, Mine.Ret, Mine.RetNew, Mine.KH, Mine.VW, Mine.prg] at hC))
  (k_with "1 cc" => ((case k1 => k_asm); (case k2 => k_asm); (case k3 => k_asm); (case k4 => k_asm); (case k5 => k_asm); (case kK => first | exact rfl | assumption); (case kd => ktr_room); (case ku => ktr_units)))
  (k_with "1 eval Name" => (k_here; k_dflt (refine' nameX_L ?F ?v ?_ ?a ?b ?c; (case F => k_asm); (case a => rfl); (case b => rfl); (case v => first | exact @rfl (Option Value) (some _) | assumption); (case c => decide); k_whole)))
  (k_with "1 eval Name" => (k_here; (with_reducible show wpAny _ _ (eval (Expr.Name _ _) (envX _ _ _ _ _ (lawCl _ _ _ _ _ _ _ _))) _ _ _); (refine' nameX_L (by k_asm) (by assumption) ?_ ?a ?b ?c; (case a => rfl); (case b => rfl); (case c => decide)); (try dsimp only)))
  (k_with "1 call ref" => ((with_reducible show wpAny _ _ (call (Value.ref 168) _) _ _ _); (have hC := @Mine.figs_call); (walk_at "cd"); refine' hC _ _ _ _ _ _ _ ?x0 ?x1 _ _ _ _ _ _ _ _ _ _ _ _ _ _ _ _ _ ?k1 ?k2 ?k3 ?k4 ?k5 ?kK ?kd ?ku ?_; walk_at "cc"; (case x0 => assumption); (case x1 => assumption); clear hC; intro t9 h9 tk9 F9 N9; (try dsimp only)))
  trivial
theorem turn1 (news : Led) (fr : LF) (k j : Int) (t tj : Tok) (hb : 0 ≤ k ∧ k < 2187 ∧ 0 ≤ j ∧ j < 10) (hk : nmOf fr "number" = some (.int k t)) (hj : nmOf fr "step" = some (.int j tj)) :
    AtLaw [lawT 0] news fr
      (fun h₀ L s Q => ∀ t h' tk', Fr h₀ L h' (nmOf (("due", .str (figsText (k + j)) t) :: fr)) → News h₀ L h' news → Q .next { s with heap := h', toks := tk' }) := by
  dsimp only [AtLaw, KH, VW, prg]
  k_fill
  intros; rename_i hret
  walk_at "my lit"
  (k_with "call ref" => refine hold ?_)
  k_steps
  dsimp only [Hold]
  have hC := fun t => figs_call w mean mg mb news (k + j) t (by lia) (by lia)
  (walk_at "cd"; refine' hC _ _ _ _ _ _ _ _ _ _ _ _ _ _ _ _ _ _ ?k1 ?k2 ?k3 ?k4 ?k5 ?kK ?kd ?ku ?_; walk_at "cc"; clear hC)
  intro t5 h5 tk5 F5 N5
  generalize hS : figsText (k + j) = S at *
  k_steps
  exact hret _ _ _ (frPush (by assumption)) (by assumption)

theorem fresh_T_t2 : True := by
  k_with_none
  w_on
  w_top off
  (k_with "1 my lit" => ((try (conv in (occs := *) lawSt _ => all_goals whnf)); (try (conv in (occs := *) lawT _ => all_goals whnf)); (try (conv in (occs := *) lawU _ => all_goals whnf)); (try (conv in (occs := *) lawIfT => all_goals whnf)); (try (conv in (occs := *) lawIter => all_goals whnf)); (conv in (occs := *) lawScope => all_goals (whnf; dsimp only))))
  (k_with "1 cd" => (dsimp only [Mine.Calls, Mine.Ret, Mine.RetNew, Mine.KH, Mine.VW, Mine.prg] at hC))
  (k_with "1 cc" => ((case k1 => k_asm); (case k2 => k_asm); (case k3 => k_asm); (case k4 => k_asm); (case k5 => k_asm); (case kK => first | exact rfl | assumption); (case kd => ktr_room); (case ku => ktr_units)))
  (k_with "1 eval Name" => (k_here; k_dflt (refine' nameX_L ?F ?v ?_ ?a ?b ?c; (case F => k_asm); (case a => rfl); (case b => rfl); (case v => first | exact @rfl (Option Value) (some _) | assumption); (case c => decide); k_whole)))
  (k_with "1 eval Name" => (k_here; (with_reducible show wpAny _ _ (eval (Expr.Name _ _) (envX _ _ _ _ _ (lawCl _ _ _ _ _ _ _ _))) _ _ _); (refine' nameX_L (by k_asm) (by assumption) ?_ ?a ?b ?c; (case a => rfl); (case b => rfl); (case c => decide)); (try dsimp only)))
  trivial
noncomputable def ToldOk (sp P0 P1 P2 x y : Int) : Prop := ∃ m T : Int, (0 ≤ P0 ∧ P0 < 16000) ∧ (0 ≤ P1 ∧ P1 < 16000) ∧ (0 ≤ P2 ∧ P2 < 16000) ∧ (0 ≤ m ∧ m < 1000) ∧ (0 ≤ T ∧ T < 10000) ∧ hlsOk (qf P0 8192) (qf P1 8192) (qf P2 8192) ∧
    (FiW (tSide sp (tW (hlsL (qf P0 8192) (qf P1 8192) (qf P2 8192)) (hlsS (qf P0 8192) (qf P1 8192) (qf P2 8192)))) ∧ fint (tSide sp (tW (hlsL (qf P0 8192) (qf P1 8192) (qf P2 8192)) (hlsS (qf P0 8192) (qf P1 8192) (qf P2 8192)))) = m) ∧
    (m ≠ 0 → FiW (tTurn m (hlsH (qf P0 8192) (qf P1 8192) (qf P2 8192))) ∧ fint (tTurn m (hlsH (qf P0 8192) (qf P1 8192) (qf P2 8192))) = T) ∧ toldX m T = x ∧ toldY m T = y
theorem turn2 (rest : Led) (fr : LF) (op od ow os : Obj) (p dx : Addr) (Ts : List Addr) (n : Nat) (l pt : Addr) (vs : List Value) (nn n3 : Nat) (ws : List Int) (k f sp P0 P1 P2 : Int) (tf ts v0 v1 v2 tu te : Tok)
    (hp : (p, accObj dx (refs Ts) n) ∈ rest) (hdx : (dx, od) ∈ rest) (ap' : ∀ q ∈ rest, q.1 ≠ 121) (ok : TxtOk op) (hTl : Ts.length = 8) (hT : ∀ i, i < 8 → IsP rest (Ts.getD i 0) (digS (fig k (7 - i))))
    (hll : (l, listOf vs.toArray nn) ∈ rest) (haw : (aw, ow) ∈ rest) (hdw : ow.data = .cell (some (.ref l))) (has : (ap, os) ∈ rest) (hds : os.data = .cell (some (.int sp ts)))
    (hpt : (pt, listOf #[.int P0 v0, .int P1 v1, .int P2 v2] n3) ∈ rest) (told : ToldOk sp P0 P1 P2 (place ws k f).1 (place ws k f).2.1) (hsp : 1 ≤ sp ∧ sp ≤ 32)
    (hi : IntsAre vs ws) (hl : ws.length = 8) (hw : ∀ x ∈ ws, x = 1 ∨ x = -1) (hf : 0 ≤ f ∧ f < 3)
    (h1 : nmOf fr "pile" = some (.ref p)) (h2 : nmOf fr "pot" = some (.ref pt)) (h3 : nmOf fr "first" = some (.int f tf)) (h4 : nmOf fr "due" = some (.str (figsText k) tu)) (h5 : nmOf fr "depth" = some (.int (place ws k f).2.2 te)) :
    AtLaw [lawT 1] ((121, op) :: rest) fr
      (fun h₀ L s Q => AllBare s.gens ∧ ∀ op' h' tk' gs', Fr h₀ L h' (nmOf fr) → News h₀ L h' ((121, op') :: rest) → TxtOk op' → AllBare gs' → Q .next { s with heap := h', toks := tk', gens := gs' }) := by
  dsimp only [AtLaw, KH, VW, prg]
  k_fill
  intros; rename_i hret
  obtain ⟨hG, hret⟩ := hret
  have hXY : (-200 < (place ws k f).1 ∧ (place ws k f).1 < 200) ∧ (-200 < (place ws k f).2.1 ∧ (place ws k f).2.1 < 200) := ⟨(stN_bound hl hw (Nat.le_refl 8)).1, (stN_bound hl hw (Nat.le_refl 8)).2.1⟩
  have hH := stN_head (k := k) (hd := f) hl hw 8 (Nat.le_refl 8)
  have hRd := readF_place (k := k) (hd := f) hl hw
  have hH' : -10 < (place ws k f).2.2 ∧ (place ws k f).2.2 < 20 := by
    have e : (stN ws k f 8) = place ws k f := rfl
    rw [e] at hH
    lia
  clear hH
  generalize hx : (place ws k f).1 = x at *
  generalize hy : (place ws k f).2.1 = y at *
  generalize hz : (place ws k f).2.2 = z at *
  walk_at "my lit"
  (k_with "call type:str" => refine hold ?_)
  (k_with "call ref" => refine hold ?_)
  k_steps
  dsimp only [Hold]
  have hC := str_call w mean mg mb rest p dx Ts n op od k hp hdx ap' ok hTl hT
  (walk_at "cd"; refine' hC _ _ _ _ _ _ _ _ _ _ _ _ _ _ _ _ _ ?k1 ?k2 ?k3 ?k4 ?k5 ?kK ?kd ?ku ?_; walk_at "cc"; clear hC)
  refine ⟨hG, fun op' t h5 tk5 gs5 F5 N5 o5 g5 => ?_⟩
  generalize hS : figsText k = S at *
  k_steps
  · exfalso
    rename (S != S) = true => hc
    simp at hc
  dsimp only [Hold]
  refine exE2 (told) fun m T hh9 => ?_
  refine anE10 hh9 fun b0 b1 b2 bm bT ok1 hA hC' eX eY => ?_
  clear hh9 told
  subst eX eY
  have hC := fun t t0 t1 t2 => told_call w mean mg mb ((121, op') :: rest) pt n3 P0 P1 P2 sp m T t t0 t1 t2 b0 b1 b2 hsp bm bT ok1 hA hC'
  have N6 := newsAdd N5 (.tail _ hpt)
  (walk_at "cd"; refine' hC _ _ _ _ _ _ _ _ _ _ _ _ _ _ _ _ _ _ _ _ _ ?k1 ?k2 ?k3 ?k4 ?k5 ?kK ?kd ?ku ?_; walk_at "cc"; clear hC)
  rintro R o h6 tk6 F6 N7 l7 ⟨t1, t2, rfl⟩
  clear N6
  k_steps
  dsimp only [Hold]
  have hC := fun t t2 t3 t4 => read_call w mean mg mb ((pt, listOf #[.int P0 v0, .int P1 v1, .int P2 v2] n3) :: (121, op') :: rest) R l vs nn ws (toldX m T) (toldY m T) z f t t2 t3 t4 hi hl hw (by lia) (by lia) (by lia) (by lia)
  have N8 : News _ _ _ ((R, tupObj [.int (toldX m T) t1, .int (toldY m T) t2]) :: (l, listOf vs.toArray nn) :: (pt, listOf #[.int P0 v0, .int P1 v1, .int P2 v2] n3) :: (121, op') :: rest) := newsSub N7 fun q hq => by
    rcases List.mem_cons.mp hq with rfl | hq
    · exact .head _
    · rcases List.mem_cons.mp hq with rfl | hq
      · exact .tail _ (.tail _ (.tail _ hll))
      · exact .tail _ hq
  clear N7
  (walk_at "cd"; refine' hC _ _ _ _ _ _ _ _ _ _ _ _ _ _ _ _ _ _ _ _ _ ?k1 ?k2 ?k3 ?k4 ?k5 ?kK ?kd ?ku ?_; walk_at "cc"; clear hC)
  rw [hRd]
  intro t9 h9 tk9 F9 N9
  k_steps
  exact hret _ _ _ _ F9 (newsSub N9 fun q hq => .tail _ (.tail _ (.tail _ hq))) o5 g5

theorem fresh_T_u0 : True := by
  k_with_none
  w_on
  w_top off
  (k_with "1 my lit" => ((try (conv in (occs := *) lawSt _ => all_goals whnf)); (try (conv in (occs := *) lawT _ => all_goals whnf)); (try (conv in (occs := *) lawU _ => all_goals whnf)); (try (conv in (occs := *) lawIfT => all_goals whnf)); (try (conv in (occs := *) lawIter => all_goals whnf)); (conv in (occs := *) lawScope => all_goals (whnf; dsimp only))))
  (k_with "1 eval Name" => (k_here; k_dflt (refine' nameX_L ?F ?v ?_ ?a ?b ?c; (case F => k_asm); (case a => rfl); (case b => rfl); (case v => first | exact @rfl (Option Value) (some _) | assumption); (case c => decide); k_whole)))
  (k_with "1 eval Name" => (k_here; (with_reducible show wpAny _ _ (eval (Expr.Name _ _) (envX _ _ _ _ _ (lawCl _ _ _ _ _ _ _ _))) _ _ _); (refine' nameX_L (by k_asm) (by assumption) ?_ ?a ?b ?c; (case a => rfl); (case b => rfl); (case c => decide)); (try dsimp only)))
  trivial
theorem refs3 {ps : List Addr} (h : ps.length = 3) : ∃ q0 q1 q2, ps = [q0, q1, q2] := by
  exact list3 h
theorem paintI_bound {dk sp i : Int} {j : Nat} (h : 0 ≤ dk ∧ dk < 32 ∧ 1 ≤ sp ∧ sp ≤ 32) : 0 ≤ paintI dk sp i j ∧ paintI dk sp i j < 64 := by
  unfold paintI; split <;> lia
theorem paint_item {prog : Program} {w : World} {A : Around} {E : Value → Shared → Prop} {s : Shared} {Q : Value → Shared → Prop} {h₀ : Heap} {L : Addr} {news : List (Addr × Obj)}
    {value slice : PySem.Expr} {l q0 q1 q2 : Addr} {n b0 b1 b2 : Nat} {i dk sp : Int} {u a00 a01 a02 a10 a11 a12 a20 a21 a22 : Tok}
    (N : News h₀ L s.heap news) (hl : (l, listOf #[.ref q0, .ref q1, .ref q2] n) ∈ news) (hi0 : 0 ≤ i) (hi3 : i < 3)
    (h0 : (q0, listOf #[.int (paintI dk sp 0 0) a00, .int (paintI dk sp 0 1) a01, .int (paintI dk sp 0 2) a02] b0) ∈ news) (h1 : (q1, listOf #[.int (paintI dk sp 1 0) a10, .int (paintI dk sp 1 1) a11, .int (paintI dk sp 1 2) a12] b1) ∈ news)
    (h2 : (q2, listOf #[.int (paintI dk sp 2 0) a20, .int (paintI dk sp 2 1) a21, .int (paintI dk sp 2 2) a22] b2) ∈ news)
    (h : ∀ q a b c k, (q, listOf #[.int (paintI dk sp i 0) a, .int (paintI dk sp i 1) b, .int (paintI dk sp i 2) c] k) ∈ news → Q (.ref q) s)
    (hs : subscripted slice false (.ref l) (.int i u) = operate [.ref l, .int i u] (getItem (.ref l) (.int i u)) := by with_unfolding_all rfl) (hg : ∀ r, letTemporaryGo value (.ref l) r = pure () := by intro _; with_unfolding_all rfl) :
    wpAny (model prog w) A (subscriptTail value slice (.ref l) (.int i u)) Q E s := by
  have hL : s.heap.IsList l [Value.ref q0, .ref q1, .ref q2].toArray := ⟨_, (N _ hl).1, rfl, n, rfl⟩
  have c : i = 0 ∨ i = 1 ∨ i = 2 := by lia
  rcases c with rfl | rfl | rfl
  · exact item_listL hL (by decide) (by decide) (x := .ref q0) rfl (h q0 _ _ _ _ h0) hs hg
  · exact item_listL hL (by decide) (by decide) (x := .ref q1) rfl (h q1 _ _ _ _ h1) hs hg
  · exact item_listL hL (by decide) (by decide) (x := .ref q2) rfl (h q2 _ _ _ _ h2) hs hg
theorem pot_item {P0 P1 P2 : Int} {v0 v1 v2 : Tok} {i : Nat} {x : Value} (h : ([.int P0 v0, .int P1 v1, .int P2 v2] : List Value)[i]? = some x) : i < 3 ∧ ∃ u, x = .int (if i = 0 then P0 else if i = 1 then P1 else P2) u := by
  exact ⟨PyProof.Rows.place_lt h, at3 (P := fun i x => ∃ u, x = Value.int (if i = 0 then P0 else if i = 1 then P1 else P2) u) ⟨_, rfl⟩ ⟨_, rfl⟩ ⟨_, rfl⟩ h⟩
theorem pot_items {P0 P1 P2 c0 c1 c2 : Int} {ys : List Value} (hl : ys.length = 3) (h : ∀ (i : Nat) y, ys[i]? = some y → ∃ t, y = Value.int ((if i = 0 then P0 else if i = 1 then P1 else P2) + (if i = 0 then c0 else if i = 1 then c1 else c2)) t) :
    ∃ t0 t1 t2, ys = [.int (P0 + c0) t0, .int (P1 + c1) t1, .int (P2 + c2) t2] := by
  obtain ⟨y0, y1, y2, rfl⟩ := list3 hl
  obtain ⟨t0, e0⟩ := h 0 y0 rfl
  obtain ⟨t1, e1⟩ := h 1 y1 rfl
  obtain ⟨t2, e2⟩ := h 2 y2 rfl
  exact ⟨t0, t1, t2, by rw [e0, e1, e2]; rfl⟩
theorem turnU0 (rest news0 nwp : Led) (fr : LF) (pt pa : Addr) (ys : List Value) (n3 : Nat) (P0 P1 P2 dk sp z : Int) (v0 v1 v2 te : Tok)
    (hpt : (pt, listOf #[.int P0 v0, .int P1 v1, .int P2 v2] n3) ∈ rest) (hpa : (pa, LCg.lst ys) ∈ rest) (hJ : PaintJ dk sp news0 3 ys nwp) (hsub : ∀ q ∈ nwp, q ∈ rest)
    (hb : 0 ≤ P0 ∧ P0 < 16000 ∧ 0 ≤ P1 ∧ P1 < 16000 ∧ 0 ≤ P2 ∧ P2 < 16000) (hdk : 0 ≤ dk ∧ dk < 32 ∧ 1 ≤ sp ∧ sp ≤ 32) (hz : -1000 < z ∧ z < 1000)
    (h1 : nmOf fr "pot" = some (.ref pt)) (h2 : nmOf fr "paints" = some (.ref pa)) (h3 : nmOf fr "depth" = some (.int z te)) :
    AtLaw [lawU 0] rest fr
      (fun h₀ L s Q => ∀ D a0 a1 a2 h' tk', Fr h₀ L h' (nmOf (("pot", .ref D) :: fr)) → News h₀ L h' ((D, LCg.lst [.int (P0 + paintI dk sp (z.fmod 3) 0) a0, .int (P1 + paintI dk sp (z.fmod 3) 1) a1, .int (P2 + paintI dk sp (z.fmod 3) 2) a2]) :: rest) → (∀ q ∈ rest, q.1 ≠ D) → Q .next { s with heap := h', toks := tk' }) := by
  refine Exists.elim hJ fun ps hJ9 => ?_
  have eys := hJ9.2.1
  refine exE3 (refs3 hJ9.1) fun q0 q1 q2 eps => ?_
  have hp := hJ9.2.2.1
  clear hJ9 hJ
  subst eps eys
  refine exE4 (hp 0 (by decide)).1 fun a00 a01 a02 b0 m0 => ?_
  refine exE4 (hp 1 (by decide)).1 fun a10 a11 a12 b1 m1 => ?_
  refine exE4 (hp 2 (by decide)).1 fun a20 a21 a22 b2 m2 => ?_
  have e0 := hsub _ m0
  have e1 := hsub _ m1
  have e2 := hsub _ m2
  clear hp m0 m1 m2 hsub
  have hz3 : 0 ≤ z.fmod 3 ∧ z.fmod 3 < 3 := by have := fmod3_cases z; lia
  have hpa' : (pa, listOf #[.ref q0, .ref q1, .ref q2] 3) ∈ rest := hpa
  clear hpa
  dsimp only [AtLaw, KH, VW, prg]
  k_fill
  intros; rename_i hret
  walk_at "my lit"
  refine' wpAny_execs_cons (Assign_ListComp_T (by assumption) rfl (by with_unfolding_all rfl) ?c1 ?c2 ?c3 ?c4 ?c5 ?c6 ?c7 (by with_unfolding_all rfl) (by rfl) ?_ ?hs)
  case c1 => with_unfolding_all rfl
  case c2 => decide
  case c3 => rfl
  case c4 => decide
  case c5 => rfl
  case c6 => rfl
  case c7 => decide
  case hs => intro x; with_unfolding_all rfl
  (k_with "subscriptTail" => refine hold ?_)
  (k_with "call type:zip" => refine hold ?_)
  k_steps
  rename News _ _ _ _ => N1
  refine paint_item N1 hpa' hz3.1 hz3.2 e0 e1 e2 ?_
  intro q a b c kk hq
  k_steps
  dsimp only [Hold]
  generalize hc0 : paintI dk sp (z.fmod 3) 0 = c0 at *
  generalize hc1 : paintI dk sp (z.fmod 3) 1 = c1 at *
  generalize hc2 : paintI dk sp (z.fmod 3) 2 = c2 at *
  have hcb : (0 ≤ c0 ∧ c0 < 64) ∧ (0 ≤ c1 ∧ c1 < 64) ∧ (0 ≤ c2 ∧ c2 < 64) := by
    rw [← hc0, ← hc1, ← hc2]
    exact ⟨paintI_bound hdk, paintI_bound hdk, paintI_bound hdk⟩
  refine zip_src (xs := [.int P0 v0, .int P1 v1, .int P2 v2]) (ys := [.int c0 a, .int c1 b, .int c2 c]) (El := fun i y => ∃ t, y = .int ((if i = 0 then P0 else if i = 1 then P1 else P2) + (if i = 0 then c0 else if i = 1 then c1 else c2)) t) rfl (by k_asm) N1 hpt rfl rfl hq rfl rfl (by rw [sizeLine_eq]; show 3 ≤ 16777216; decide) ?_ ?_
  · intro i x y I o1 o2 o3 o4 o5 oC C D m₂ zs h tk E' hx hy hC h1 h2 F' N' hD hDC
    obtain ⟨hi3, u, rfl⟩ := pot_item hx
    obtain ⟨_, u', rfl⟩ := pot_item hy
    have hb1 : 0 ≤ (if i = 0 then P0 else if i = 1 then P1 else P2) ∧ (if i = 0 then P0 else if i = 1 then P1 else P2) < 16000 := by split <;> (try split) <;> lia
    have hb2 : 0 ≤ (if i = 0 then c0 else if i = 1 then c1 else c2) ∧ (if i = 0 then c0 else if i = 1 then c1 else c2) < 64 := by split <;> (try split) <;> lia
    generalize (if i = 0 then P0 else if i = 1 then P1 else P2) = X at *
    generalize (if i = 0 then c0 else if i = 1 then c1 else c2) = Y at *
    k_steps
    exact ⟨_, _, rfl, by assumption, by assumption, _, rfl⟩
  · rintro s₂ D zs ⟨h9, rfl⟩ hl9 hel9 hD9 h tk F N
    refine exE3 (pot_items hl9 hel9) fun t0 t1 t2 ez9 => ?_
    subst ez9
    exact wpAny_execs_nil (hret _ _ _ _ _ _ (frPush F) N (fun q hq => Nat.ne_of_lt (hD9 q hq)))

theorem fresh_T_u1 : True := by
  k_with_none
  w_on
  w_top off
  (k_with "1 my lit" => ((try (conv in (occs := *) lawSt _ => all_goals whnf)); (try (conv in (occs := *) lawT _ => all_goals whnf)); (try (conv in (occs := *) lawU _ => all_goals whnf)); (try (conv in (occs := *) lawIfT => all_goals whnf)); (try (conv in (occs := *) lawIter => all_goals whnf)); (conv in (occs := *) lawScope => all_goals (whnf; dsimp only))))
  (k_with "1 cd" => (dsimp only [Mine.Calls, Mine.Ret, Mine.RetNew, Mine.KH, Mine.VW, Mine.prg] at hC))
  (k_with "1 cc" => ((case k1 => k_asm); (case k2 => k_asm); (case k3 => k_asm); (case k4 => k_asm); (case k5 => k_asm); (case kK => first | exact rfl | assumption); (case kd => ktr_room); (case ku => ktr_units)))
  (k_with "1 eval Name" => (k_here; k_dflt (refine' nameX_L ?F ?v ?_ ?a ?b ?c; (case F => k_asm); (case a => rfl); (case b => rfl); (case v => first | exact @rfl (Option Value) (some _) | assumption); (case c => decide); k_whole)))
  (k_with "1 eval Name" => (k_here; (with_reducible show wpAny _ _ (eval (Expr.Name _ _) (envX _ _ _ _ _ (lawCl _ _ _ _ _ _ _ _))) _ _ _); (refine' nameX_L (by k_asm) (by assumption) ?_ ?a ?b ?c; (case a => rfl); (case b => rfl); (case c => decide)); (try dsimp only)))
  trivial
theorem size_noAny {hash : Int} {tk : Tok} {v : Value} : shadowIn (some (sizeD hash tk v)) "append" = some false ∧ shadowIn (some (sizeD hash tk v)) "pop" = some false ∧ shadowIn (some (sizeD hash tk v)) "push" = some false ∧ shadowIn (some (sizeD hash tk v)) "part_count" = some false := ⟨rfl, rfl, rfl, rfl⟩
theorem turnU1 (rest : Led) (fr : LF) (p dx l T0 : Addr) (its : List Value) (n : Nat) (hash : Int) (tkd tkv : Tok) (ff : Int) (ow : Obj) (vs : List Value) (nn : Nat) (ws : List Int) (f f' : Str) (LL : List Addr) (cb : UInt8)
    (hdx : (dx, sizeD hash tkd (.int ff tkv)) ∈ rest) (ap' : ∀ q ∈ rest, q.1 ≠ p) (hz : its.length ≤ 20) (hl0 : (l, listOf vs.toArray nn) ∈ rest) (hf0 : (f = Str.ofString "0" ∧ f' = Str.ofString "1") ∨ (f = Str.ofString "1" ∧ f' = Str.ofString "2"))
    (hTs : LL.length ≤ 7) (hT0 : IsP rest T0 f) (hTT : ∀ T ∈ LL, IsP rest T (Str.ofString "2")) (haw : (aw, ow) ∈ rest) (hdw : ow.data = .cell (some (.ref l)))
    (hi : IntsAre vs ws) (hl : ws.length = 8) (hw : ∀ x ∈ ws, x = 1 ∨ x = -1) (hcb : (if ((f == Str.ofString "0") == (ws.getD LL.length 0 == 1)) = true then (#[40] : Array UInt8) else #[41]) = #[cb])
    (h1 : nmOf fr "pile" = some (.ref p)) :
    AtLaw [lawU 1] ((p, accObj dx (its ++ refs (T0 :: LL)) n) :: rest) fr
      (fun h₀ L s Q => ∀ T1 Zs n' rest' t t' h' tk', Fr h₀ L h' (nmOf (("crease", .bytes #[cb] t') :: ("level", .int (LL.length : Int) t) :: fr)) → News h₀ L h' ((p, accObj dx (its ++ refs (T1 :: Zs)) n') :: rest') →
        IsP rest' T1 f' → Zs.length = LL.length → (∀ T ∈ Zs, IsP rest' T (Str.ofString "0")) → (∀ q ∈ rest, q ∈ rest') → (∀ q ∈ rest', q.1 ≠ p) → Q .next { s with heap := h', toks := tk' }) := by
  dsimp only [AtLaw, KH, VW, prg]
  k_fill
  intros; rename_i hret
  walk_at "my lit"
  (k_with "call ref" => refine hold ?_)
  k_steps
  dsimp only [Hold]
  have hC := crease_call w mean mg mb rest p dx l T0 its n (sizeD hash tkd (.int ff tkv)) vs nn ws f f' LL hdx size_noAny.1 size_noAny.2.1 size_noAny.2.2.1 size_noAny.2.2.2 ap' hz hl0 hf0 hTs hT0 hTT hi hl hw
  (walk_at "cd"; refine' hC _ _ _ _ _ _ _ _ _ _ _ _ _ _ _ _ _ ?k1 ?k2 ?k3 ?k4 ?k5 ?kK ?kd ?ku ?_; walk_at "cc"; clear hC)
  rw [hcb]
  intro R T1 Zs n' rest' t t' h5 tk5 F5 N5 e1 e2 e3 e4 e5
  k_steps
  rename Fr _ _ _ _ => F9
  rename News _ _ _ _ => N9
  exact hret T1 Zs n' rest' _ _ _ _ (frPush2 F9) (newsSub N9 fun q hq => .tail _ hq) e1.1 e2 (fun T h => (e3 T h).1) e4 e5

theorem fresh_T_u2 : True := by
  k_with_none
  w_on
  w_top off
  (k_with "1 my lit" => ((try (conv in (occs := *) lawSt _ => all_goals whnf)); (try (conv in (occs := *) lawT _ => all_goals whnf)); (try (conv in (occs := *) lawU _ => all_goals whnf)); (try (conv in (occs := *) lawIfT => all_goals whnf)); (try (conv in (occs := *) lawIter => all_goals whnf)); (conv in (occs := *) lawScope => all_goals (whnf; dsimp only))))
  (k_with "1 cd" => (dsimp only [Mine.Calls, Mine.Ret, Mine.RetNew, Mine.KH, Mine.VW, Mine.prg] at hC))
  (k_with "1 cc" => ((case k1 => k_asm); (case k2 => k_asm); (case k3 => k_asm); (case k4 => k_asm); (case k5 => k_asm); (case kK => first | exact rfl | assumption); (case kd => ktr_room); (case ku => ktr_units)))
  (k_with "1 eval Name" => (k_here; k_dflt (refine' nameX_L ?F ?v ?_ ?a ?b ?c; (case F => k_asm); (case a => rfl); (case b => rfl); (case v => first | exact @rfl (Option Value) (some _) | assumption); (case c => decide); k_whole)))
  (k_with "1 subscriptTail Name BinOp ref int" => ((with_reducible show wpAny _ _ (subscriptTail _ _ (Value.ref _) (Value.int (Int.fmod _ 4) _)) _ _ _); (refine' Mine.lab_item ?k2 ?k3 ?k7 ?k8 ?_; (case k2 => k_asm); (case k3 => k_mem); (case k7 => exact (Mine.fmod4 _).1); (case k8 => exact (Mine.fmod4 _).2)); intro t91; (try dsimp only)))
  (k_with "1 binaryOp Add bytes bytes" => ((with_reducible show wpAny _ _ (binaryOp Operator.Add (Value.bytes _ _) (Value.bytes _ _)) _ _ _); (refine KBy.add_bytes (by k_extra "my size") ?_); intro t9' k9'; (try dsimp only)))
  (k_with "1 eval Name" => (k_here; (with_reducible show wpAny _ _ (eval (Expr.Name _ _) (envX _ _ _ _ _ (lawCl _ _ _ _ _ _ _ _))) _ _ _); (refine' nameX_L (by k_asm) (by assumption) ?_ ?a ?b ?c; (case a => rfl); (case b => rfl); (case c => decide)); (try dsimp only)))
  trivial
theorem turnU2 (rest : Led) (fr : LF) (lb : Addr) (u0 u1 u2 u3 : Tok) (n2 : Nat) (lv : Nat) (z : Int) (cb : UInt8) (tv tz tc : Tok)
    (hlb : (lb, listOf #[.bytes l0 u0, .bytes l1 u1, .bytes l2 u2, .bytes l3 u3] n2) ∈ rest) (hcb : cb ≠ 34) (hv : lv ≤ 7)
    (h1 : nmOf fr "labels" = some (.ref lb)) (h2 : nmOf fr "level" = some (.int (lv : Int) tv)) (h3 : nmOf fr "crease" = some (.bytes #[cb] tc)) (h4 : nmOf fr "depth" = some (.int z tz)) :
    AtLaw [lawU 2] rest fr
      (fun h₀ L s Q => ∀ t h' tk', Fr h₀ L h' (nmOf (("depth", .int (z + (([cb] : List UInt8).count 40 : Nat) - (([cb] : List UInt8).count 41 : Nat)) t) :: fr)) → News h₀ L h' rest → Q .next { s with heap := h', toks := tk' }) := by
  dsimp only [AtLaw, KH, VW, prg]
  k_fill
  intros; rename_i hret
  walk_at "my lit"
  have hB := labB_size (b0 := l0) (b1 := l1) (b2 := l2) (b3 := l3) (by decide) (by decide) (by decide) (by decide) ((lv : Int).fmod 4)
  have hsz : (labB l0 l1 l2 l3 ((lv : Int).fmod 4)).size + (#[cb] : Array UInt8).size ≤ 11 := by have : (#[cb] : Array UInt8).size = 1 := rfl; lia
  have hs := (lab_strip lv).app (Strip.sign hcb .nil)
  (k_with "my size" => ((try simp only [Array.size_append, Array.size_empty]); lia))
  (k_with "call ref" => refine hold ?_)
  k_steps
  dsimp only [Hold]
  have hC := fun t t2 => depth_call w mean mg mb rest (labB l0 l1 l2 l3 ((lv : Int).fmod 4) ++ #[cb]) _ z t t2 (by rw [Array.size_append]; have : (#[cb] : Array UInt8).size = 1 := rfl; lia) (by rw [Array.toList_append]; exact hs)
  (walk_at "cd"; refine' hC _ _ _ _ _ _ _ _ _ _ _ _ _ _ _ _ _ _ _ ?k1 ?k2 ?k3 ?k4 ?k5 ?kK ?kd ?ku ?_; walk_at "cc"; clear hC)
  intro t9 h9 tk9 F9 N9
  k_steps
  exact hret _ _ _ (frPush (by assumption)) (by assumption)

theorem fresh_T_u3 : True := by
  k_with_none
  w_on
  w_top off
  (k_with "1 my lit" => ((try (conv in (occs := *) lawSt _ => all_goals whnf)); (try (conv in (occs := *) lawT _ => all_goals whnf)); (try (conv in (occs := *) lawU _ => all_goals whnf)); (try (conv in (occs := *) lawIfT => all_goals whnf)); (try (conv in (occs := *) lawIter => all_goals whnf)); (conv in (occs := *) lawScope => all_goals (whnf; dsimp only))))
  (k_with "1 eval Name" => (k_here; k_dflt (refine' nameX_L ?F ?v ?_ ?a ?b ?c; (case F => k_asm); (case a => rfl); (case b => rfl); (case v => first | exact @rfl (Option Value) (some _) | assumption); (case c => decide); k_whole)))
  (k_with "1 binaryOp Add bytes bytes" => ((with_reducible show wpAny _ _ (binaryOp Operator.Add (Value.bytes _ _) (Value.bytes _ _)) _ _ _); (refine KBy.add_bytes (by k_extra "my size") ?_); intro t9' k9'; (try dsimp only)))
  (k_with "1 eval Name" => (k_here; (with_reducible show wpAny _ _ (eval (Expr.Name _ _) (envX _ _ _ _ _ (lawCl _ _ _ _ _ _ _ _))) _ _ _); (refine' nameX_L (by k_asm) (by assumption) ?_ ?a ?b ?c; (case a => rfl); (case b => rfl); (case c => decide)); (try dsimp only)))
  trivial
theorem turnU3 (rest : Led) (fr : LF) (R : Array UInt8) (cb : UInt8) (tr tc : Tok) (hR : R.size ≤ 20)
    (h1 : nmOf fr "row" = some (.bytes R tr)) (h3 : nmOf fr "crease" = some (.bytes #[cb] tc)) :
    AtLaw [lawU 3] rest fr
      (fun h₀ L s Q => ∀ t h' tk', Fr h₀ L h' (nmOf (("row", .bytes (R ++ #[cb]) t) :: fr)) → News h₀ L h' rest → Q .next { s with heap := h', toks := tk' }) := by
  dsimp only [AtLaw, KH, VW, prg]
  k_fill
  intros; rename_i hret
  walk_at "my lit"
  have hsz : R.size + (#[cb] : Array UInt8).size ≤ 21 := by have : (#[cb] : Array UInt8).size = 1 := rfl; lia
  (k_with "my size" => ((try simp only [Array.size_append, Array.size_empty]); lia))
  k_steps
  exact hret _ _ _ (frPush (by assumption)) (by assumption)

noncomputable def crB (ws : List Int) (K : Int) : UInt8 := if netS ws (K + 1) 8 = netS ws K 8 + 1 then 40 else 41
theorem digS0 : digS 0 = Str.ofString "0" := by decide
theorem digS1 : digS 1 = Str.ofString "1" := by decide
theorem digS2 : digS 2 = Str.ofString "2" := by decide
theorem net_step {ws : List Int} {K f : Int} {t : Nat} (hl : ws.length = 8) (hw : ∀ x ∈ ws, x = 1 ∨ x = -1) (ht : t < 8) (low : ∀ l, l < t → fig K l = 2 ∧ fig (K + 1) l = 0) (hf : fig K t = f) (hf1 : fig (K + 1) t = f + 1) (hf0 : f = 0 ∨ f = 1) (hi : ∀ l, t < l → fig (K + 1) l = fig K l) :
    netS ws (K + 1) 8 = netS ws K 8 + if f = 0 then ws.getD t 0 else -ws.getD t 0 := by
  have h := (place_succ (hd := 0) hl hw ht low hf hf1 hf0 hi).2.2
  rw [place_head, place_head] at h
  lia
theorem crB_of {ws : List Int} {K f : Int} {t : Nat} (hl : ws.length = 8) (hw : ∀ x ∈ ws, x = 1 ∨ x = -1) (ht : t < 8) (low : ∀ l, l < t → fig K l = 2 ∧ fig (K + 1) l = 0) (hf : fig K t = f) (hf1 : fig (K + 1) t = f + 1) (hf0 : f = 0 ∨ f = 1) (hi : ∀ l, t < l → fig (K + 1) l = fig K l) :
    crB ws K = (if (f = 0) = (ws.getD t 0 = 1) then 40 else 41) ∧ netS ws (K + 1) 8 = netS ws K 8 + ((([crB ws K] : List UInt8).count 40 : Nat) : Int) - ((([crB ws K] : List UInt8).count 41 : Nat) : Int) := by
  have h := net_step hl hw ht low hf hf1 hf0 hi
  unfold crB
  rcases way_pm hl hw ht with e | e <;> rcases hf0 with rfl | rfl <;> rw [e] at h ⊢ <;> simp at h ⊢ <;> (try rw [if_pos h]) <;> (try rw [if_neg (by lia)]) <;> (try (constructor <;> simp)) <;> (try simp) <;> lia
theorem crB_spec {ws : List Int} {K : Int} (hl : ws.length = 8) (hw : ∀ x ∈ ws, x = 1 ∨ x = -1) (h0 : 0 ≤ K) (h1 : K < 6560) : ∃ (t : Nat) (f : Int), t < 8 ∧ (f = 0 ∨ f = 1) ∧ (∀ l, l < t → fig K l = 2 ∧ fig (K + 1) l = 0) ∧ fig K t = f ∧ fig (K + 1) t = f + 1 ∧ (∀ l, t < l → fig (K + 1) l = fig K l) ∧
    (if ((digS f == Str.ofString "0") == (ws.getD t 0 == 1)) = true then (#[40] : Array UInt8) else #[41]) = #[crB ws K] ∧ netS ws (K + 1) 8 = netS ws K 8 + ((([crB ws K] : List UInt8).count 40 : Nat) : Int) - ((([crB ws K] : List UInt8).count 41 : Nat) : Int) := by
  obtain ⟨t, ht, low, hf, hf1, hi⟩ := fig_carry 8 K (fig_notwo h0 h1)
  have c := crB_of hl hw ht low rfl hf1 hf hi
  refine ⟨t, fig K t, ht, hf, low, rfl, hf1, hi, ?_, c.2⟩
  rw [c.1]
  rcases way_pm hl hw ht with e | e <;> rcases hf with e' | e' <;> rw [e, e']
  · rfl
  · rfl
  · rfl
  · rfl
theorem fig_compl : ∀ (n : Nat) (K : Int), 0 ≤ K → K < 3 ^ n → ∀ l, l < n → fig (3 ^ n - 1 - K) l = 2 - fig K l
  | 0, _, _, _, l, h => by lia
  | n + 1, K, h0, h1, l, hl => by
    have e3 : (3 : Int) ^ (n + 1) = 3 * 3 ^ n := by rw [Int.pow_succ, Int.mul_comm]
    have hp : (0 : Int) < 3 ^ n := Int.pow_pos (by decide)
    have ih := fig_compl n (K / 3) (by lia) (by lia)
    rw [e3] at h1 ⊢
    generalize (3 : Int) ^ n = N at *
    cases l with
    | zero => rw [fig_zero, fig_zero]; lia
    | succ l =>
      rw [fig_succ, fig_succ]
      have e : (3 * N - 1 - K) / 3 = N - 1 - K / 3 := by lia
      rw [e]
      exact ih l (by lia)
theorem crB_mirror {ws : List Int} {K : Int} (hl : ws.length = 8) (hw : ∀ x ∈ ws, x = 1 ∨ x = -1) (h0 : 0 ≤ K) (h1 : K < 6560) : crB ws (6559 - K) = 81 - crB ws K := by
  obtain ⟨t, ht, low, hf, hf1, hi⟩ := fig_carry 8 K (fig_notwo h0 h1)
  have c := (crB_of hl hw ht low rfl hf1 hf hi).1
  have m1 : ∀ l, l < 8 → fig (6559 - K) l = 2 - fig (K + 1) l := fun l hl => by
    have := fig_compl 8 (K + 1) (by lia) (by simp; lia) l hl
    simp only [show (3 : Int) ^ 8 - 1 - (K + 1) = 6559 - K by simp; lia] at this
    exact this
  have m2 : ∀ l, l < 8 → fig (6559 - K + 1) l = 2 - fig K l := fun l hl => by
    have := fig_compl 8 K (by lia) (by simp; lia) l hl
    simp only [show (3 : Int) ^ 8 - 1 - K = 6559 - K + 1 by simp; lia] at this
    exact this
  obtain ⟨t', ht', low', hf', hf1', hi'⟩ := fig_carry 8 (6559 - K) (fig_notwo (by lia) (by lia))
  have et : t' = t := by
    rcases Nat.lt_trichotomy t' t with h | h | h
    · have a := m1 t' ht'
      have b := (low t' h).2
      rcases hf' with e | e <;> lia
    · exact h
    · have a := m1 t ht
      have b := (low' t h).1
      rcases hf with e | e <;> lia
  subst et
  have c' := (crB_of hl hw ht' low' rfl hf1' hf' hi').1
  rw [c, c', m1 _ ht', hf1]
  rcases way_pm hl hw ht' with e | e <;> rcases hf with e' | e' <;> rw [e, e'] <;> decide

theorem gd_lt {a : List Addr} {x : Addr} {l : List Addr} {j : Nat} (h : j < a.length) : (a ++ x :: l).getD j 0 = a.getD j 0 := by
  rw [List.getD_eq_getElem?_getD, List.getElem?_append_left h, ← List.getD_eq_getElem?_getD]
theorem gd_at {a : List Addr} {x : Addr} {l : List Addr} : (a ++ x :: l).getD a.length 0 = x := by
  rw [List.getD_eq_getElem?_getD, List.getElem?_append_right (Nat.le_refl _), Nat.sub_self]; rfl
theorem gd_gt {a : List Addr} {x : Addr} {l : List Addr} {i : Nat} : (a ++ x :: l).getD (a.length + 1 + i) 0 = l.getD i 0 := by
  rw [List.getD_eq_getElem?_getD, Nat.add_assoc, List.getElem?_append_right (Nat.le_add_right _ _), Nat.add_sub_cancel_left, Nat.add_comm, List.getElem?_cons_succ, ← List.getD_eq_getElem?_getD]
theorem gd_mem {l : List Addr} {i : Nat} (h : i < l.length) : l.getD i 0 ∈ l := by
  rw [List.getD_eq_getElem?_getD, List.getElem?_eq_getElem h]; exact List.getElem_mem h
theorem mem_gd {l : List Addr} {T : Addr} (h : T ∈ l) : ∃ i, i < l.length ∧ l.getD i 0 = T := by
  obtain ⟨i, hi, rfl⟩ := List.mem_iff_getElem.mp h
  exact ⟨i, hi, by rw [List.getD_eq_getElem?_getD, List.getElem?_eq_getElem hi]; rfl⟩
theorem list_part : ∀ (Ts : List Addr) (a t : Nat), Ts.length = a + 1 + t → ∃ its T0 LL, Ts = its ++ T0 :: LL ∧ its.length = a ∧ LL.length = t
  | [], a, t, h => by rw [Nat.add_right_comm] at h; cases h
  | x :: l, 0, t, h => ⟨[], x, l, rfl, rfl, by rw [List.length_cons, Nat.zero_add, Nat.add_comm 1] at h; exact Nat.succ.inj h⟩
  | x :: l, a + 1, t, h => by
    rw [List.length_cons, Nat.add_right_comm a 1 1, Nat.add_right_comm (a + 1) 1 t] at h
    obtain ⟨its, T0, LL, e, h1, h2⟩ := list_part l a t (Nat.succ.inj h)
    exact ⟨x :: its, T0, LL, by rw [e]; rfl, by rw [List.length_cons, h1], h2⟩
theorem pile_split {rest : Led} {Ts : List Addr} {K fv : Int} {t : Nat} (hTl : Ts.length = 8) (hT : ∀ i, i < 8 → IsP rest (Ts.getD i 0) (digS (fig K (7 - i)))) (ht : t < 8) (low : ∀ l, l < t → fig K l = 2 ∧ fig (K + 1) l = 0) (hf : fig K t = fv) (hf1 : fig (K + 1) t = fv + 1) (high : ∀ l, t < l → fig (K + 1) l = fig K l) :
    ∃ its T0 LL, Ts = its ++ T0 :: LL ∧ LL.length = t ∧ IsP rest T0 (digS fv) ∧ (∀ T ∈ LL, IsP rest T (Str.ofString "2")) ∧ its.length < 8 ∧ ∀ (G : Addr → Prop) (rest' : Led) (T1 : Addr) (Zs : List Addr), (∀ q ∈ rest, q ∈ rest') → IsP rest' T1 (digS (fv + 1)) → G T1 → Zs.length = t → (∀ T ∈ Zs, IsP rest' T (Str.ofString "0") ∧ G T) →
      (its ++ T1 :: Zs).length = 8 ∧ ∀ j, j < 8 → IsP rest' ((its ++ T1 :: Zs).getD j 0) (digS (fig (K + 1) (7 - j))) ∧ ((its ++ T1 :: Zs).getD j 0 = Ts.getD j 0 ∨ G ((its ++ T1 :: Zs).getD j 0)) := by
  obtain ⟨a, ha⟩ : ∃ a, a + t = 7 := ⟨7 - t, Nat.sub_add_cancel (Nat.le_of_lt_succ ht)⟩
  have h8 : a + 1 + t = 8 := by rw [Nat.add_right_comm, ha]
  obtain ⟨its, T0, LL, rfl, rfl, rfl⟩ := list_part Ts a t (by rw [hTl, h8])
  clear hTl
  generalize hn : its.length = n at *
  have e7 : 7 - n = LL.length := by rw [← ha, Nat.add_sub_cancel_left]
  have hn8 : n < 8 := Nat.lt_of_le_of_lt (Nat.le_add_right n LL.length) (by rw [ha]; decide)
  have eG : ∀ i, i < LL.length → n + 1 + i < 8 ∧ 7 - (n + 1 + i) < LL.length := fun i hi => by lia
  refine ⟨its, T0, LL, rfl, rfl, ?_, fun T hm => ?_, by rw [hn]; exact hn8, fun G rest' T1 Zs hs h1 g1 hz h2 => ⟨?_, fun j hj => ?_⟩⟩
  · have h := hT n hn8
    rwa [← hn, gd_at, hn, e7, hf] at h
  · obtain ⟨i, hi, rfl⟩ := mem_gd hm
    have h := hT (n + 1 + i) (eG i hi).1
    rwa [← hn, gd_gt, hn, (low _ (eG i hi).2).1, digS2] at h
  · rw [List.length_append, List.length_cons, hn, hz, ← h8, Nat.add_assoc, Nat.add_comm 1]
  · rcases Nat.lt_trichotomy j n with h | h | h
    · have h' := hT j hj
      rw [gd_lt (by rw [hn]; exact h)] at h' ⊢
      rw [gd_lt (by rw [hn]; exact h), high _ (by lia)]
      exact ⟨h'.mono hs, .inl rfl⟩
    · subst h
      rw [← hn, gd_at, hn, e7, hf1]
      exact ⟨h1, .inr g1⟩
    · obtain ⟨i, rfl⟩ := Nat.exists_eq_add_of_le (show n + 1 ≤ j from h)
      have hi : i < LL.length := by lia
      rw [← hn, gd_gt, hn, (low _ (eG i hi).2).2, digS0]
      have h3 := h2 _ (gd_mem (by rw [hz]; exact hi))
      exact ⟨h3.1, .inr h3.2⟩

section
variable {M : Model} {A : Around} {E : Value → Shared → Prop} {s : Shared} {env : Env}
theorem seqA {st : Stmt} {rest : List Stmt} {Q : Flow → Shared → Prop} (h : wpAny M A (execs [st] env) (fun f s' => match f with | .next => wpAny M A (execs rest env) Q E s' | f => Q f s') E s) : wpAny M A (execs (st :: rest) env) Q E s := fun Γ p hΓ => by
  have h1 := h Γ p hΓ
  rw [execs_cons, Sem.wp_bind'] at h1 ⊢
  refine Sem.wp_mono M Γ _ (fun f p' s' h' => ?_) (fun _ _ _ h' => h') _ _ h1
  cases f with
  | next => exact h' Γ p' hΓ
  | brk => exact h'
  | cont => exact h'
  | ret v => exact h'
theorem seqC {st : Stmt} {rest : List Stmt} {Q : Flow → Shared → Prop} (h : wpAny M A (execs [st] env) (fun f s' => match f with | .next => wpC M A (execs rest env) Q E s' | f => Q f s') E s) : wpC M A (execs (st :: rest) env) Q E s := fun Γ p hΓ hC => by
  have h1 := h Γ p hΓ
  rw [execs_cons, Sem.wp_bind'] at h1 ⊢
  refine Sem.wp_mono M Γ _ (fun f p' s' h' => ?_) (fun _ _ _ h' => h') _ _ h1
  cases f with
  | next => exact h' Γ p' hΓ hC
  | brk => exact h'
  | cont => exact h'
  | ret v => exact h'
theorem seqCC {st : Stmt} {rest : List Stmt} {Q : Flow → Shared → Prop} (h : wpC M A (execs [st] env) (fun f s' => match f with | .next => wpC M A (execs rest env) Q E s' | f => Q f s') E s) : wpC M A (execs (st :: rest) env) Q E s := fun Γ p hΓ hC => by
  have h1 := h Γ p hΓ hC
  rw [execs_cons, Sem.wp_bind'] at h1 ⊢
  refine Sem.wp_mono M Γ _ (fun f p' s' h' => ?_) (fun _ _ _ h' => h') _ _ h1
  cases f with
  | next => exact h' Γ p' hΓ hC
  | brk => exact h'
  | cont => exact h'
  | ret v => exact h'
end

theorem fresh_T_t3 : True := by
  k_with_none
  w_on
  w_top off
  (k_with "1 my lit" => ((try (conv in (occs := *) lawSt _ => all_goals whnf)); (try (conv in (occs := *) lawT _ => all_goals whnf)); (try (conv in (occs := *) lawU _ => all_goals whnf)); (try (conv in (occs := *) lawIfT => all_goals whnf)); (try (conv in (occs := *) lawIter => all_goals whnf)); (conv in (occs := *) lawScope => all_goals (whnf; dsimp only))))
  (k_with "1 eval Name" => (k_here; k_dflt (refine' nameX_L ?F ?v ?_ ?a ?b ?c; (case F => k_asm); (case a => rfl); (case b => rfl); (case v => first | exact @rfl (Option Value) (some _) | assumption); (case c => decide); k_whole)))
  (k_with "1 eval Name" => (k_here; (with_reducible show wpAny _ _ (eval (Expr.Name _ _) (envX _ _ _ _ _ (lawCl _ _ _ _ _ _ _ _))) _ _ _); (refine' nameX_L (by k_asm) (by assumption) ?_ ?a ?b ?c; (case a => rfl); (case b => rfl); (case c => decide)); (try dsimp only)))
  trivial
theorem paint_step {sp dk P0 P1 P2 x y z : Int} (e0 : P0 = P2 + sp * x) (e1 : P1 = P2 + sp * y) :
    P0 + paintI dk sp (z.fmod 3) 0 = P2 + paintI dk sp (z.fmod 3) 2 + sp * (x + uX (z.fmod 3)) ∧ P1 + paintI dk sp (z.fmod 3) 1 = P2 + paintI dk sp (z.fmod 3) 2 + sp * (y + uY (z.fmod 3)) := by
  rcases fmod3_cases z with h | h | h <;> rw [h] <;> simp [paintI, uX, uY, e0, e1, Int.mul_add] <;> lia
noncomputable def IfEnd (c : Prop) (h₀ : Heap) (L : Addr) (m : Nm) (news : Led) (s : Shared) (b : Bool) (s' : Shared) : Prop := ((b = true ∧ c) ∨ (b = false ∧ ¬ c)) ∧ ∃ h' tk', s' = { s with heap := h', toks := tk' } ∧ Fr h₀ L h' m ∧ News h₀ L h' news
theorem turn3 (rest news0 nwp : Led) (fr : LF) (p dx l lb pt pa : Addr) (ys : List Value) (Ts : List Addr) (n n2 n3 nn : Nat) (hash : Int) (tkd tkv : Tok) (ff : Int) (ow : Obj) (vs : List Value) (ws : List Int) (K f sp dk P0 P1 P2 : Int) (i : Nat) (R : Array UInt8)
    (ti v0 v1 v2 u0 u1 u2 u3 te tr : Tok)
    (hdx : (dx, sizeD hash tkd (.int ff tkv)) ∈ rest) (ap' : ∀ q ∈ rest, q.1 ≠ p) (hl0 : (l, listOf vs.toArray nn) ∈ rest) (haw : (aw, ow) ∈ rest) (hdw : ow.data = .cell (some (.ref l))) (hlb : (lb, listOf #[.bytes l0 u0, .bytes l1 u1, .bytes l2 u2, .bytes l3 u3] n2) ∈ rest)
    (hpt : (pt, listOf #[.int P0 v0, .int P1 v1, .int P2 v2] n3) ∈ rest) (hpa : (pa, LCg.lst ys) ∈ rest) (hJ : PaintJ dk sp news0 3 ys nwp) (hsub : ∀ q ∈ nwp, q ∈ rest) (hb : 0 ≤ P0 ∧ P0 < 16000 ∧ 0 ≤ P1 ∧ P1 < 16000 ∧ 0 ≤ P2 ∧ P2 < 16000) (hdk : 0 ≤ dk ∧ dk < 32 ∧ 1 ≤ sp ∧ sp ≤ 32)
    (hTl : Ts.length = 8) (hT : ∀ i, i < 8 → IsP rest (Ts.getD i 0) (digS (fig K (7 - i)))) (hi : IntsAre vs ws) (hl : ws.length = 8) (hw : ∀ x ∈ ws, x = 1 ∨ x = -1) (hK : 0 ≤ K ∧ K < 6560) (hf : 0 ≤ f ∧ f < 3) (hR : R.size ≤ 20)
    (q1 : nmOf fr "pile" = some (.ref p)) (q2 : nmOf fr "pot" = some (.ref pt)) (q3 : nmOf fr "paints" = some (.ref pa)) (q4 : nmOf fr "labels" = some (.ref lb)) (q5 : nmOf fr "depth" = some (.int (place ws K f).2.2 te)) (q6 : nmOf fr "row" = some (.bytes R tr)) (q7 : nmOf fr "step" = some (.int (i : Int) ti)) :
    AtLaw [lawT 2] ((p, accObj dx (refs Ts) n) :: rest) fr
      (fun h₀ L s Q => (9 ≤ i → ∀ h' tk', Fr h₀ L h' (nmOf fr) → News h₀ L h' ((p, accObj dx (refs Ts) n) :: rest) → Q .next { s with heap := h', toks := tk' }) ∧
        (i < 9 → ∀ Ts' n' rest' D a0 a1 a2 b0 b1 b2 b3 h' tk', Fr h₀ L h' (nmOf (("row", .bytes (R ++ #[crB ws K]) b0) :: ("depth", .int (place ws (K + 1) f).2.2 b1) :: ("crease", .bytes #[crB ws K] b2) :: ("level", b3) :: ("pot", .ref D) :: fr)) → News h₀ L h' ((p, accObj dx (refs Ts') n') :: rest') →
          Ts'.length = 8 → (∀ i, i < 8 → IsP rest' (Ts'.getD i 0) (digS (fig (K + 1) (7 - i)))) → (∀ q ∈ rest, q ∈ rest') → (∀ q ∈ rest', q.1 ≠ p) → (D, listOf #[.int (P0 + paintI dk sp ((place ws K f).2.2.fmod 3) 0) a0, .int (P1 + paintI dk sp ((place ws K f).2.2.fmod 3) 1) a1, .int (P2 + paintI dk sp ((place ws K f).2.2.fmod 3) 2) a2] 3) ∈ rest' →
          (∀ q ∈ (p, accObj dx (refs Ts) n) :: rest, q.1 ≠ D) → Q .next { s with heap := h', toks := tk' })) := by
  intro s Q E B F X N TT hd hu hret
  have hU0 := fun fr' h1 h2 h3 => turnU0 ((p, accObj dx (refs Ts) n) :: rest) news0 nwp fr' pt pa ys n3 P0 P1 P2 dk sp (place ws K f).2.2 v0 v1 v2 te (.tail _ hpt) (.tail _ hpa) hJ (fun q hq => .tail _ (hsub q hq)) hb hdk (by
    have := stN_head (k := K) (hd := f) hl hw 8 (Nat.le_refl 8)
    have e : (stN ws K f 8) = place ws K f := rfl
    rw [e] at this
    lia) h1 h2 h3
  have hS : lawIf = [lawU 0, lawU 1, lawU 2, lawU 3] := by rfl
  have hTst : wpAny (model prg w) (ktrTop dp un gd "law" lawScope L 215 (.ref 214) (lawCl ab ah al ap ad aw ac as) []) (isTrue (lawIfT) (envX "law" lawScope L 215 (.ref 214) (lawCl ab ah al ap ad aw ac as)) (eval lawIfT (envX "law" lawScope L 215 (.ref 214) (lawCl ab ah al ap ad aw ac as))))
      (IfEnd (i < 9) h₀ L (nmOf fr) ((p, accObj dx (refs Ts) n) :: rest) s) E s := by
    clear hret hU0
    dsimp only [KH, VW, prg] at *
    k_fill
    walk_at "my lit"
    k_steps
    refine ⟨?_, _, _, rfl, by assumption, by assumption⟩
    by_cases h9 : i < 9
    · exact .inl ⟨decide_eq_true (by lia), h9⟩
    · exact .inr ⟨decide_eq_false (by lia), h9⟩
  have e : lawT 2 = .If lawIfT lawIf [] lawIfP := by rfl
  rw [e]
  refine wpAny_execs_cons (wpAny_If (wpAny_mono hTst (fun b s₂ h₂ => ?_) fun _ _ e => e))
  obtain ⟨hb', h5, tk5, rfl, F5, N5⟩ := h₂
  rcases hb' with ⟨rfl, h9⟩ | ⟨rfl, h9⟩
  rotate_left
  · exact wpAny_execs_nil (wpAny_execs_nil (hret.1 (by lia) _ _ F5 N5))
  refine exE2 (crB_spec hl hw hK.1 hK.2) fun t fv hh9 => ?_
  refine anE8 hh9 fun ht hfv low hft hft1 high hcb hnet => ?_
  clear hh9
  have hret := hret.2 h9
  show wpAny (model prg w) _ (execs lawIf _) _ E _
  rw [hS]
  refine seqA (hU0 fr q2 q3 q5 _ _ E B F5 X N5 TT hd hu fun D a0 a1 a2 h6 tk6 F6 N6 apD => ?_)
  refine exE3 (pile_split hTl hT ht low hft hft1 high) fun its T0 LL hh9 => ?_
  refine anE6 hh9 fun eTs hLLl hT0 hTT hitl hEnd => ?_
  clear hh9
  subst eTs
  have hTs : refs (its ++ T0 :: LL) = refs its ++ refs (T0 :: LL) := refs_app _ _
  have hsub1 : ∀ q ∈ rest, q ∈ (D, LCg.lst [.int (P0 + paintI dk sp ((place ws K f).2.2.fmod 3) 0) a0, .int (P1 + paintI dk sp ((place ws K f).2.2.fmod 3) 1) a1, .int (P2 + paintI dk sp ((place ws K f).2.2.fmod 3) 2) a2]) :: rest := fun q hq => .tail _ hq
  have N7 : News h₀ L h6 ((p, accObj dx (refs its ++ refs (T0 :: LL)) n) :: (D, LCg.lst [.int (P0 + paintI dk sp ((place ws K f).2.2.fmod 3) 0) a0, .int (P1 + paintI dk sp ((place ws K f).2.2.fmod 3) 1) a1, .int (P2 + paintI dk sp ((place ws K f).2.2.fmod 3) 2) a2]) :: rest) := by
    rw [← hTs]
    exact newsSub N6 fun q hq => by
      rcases List.mem_cons.mp hq with rfl | hq
      · exact .tail _ (.head _)
      · rcases List.mem_cons.mp hq with rfl | hq
        · exact .head _
        · exact .tail _ (.tail _ hq)
  have apP : ∀ q ∈ (D, LCg.lst [.int (P0 + paintI dk sp ((place ws K f).2.2.fmod 3) 0) a0, .int (P1 + paintI dk sp ((place ws K f).2.2.fmod 3) 1) a1, .int (P2 + paintI dk sp ((place ws K f).2.2.fmod 3) 2) a2]) :: rest, q.1 ≠ p := ap_cons (Ne.symm (apD _ (.head _))) ap'
  have hf0 : (digS fv = Str.ofString "0" ∧ digS (fv + 1) = Str.ofString "1") ∨ (digS fv = Str.ofString "1" ∧ digS (fv + 1) = Str.ofString "2") := by
    rcases hfv with rfl | rfl
    · exact .inl ⟨digS0, digS1⟩
    · exact .inr ⟨digS1, digS2⟩
  refine seqA (turnU1 _ (("pot", .ref D) :: fr) p dx l T0 (refs its) n hash tkd tkv ff ow vs nn ws (digS fv) (digS (fv + 1)) LL (crB ws K) (.tail _ hdx) apP (by rw [refs_len]; exact Nat.le_trans (Nat.le_of_lt hitl) (by decide)) (.tail _ hl0) hf0 (by rw [hLLl]; exact Nat.le_of_lt_succ ht) (hT0.mono hsub1) (fun T h => (hTT T h).mono hsub1) (.tail _ haw) hdw hi hl hw (by rw [hLLl]; exact hcb)
    ((lookup_cons (by decide)).trans q1) _ _ E B F6 X N7 TT hd hu fun T1 Zs n' rest' b3 b2 h7 tk7 F7 N8 g1 g2 g3 g4 g5 => ?_)
  refine seqA (turnU2 _ _ lb u0 u1 u2 u3 n2 LL.length (place ws K f).2.2 (crB ws K) b3 te b2 (.tail _ (g4 _ (.tail _ hlb))) (by unfold crB; split <;> decide) (by lia)
    ((lookup_cons (by decide)).trans ((lookup_cons (by decide)).trans ((lookup_cons (by decide)).trans q4))) ((lookup_cons (by decide)).trans lookup_head) lookup_head ((lookup_cons (by decide)).trans ((lookup_cons (by decide)).trans ((lookup_cons (by decide)).trans q5)))
    _ _ E B F7 X N8 TT hd hu fun b1 h8 tk8 F8 N9 => ?_)
  refine seqA (turnU3 _ _ R (crB ws K) tr b2 hR ((lookup_cons (by decide)).trans ((lookup_cons (by decide)).trans ((lookup_cons (by decide)).trans ((lookup_cons (by decide)).trans q6)))) ((lookup_cons (by decide)).trans lookup_head)
    _ _ E B F8 X N9 TT hd hu fun b0 h9' tk9 F9 N10 => ?_)
  have hz : (place ws K f).2.2 + ((([crB ws K] : List UInt8).count 40 : Nat) : Int) - ((([crB ws K] : List UInt8).count 41 : Nat) : Int) = (place ws (K + 1) f).2.2 := by
    rw [place_head, place_head, hnet]; lia
  rw [hz] at F9
  have eA : refs its ++ refs (T1 :: Zs) = refs (its ++ T1 :: Zs) := (refs_app _ _).symm
  rw [eA] at N10
  have hE := hEnd (fun _ => True) rest' T1 Zs (fun q hq => g4 q (.tail _ hq)) g1 trivial (g2.trans hLLl) fun T hm => ⟨g3 T hm, trivial⟩
  exact wpAny_execs_nil (wpAny_execs_nil (hret (its ++ T1 :: Zs) n' rest' D a0 a1 a2 b0 b1 b2 (.int (LL.length : Int) b3) h9' tk9 F9 N10 hE.1 (fun j hj => (hE.2 j hj).1) (fun q hq => g4 q (.tail _ hq)) g5 (g4 _ (.head _)) apD))

theorem crease_at (w : World) (mean : Mean) (mg mb : Nm) (rest : Led) (p dx l : Addr) (Ts : List Addr) (n : Nat) (hash : Int) (tkd tkv : Tok) (ff : Int) (vs : List Value) (nn : Nat) (ws : List Int) (K : Int)
    (hdx : (dx, sizeD hash tkd (.int ff tkv)) ∈ rest) (ap' : ∀ q ∈ rest, q.1 ≠ p) (hl0 : (l, listOf vs.toArray nn) ∈ rest) (hTl : Ts.length = 8) (hT : ∀ i, i < 8 → IsP rest (Ts.getD i 0) (digS (fig K (7 - i)))) (hi : IntsAre vs ws) (hl : ws.length = 8) (hw : ∀ x ∈ ws, x = 1 ∨ x = -1) (hK : 0 ≤ K ∧ K < 6560) :
    Calls w mean mg mb 48 ((p, accObj dx (refs Ts) n) :: rest) (call (.ref 182) [Value.ref p, .ref l])
      (fun h₀ L m s Q => ∀ R Ts' n' rest' lv (t t' : Tok) h' tk', Fr h₀ L h' m → News h₀ L h' ((R, tupO #[.int lv t, .bytes #[crB ws K] t']) :: (p, accObj dx (refs Ts') n') :: rest') → Ts'.length = 8 →
        (∀ j, j < 8 → IsP rest' (Ts'.getD j 0) (digS (fig (K + 1) (7 - j))) ∧ (Ts'.getD j 0 = Ts.getD j 0 ∨ ∀ q ∈ rest, q.1 ≠ Ts'.getD j 0)) → (∀ q ∈ rest, q ∈ rest') → (∀ q ∈ rest', q.1 ≠ p) → Q (.ref R) { s with heap := h', toks := tk' }) := by
  intro dp un gd cn cs a ccd cl outer A₀ base h₀ L m s Q E B F X N TT hk hd hu hret
  refine exE2 (crB_spec hl hw hK.1 hK.2) fun t fv hh9 => ?_
  refine anE8 hh9 fun ht hfv low hft hft1 high hcb hnet => ?_
  clear hh9
  refine exE3 (pile_split hTl hT ht low hft hft1 high) fun its T0 LL hh9 => ?_
  refine anE6 hh9 fun eTs hLLl hT0 hTT hitl hEnd => ?_
  clear hh9
  subst eTs
  have hTs : refs (its ++ T0 :: LL) = refs its ++ refs (T0 :: LL) := refs_app _ _
  rw [hTs] at N
  have hf0 : (digS fv = Str.ofString "0" ∧ digS (fv + 1) = Str.ofString "1") ∨ (digS fv = Str.ofString "1" ∧ digS (fv + 1) = Str.ofString "2") := by
    rcases hfv with rfl | rfl
    · exact .inl ⟨digS0, digS1⟩
    · exact .inr ⟨digS1, digS2⟩
  refine crease_call w mean mg mb rest p dx l T0 (refs its) n (sizeD hash tkd (.int ff tkv)) vs nn ws (digS fv) (digS (fv + 1)) LL hdx size_noAny.1 size_noAny.2.1 size_noAny.2.2.1 size_noAny.2.2.2 ap' (by rw [refs_len]; exact Nat.le_trans (Nat.le_of_lt hitl) (by decide)) hl0 hf0 (by rw [hLLl]; exact Nat.le_of_lt_succ ht) hT0 hTT hi hl hw
    dp un gd cn cs a ccd cl outer A₀ base h₀ L m s Q E B F X N TT hk hd hu fun R T1 Zs n' rest' t1 t2 h' tk' F' N' g1 g2 g3 g4 g5 => ?_
  rw [show (if ((digS fv == Str.ofString "0") == (ws.getD LL.length 0 == 1)) = true then (#[40] : Array UInt8) else #[41]) = #[crB ws K] by rw [hLLl]; exact hcb] at N'
  have eA : refs its ++ refs (T1 :: Zs) = refs (its ++ T1 :: Zs) := (refs_app _ _).symm
  rw [eA] at N'
  have hE := hEnd (fun T => ∀ q ∈ rest, q.1 ≠ T) rest' T1 Zs (fun q hq => g4 q hq) g1.1 g1.2 (g2.trans hLLl) fun T hm => g3 T hm
  exact hret R (its ++ T1 :: Zs) n' rest' _ t1 t2 h' tk' F' N' hE.1 hE.2 g4 g5

theorem fresh_T_iter : True := by
  k_with_none
  w_on
  w_top off
  (k_with "1 my lit" => ((try (conv in (occs := *) lawSt _ => all_goals whnf)); (try (conv in (occs := *) lawT _ => all_goals whnf)); (try (conv in (occs := *) lawU _ => all_goals whnf)); (try (conv in (occs := *) lawIfT => all_goals whnf)); (try (conv in (occs := *) lawIter => all_goals whnf)); (conv in (occs := *) lawScope => all_goals (whnf; dsimp only))))
  (k_with "1 eval Name" => (k_here; k_dflt (refine' nameX_L ?F ?v ?_ ?a ?b ?c; (case F => k_asm); (case a => rfl); (case b => rfl); (case v => first | exact @rfl (Option Value) (some _) | assumption); (case c => decide); k_whole)))
  (k_with "1 eval Name" => (k_here; (with_reducible show wpAny _ _ (eval (Expr.Name _ _) (envX _ _ _ _ _ (lawCl _ _ _ _ _ _ _ _))) _ _ _); (refine' nameX_L (by k_asm) (by assumption) ?_ ?a ?b ?c; (case a => rfl); (case b => rfl); (case c => decide)); (try dsimp only)))
  trivial
theorem iter10 (news : Led) (fr : LF) : ∀ (s : Shared) (Q E : Value → Shared → Prop),
    Below callerA base [] h₀ → Fr h₀ L s.heap (nmOf fr) → (KH w).In h₀ → News h₀ L s.heap news → Top VW LW mean mg mb h₀ → dp + 60 < recursionLimit → un + 480 < cLine →
    (∀ r t u v h' tk', IsRange h' r 0 10 1 t u v → Fr h₀ L h' (nmOf fr) → News h₀ L h' news → Q (.ref r) { s with heap := h', toks := tk' }) →
    wpAny (model prg w) (ktrTop dp un gd "law" lawScope L 215 (.ref 214) (lawCl ab ah al ap ad aw ac as) []) (eval lawIter (envX "law" lawScope L 215 (.ref 214) (lawCl ab ah al ap ad aw ac as))) Q E s := by
  dsimp only [KH, VW, prg]
  k_fill
  intros; rename_i hret
  walk_at "my lit"
  (k_with "call type:range" => refine hold ?_)
  k_steps
  dsimp only [Hold]
  rename News _ _ _ _ => N0
  refine range1_rows (by k_asm) N0 ?_
  intro h5 tk5 tt1 tt2 tt3 hR F5 N5 k5
  exact hret _ _ _ _ _ _ hR F5 N5

noncomputable def rowB (ws : List Int) (k : Int) : Nat → Array UInt8
  | 0 => #[]
  | e + 1 => rowB ws k e ++ #[crB ws (k + e)]
theorem rowB_size (ws : List Int) (k : Int) : ∀ e, (rowB ws k e).size = e
  | 0 => rfl
  | e + 1 => by
    have ih := rowB_size ws k e
    have : (#[crB ws (k + e)] : Array UInt8).size = 1 := rfl
    rw [rowB, Array.size_append]; lia
noncomputable def PotOk (sp x y : Int) (e : Nat) (P0 P1 P2 : Int) : Prop := P0 = P2 + sp * x ∧ P1 = P2 + sp * y ∧ 0 ≤ P0 ∧ 0 ≤ P1 ∧ 0 ≤ P2 ∧ (P0 ≤ 3584 + 64 * e ∨ P1 ≤ 3584 + 64 * e ∨ P2 ≤ 3584 + 64 * e)
theorem sp_bound {sp x : Int} (hs : 1 ≤ sp ∧ sp ≤ 32) (hx : -200 < x ∧ x < 200) : -6400 ≤ sp * x ∧ sp * x ≤ 6400 := by
  obtain ⟨h1, h2⟩ := hs
  obtain ⟨h3, h4⟩ := hx
  have a : 0 ≤ sp * (x + 200) := Int.mul_nonneg (by lia) (by lia)
  have b : 0 ≤ sp * (200 - x) := Int.mul_nonneg (by lia) (by lia)
  rw [Int.mul_add] at a
  rw [Int.mul_sub] at b
  lia
theorem within {P Q u : Int} (e : P = Q + u) (h : -6400 ≤ u ∧ u ≤ 6400) : P ≤ Q + 6400 ∧ Q ≤ P + 6400 := by lia
theorem low_all {P Q : Int} {e : Nat} (he : e ≤ 9) (hQ : Q ≤ 3584 + 64 * (e : Int)) (h : P ≤ Q + 6400) : P < 10700 := by lia
theorem PotOk.bound {sp x y P0 P1 P2 : Int} {e : Nat} (h : PotOk sp x y e P0 P1 P2) (hs : 1 ≤ sp ∧ sp ≤ 32) (hx : -200 < x ∧ x < 200) (hy : -200 < y ∧ y < 200) (hxy : -200 < x - y ∧ x - y < 200) (he : e ≤ 9) :
    (0 ≤ P0 ∧ P0 < 10700) ∧ (0 ≤ P1 ∧ P1 < 10700) ∧ (0 ≤ P2 ∧ P2 < 10700) := by
  obtain ⟨e0, e1, a0, a1, a2, m⟩ := h
  have b0 := within e0 (sp_bound hs hx)
  have b1 := within e1 (sp_bound hs hy)
  have e2 : P0 = P1 + sp * (x - y) := by rw [Int.mul_sub, e0, e1, Int.add_assoc]; congr 1; lia
  have b2 := within e2 (sp_bound hs hxy)
  have z : ∀ P : Int, P ≤ P + 6400 := fun P => Int.le_add_of_nonneg_right (by decide)
  rcases m with m | m | m
  · exact ⟨⟨a0, low_all he m (z _)⟩, ⟨a1, low_all he m b2.2⟩, ⟨a2, low_all he m b0.2⟩⟩
  · exact ⟨⟨a0, low_all he m b2.1⟩, ⟨a1, low_all he m (z _)⟩, ⟨a2, low_all he m b1.2⟩⟩
  · exact ⟨⟨a0, low_all he m b0.1⟩, ⟨a1, low_all he m b1.1⟩, ⟨a2, low_all he m (z _)⟩⟩
noncomputable def Names (fr : LF) (p pa lb pt : Addr) (k f : Int) (tk tf : Tok) (ws : List Int) (e : Nat) (te tr : Tok) : Prop :=
  nmOf fr "number" = some (.int k tk) ∧ nmOf fr "first" = some (.int f tf) ∧ nmOf fr "pile" = some (.ref p) ∧ nmOf fr "paints" = some (.ref pa) ∧ nmOf fr "labels" = some (.ref lb) ∧ nmOf fr "pot" = some (.ref pt) ∧
  nmOf fr "depth" = some (.int (place ws (k + e) f).2.2 te) ∧ nmOf fr "row" = some (.bytes (rowB ws k e) tr)
noncomputable def LoopJ (p pa lb dx : Addr) (k f sp : Int) (tk tf : Tok) (ws : List Int) (keep : Led) (i : Nat) (gs : Array GenState) (m : Nm) (nw : Led) : Prop :=
  ∃ (fr : LF) (op : Obj) (pt : Addr) (n3 n : Nat) (Ts : List Addr) (rest : Led) (P0 P1 P2 : Int) (v0 v1 v2 te tr : Tok), m = nmOf fr ∧ AllBare gs ∧ nw = (121, op) :: (p, accObj dx (refs Ts) n) :: rest ∧ TxtOk op ∧ (∀ q ∈ (p, accObj dx (refs Ts) n) :: rest, q.1 ≠ 121) ∧ (∀ q ∈ rest, q.1 ≠ p) ∧ Ts.length = 8 ∧
    (∀ j, j < 8 → IsP rest (Ts.getD j 0) (digS (fig (k + (min i 9 : Nat)) (7 - j)))) ∧ (∀ q ∈ keep, q ∈ rest) ∧ (pt, listOf #[.int P0 v0, .int P1 v1, .int P2 v2] n3) ∈ rest ∧ PotOk sp (place ws (k + (min i 9 : Nat)) f).1 (place ws (k + (min i 9 : Nat)) f).2.1 (min i 9) P0 P1 P2 ∧ Names fr p pa lb pt k f tk tf ws (min i 9) te tr
section
variable {p pa lb dx : Addr} {k f sp : Int} {tk tf : Tok} {ws : List Int} {keep : Led} {i : Nat} {gs : Array GenState} {m : Nm} {nw : Led}
theorem LoopJ.mk {fr : LF} {op : Obj} {pt : Addr} {n3 n : Nat} {Ts : List Addr} {rest : Led} {P0 P1 P2 : Int} {v0 v1 v2 te tr : Tok} (hG : AllBare gs) (ok : TxtOk op) (a1 : ∀ q ∈ (p, accObj dx (refs Ts) n) :: rest, q.1 ≠ 121) (a2 : ∀ q ∈ rest, q.1 ≠ p) (hTl : Ts.length = 8)
    (hT : ∀ j, j < 8 → IsP rest (Ts.getD j 0) (digS (fig (k + (min i 9 : Nat)) (7 - j)))) (hsk : ∀ q ∈ keep, q ∈ rest) (hpt : (pt, listOf #[.int P0 v0, .int P1 v1, .int P2 v2] n3) ∈ rest) (hpo : PotOk sp (place ws (k + (min i 9 : Nat)) f).1 (place ws (k + (min i 9 : Nat)) f).2.1 (min i 9) P0 P1 P2) (nm : Names fr p pa lb pt k f tk tf ws (min i 9) te tr) :
    LoopJ p pa lb dx k f sp tk tf ws keep i gs (nmOf fr) ((121, op) :: (p, accObj dx (refs Ts) n) :: rest) :=
  exI15 fr op pt n3 n Ts rest P0 P1 P2 v0 v1 v2 te tr ⟨rfl, hG, rfl, ok, a1, a2, hTl, hT, hsk, hpt, hpo, nm⟩
theorem LoopJ.elim {C : Prop} (h : LoopJ p pa lb dx k f sp tk tf ws keep i gs m nw) (kk : ∀ (fr : LF) (op : Obj) (pt : Addr) (n3 n : Nat) (Ts : List Addr) (rest : Led) (P0 P1 P2 : Int) (v0 v1 v2 te tr : Tok), m = nmOf fr → AllBare gs → nw = (121, op) :: (p, accObj dx (refs Ts) n) :: rest → TxtOk op → (∀ q ∈ (p, accObj dx (refs Ts) n) :: rest, q.1 ≠ 121) → (∀ q ∈ rest, q.1 ≠ p) → Ts.length = 8 →
    (∀ j, j < 8 → IsP rest (Ts.getD j 0) (digS (fig (k + (min i 9 : Nat)) (7 - j)))) → (∀ q ∈ keep, q ∈ rest) → (pt, listOf #[.int P0 v0, .int P1 v1, .int P2 v2] n3) ∈ rest → PotOk sp (place ws (k + (min i 9 : Nat)) f).1 (place ws (k + (min i 9 : Nat)) f).2.1 (min i 9) P0 P1 P2 → Names fr p pa lb pt k f tk tf ws (min i 9) te tr → C) : C :=
  exE15 h fun fr op pt n3 n Ts rest P0 P1 P2 v0 v1 v2 te tr h => anE12 h fun a b c d e f g h i j k l => kk fr op pt n3 n Ts rest P0 P1 P2 v0 v1 v2 te tr a b c d e f g h i j k l
end
theorem led_ne {h₀ h : Heap} {L : Addr} {nw : Led} (N : News h₀ L h nw) {a : Addr} {o : Obj} (ho : (a, o) ∈ nw) {q : Addr × Obj} (hq : q ∈ nw) (hne : q.2 ≠ o) : q.1 ≠ a := fun e => by
  have h1 := (N _ hq).1
  have h2 := (N _ ho).1
  rw [e] at h1
  exact hne (Option.some.inj (h1.symm.trans h2))
theorem seq_ne_fields {c : Value} {d : Option Addr} {vs ps : Array Value} {n : Nat} {o : Obj} (ho : o.data = .fields ps) : ({ cls := c, dict := d, data := .seq vs n } : Obj) ≠ o := fun e => by
  rw [← e] at ho
  cases ho
noncomputable def drop2 (a b : Addr) (nw : Led) : Led := nw.filter fun q => q.1 != a && q.1 != b
theorem mem_drop2 {a b : Addr} {nw : Led} {q : Addr × Obj} : q ∈ drop2 a b nw ↔ q ∈ nw ∧ q.1 ≠ a ∧ q.1 ≠ b := by
  simp [drop2, List.mem_filter]
theorem tupO_data (vs : Array Value) : (tupO vs).data = .seq vs := rfl
theorem low_step {P c : Int} {e : Nat} (h : P ≤ 3584 + 64 * (e : Int)) (hc : c < 64) : P + c ≤ 3584 + 64 * ((e + 1 : Nat) : Int) := by push_cast; lia
theorem pot_step {ws : List Int} {K f sp dk P0 P1 P2 : Int} {e : Nat} (hl : ws.length = 8) (hw : ∀ x ∈ ws, x = 1 ∨ x = -1) (hK : 0 ≤ K ∧ K < 6560) (hdk : 0 ≤ dk ∧ dk < 32 ∧ 1 ≤ sp ∧ sp ≤ 32) (h : PotOk sp (place ws K f).1 (place ws K f).2.1 e P0 P1 P2) :
    PotOk sp (place ws (K + 1) f).1 (place ws (K + 1) f).2.1 (e + 1) (P0 + paintI dk sp ((place ws K f).2.2.fmod 3) 0) (P1 + paintI dk sp ((place ws K f).2.2.fmod 3) 1) (P2 + paintI dk sp ((place ws K f).2.2.fmod 3) 2) := by
  refine exE2 (crB_spec hl hw hK.1 hK.2) fun t fv hh9 => anE8 hh9 fun ht hfv low hft hft1 high _ _ => ?_
  clear hh9
  obtain ⟨ex, ey, -⟩ := place_succ (hd := f) hl hw ht low hft hft1 hfv high
  rw [ex, ey]
  obtain ⟨e0, e1, a0, a1, a2, m⟩ := h
  have st := paint_step (dk := dk) (z := (place ws K f).2.2) e0 e1
  have c0 := paintI_bound (i := (place ws K f).2.2.fmod 3) (j := 0) hdk
  have c1 := paintI_bound (i := (place ws K f).2.2.fmod 3) (j := 1) hdk
  have c2 := paintI_bound (i := (place ws K f).2.2.fmod 3) (j := 2) hdk
  exact ⟨st.1, st.2, Int.add_nonneg a0 c0.1, Int.add_nonneg a1 c1.1, Int.add_nonneg a2 c2.1, m.imp (fun h => low_step h c0.2) (Or.imp (fun h => low_step h c1.2) fun h => low_step h c2.2)⟩
theorem law16 (keep news0 nwp : Led) (p pa lb l dx : Addr) (ys : List Value) (n2 nn : Nat) (hash : Int) (tkd tkv : Tok) (ff : Int) (ow os : Obj) (vs : List Value) (ws : List Int) (k f sp dk : Int) (ts tk tf u0 u1 u2 u3 : Tok)
    (hdx : (dx, sizeD hash tkd (.int ff tkv)) ∈ keep) (hl0 : (l, listOf vs.toArray nn) ∈ keep) (haw : (aw, ow) ∈ keep) (hdw : ow.data = .cell (some (.ref l))) (has : (ap, os) ∈ keep) (hds : os.data = .cell (some (.int sp ts))) (hlb : (lb, listOf #[.bytes l0 u0, .bytes l1 u1, .bytes l2 u2, .bytes l3 u3] n2) ∈ keep)
    (hpa : (pa, LCg.lst ys) ∈ keep) (hPJ : PaintJ dk sp news0 3 ys nwp) (hsub : ∀ q ∈ nwp, q ∈ keep) (hdk : 0 ≤ dk ∧ dk < 32 ∧ 1 ≤ sp ∧ sp ≤ 32) (hi : IntsAre vs ws) (hl : ws.length = 8) (hw : ∀ x ∈ ws, x = 1 ∨ x = -1) (hk : 0 ≤ k ∧ k < 2187) (hf : 0 ≤ f ∧ f < 3)
    (told : ∀ (e : Nat) (x y P0 P1 P2 : Int), e ≤ 9 → (-200 < x ∧ x < 200) → (-200 < y ∧ y < 200) → (-200 < x - y ∧ x - y < 200) → PotOk sp x y e P0 P1 P2 → ToldOk sp P0 P1 P2 x y)
    (fr : LF) (news : Led) :
    AtLaw [lawSt 15] news fr
      (fun h₀ L s Q => LoopJ p pa lb dx k f sp tk tf ws keep 0 s.gens (nmOf fr) news ∧ ∀ fr' news' h' tk' gs', LoopJ p pa lb dx k f sp tk tf ws keep 10 gs' (nmOf fr') news' → Fr h₀ L h' (nmOf fr') → News h₀ L h' news' → Q .next { s with heap := h', toks := tk', gens := gs' }) := by
  intro s Q E B F X N TT hd hu hret
  obtain ⟨hJ, hret⟩ := hret
  obtain ⟨px, pos, eF⟩ : ∃ px pos, lawSt 15 = .For (.Name "step" px) lawIter lawLoop [] pos := ⟨_, _, rfl⟩
  rw [eF]
  refine wpAny_mono (E := fun _ _ => False) ?_ (fun _ _ h => h) (fun _ _ h => h.elim)
  refine wpAny_execs_cons (For_rangeG (h₀ := h₀) (n := 10) (LoopJ p pa lb dx k f sp tk tf ws keep) (by rfl) (by rfl) ?_ (by intro _; with_unfolding_all rfl) (by passes_own))
  refine iter10 news fr s _ _ B F X N TT hd hu fun r t u v h5 tk5 hR F5 N5 => ?_
  clear E
  generalize hEE : (fun (_ : Value) (_ : Shared) => False) = E
  refine exI6 r t u v (nmOf fr) news ⟨rfl, rfl, hR, by decide, F5, N5, hJ, ?_, ?_⟩
  · intro I i ti m₁ nw s₂ hS hi9 hJ2 off F2 N2
    refine LoopJ.elim hJ2 fun fr op pt n3 n Ts rest P0 P1 P2 v0 v1 v2 te tr em hG enw ok ap1 ap2 hTl hT hsk hpt hpo nm => ?_
    clear hJ2
    subst em enw
    have e9 : min i 9 = i := by lia
    rw [e9] at hT hpo nm
    have F3 := frPush F2
    refine anE8 nm fun m1 m2 m3 m4 m5 m6 m7 m8 => ?_
    have lk : ∀ {b : Str} {v : Value}, ("step" : Str) ≠ b → nmOf fr b = some v → nmOf (("step", .int (i : Int) ti) :: fr) b = some v := fun h e => (lookup_cons h).trans e
    show wpAny (model prg w) _ (execs [lawT 0, lawT 1, lawT 2] _) _ E s₂
    refine seqA (turn1 _ _ k (i : Int) tk ti (by lia) (lk (by decide) m1) lookup_head s₂ _ E B F3 X N2 TT hd hu fun td h6 tk6 F6 N6 => ?_)
    have lk2 : ∀ {b : Str} {v : Value}, ("due" : Str) ≠ b → ("step" : Str) ≠ b → nmOf fr b = some v → nmOf (("due", .str (figsText (k + i)) td) :: ("step", .int (i : Int) ti) :: fr) b = some v := fun h h' e => (lookup_cons h).trans (lk h' e)
    have hxy := (stN_bound (k := k + i) (hd := f) hl hw (Nat.le_refl 8))
    have eS : stN ws (k + i) f 8 = place ws (k + i) f := rfl
    rw [eS] at hxy
    have hPb := hpo.bound hdk.2.2 hxy.1 hxy.2.1 hxy.2.2 (by lia)
    have I121 : I ≠ 121 := Ne.symm (off _ (.head _))
    have Ip : I ≠ p := Ne.symm (off _ (.tail _ (.head _)))
    have p121 : p ≠ 121 := ap1 _ (.head _)
    have N7 : News h₀ L h6 ((121, op) :: (I, itR ((i : Int) + 1) (((10 : Nat) : Int) - ((i : Int) + 1))) :: (p, accObj dx (refs Ts) n) :: rest) := newsSub N6 fun q hq => by
      rcases List.mem_cons.mp hq with rfl | hq
      · exact .tail _ (.head _)
      · rcases List.mem_cons.mp hq with rfl | hq
        · exact .head _
        · exact .tail _ (.tail _ hq)
    have up : ∀ q ∈ rest, q ∈ (I, itR ((i : Int) + 1) (((10 : Nat) : Int) - ((i : Int) + 1))) :: (p, accObj dx (refs Ts) n) :: rest := fun q hq => .tail _ (.tail _ hq)
    refine seqA (turn2 _ _ op _ ow os p dx Ts n l pt vs nn n3 ws (k + i) f sp P0 P1 P2 tf ts v0 v1 v2 td te (.tail _ (.head _)) (up _ (hsk _ hdx)) (ap_cons I121 ap1) ok hTl (fun j hj => (hT j hj).mono up) (up _ (hsk _ hl0)) (up _ (hsk _ haw)) hdw (up _ (hsk _ has)) hds (up _ hpt)
      (told i _ _ P0 P1 P2 (by lia) hxy.1 hxy.2.1 hxy.2.2 hpo) hdk.2.2 hi hl hw hf (lk2 (by decide) (by decide) m3) (lk2 (by decide) (by decide) m6) (lk2 (by decide) (by decide) m2) lookup_head (lk2 (by decide) (by decide) m7)
      _ _ E B F6 X N7 TT hd hu ⟨hG, fun op' h8 tk8 gs8 F8 N8 ok' hG' => ?_⟩)
    have N9 : News h₀ L h8 ((p, accObj dx (refs Ts) n) :: (I, itR ((i : Int) + 1) (((10 : Nat) : Int) - ((i : Int) + 1))) :: (121, op') :: rest) := newsSub N8 fun q hq => by
      rcases List.mem_cons.mp hq with rfl | hq
      · exact .tail _ (.tail _ (.head _))
      · rcases List.mem_cons.mp hq with rfl | hq
        · exact .tail _ (.head _)
        · rcases List.mem_cons.mp hq with rfl | hq
          · exact .head _
          · exact .tail _ (.tail _ (.tail _ hq))
    have up2 : ∀ q ∈ rest, q ∈ (I, itR ((i : Int) + 1) (((10 : Nat) : Int) - ((i : Int) + 1))) :: (121, op') :: rest := fun q hq => .tail _ (.tail _ hq)
    refine turn3 _ news0 nwp _ p dx l lb pt pa ys Ts n n2 n3 nn hash tkd tkv ff ow vs ws (k + i) f sp dk P0 P1 P2 i (rowB ws k i) ti v0 v1 v2 u0 u1 u2 u3 te tr (up2 _ (hsk _ hdx)) (ap_cons Ip (ap_cons (Ne.symm p121) ap2)) (up2 _ (hsk _ hl0)) (up2 _ (hsk _ haw)) hdw (up2 _ (hsk _ hlb)) (up2 _ hpt) (up2 _ (hsk _ hpa)) hPJ (fun q hq => up2 _ (hsk _ (hsub q hq)))
      ⟨hPb.1.1, Int.lt_trans hPb.1.2 (by decide), hPb.2.1.1, Int.lt_trans hPb.2.1.2 (by decide), hPb.2.2.1, Int.lt_trans hPb.2.2.2 (by decide)⟩ hdk hTl (fun j hj => (hT j hj).mono up2) hi hl hw (by lia) hf (by rw [rowB_size]; lia) (lk2 (by decide) (by decide) m3) (lk2 (by decide) (by decide) m6) (lk2 (by decide) (by decide) m4) (lk2 (by decide) (by decide) m5) (lk2 (by decide) (by decide) m7) (lk2 (by decide) (by decide) m8) ((lookup_cons (by decide)).trans lookup_head)
      _ _ E B F8 X N9 TT hd hu ⟨fun h9 h10 tk10 F10 N10 => ?_, fun h9 Ts' n' rest' D a0 a1 a2 b0 b1 b2 b3 h10 tk10 F10 N10 c1 c2 c3 c4 c5 c6 => ?_⟩
    · have ei : min (i + 1) 9 = i := by lia
      refine ⟨hS, exI2 _ ((121, op') :: (p, accObj dx (refs Ts) n) :: rest) ⟨F10, newsSub N10 fun q hq => ?_, ap_cons (Ne.symm I121) (ap_cons (Ne.symm Ip) fun q hq => off q (.tail _ (.tail _ hq))), LoopJ.mk (te := te) (tr := tr) hG' ok' ap1 ap2 hTl ?_ hsk hpt ?_ ?_⟩⟩
      · rcases List.mem_cons.mp hq with rfl | hq
        · exact .tail _ (.head _)
        · rcases List.mem_cons.mp hq with rfl | hq
          · exact .tail _ (.tail _ (.head _))
          · rcases List.mem_cons.mp hq with rfl | hq
            · exact .head _
            · exact .tail _ (.tail _ (.tail _ hq))
      · rw [ei]; exact hT
      · rw [ei]; exact hpo
      · rw [ei]
        exact ⟨lk2 (by decide) (by decide) m1, lk2 (by decide) (by decide) m2, lk2 (by decide) (by decide) m3, lk2 (by decide) (by decide) m4, lk2 (by decide) (by decide) m5, lk2 (by decide) (by decide) m6, lk2 (by decide) (by decide) m7, lk2 (by decide) (by decide) m8⟩
    · have ei : min (i + 1) 9 = i + 1 := by lia
      have eK : k + ((i + 1 : Nat) : Int) = k + (i : Int) + 1 := by push_cast; lia
      have hI10 : (I, itR ((i : Int) + 1) (((10 : Nat) : Int) - ((i : Int) + 1))) ∈ (p, accObj dx (refs Ts') n') :: rest' := .tail _ (c3 _ (.head _))
      have h121 : ((121 : Nat), op') ∈ (p, accObj dx (refs Ts') n') :: rest' := .tail _ (c3 _ (.tail _ (.head _)))
      obtain ⟨pso, hpo1, _⟩ := ok'.fields
      have keepIt : ∀ (T : Addr) (vs : Array Value) (c : Value) (d : Option Addr) (nz : Nat), (T, ({ cls := c, dict := d, data := .seq vs nz } : Obj)) ∈ rest' → (T, ({ cls := c, dict := d, data := .seq vs nz } : Obj)) ∈ drop2 121 I rest' := fun T vs c d nz h =>
        mem_drop2.mpr ⟨h, led_ne N10 h121 (.tail _ h) (seq_ne_fields hpo1), led_ne N10 hI10 (.tail _ h) (seq_ne_fields rfl)⟩
      have isp : ∀ {T : Addr} {x : Str}, IsP rest' T x → IsP (drop2 121 I rest') T x := fun ⟨t1, t2, h⟩ => ⟨t1, t2, keepIt _ _ _ _ _ h⟩
      refine ⟨hS, exI2 _ ((121, op') :: (p, accObj dx (refs Ts') n') :: drop2 121 I rest') ⟨F10, newsSub N10 fun q hq => ?_, ap_cons (Ne.symm I121) (ap_cons (Ne.symm Ip) fun q hq => (mem_drop2.mp hq).2.2), LoopJ.mk (te := b1) (tr := b0) hG' ok' (ap_cons p121 fun q hq => (mem_drop2.mp hq).2.1) (fun q hq => c4 q (mem_drop2.mp hq).1) c1 ?_ ?_ (keepIt _ _ _ _ _ c5) ?_ ?_⟩⟩
      · rcases List.mem_cons.mp hq with rfl | hq
        · exact hI10
        · rcases List.mem_cons.mp hq with rfl | hq
          · exact h121
          · rcases List.mem_cons.mp hq with rfl | hq
            · exact .head _
            · exact .tail _ (mem_drop2.mp hq).1
      · rw [ei, eK]
        exact fun j hj => isp (c2 j hj)
      · exact fun q hq => mem_drop2.mpr ⟨c3 q (up2 q (hsk q hq)), ap1 q (.tail _ (hsk q hq)), off q (.tail _ (.tail _ (hsk q hq)))⟩
      · rw [ei, eK]
        exact pot_step hl hw (by lia) hdk hpo
      · rw [ei]
        have lk3 : ∀ {b : Str} {v : Value}, ("row" : Str) ≠ b → ("depth" : Str) ≠ b → ("crease" : Str) ≠ b → ("level" : Str) ≠ b → ("pot" : Str) ≠ b → ("due" : Str) ≠ b → ("step" : Str) ≠ b → nmOf fr b = some v → _ :=
          fun {b} {v} h1 h2 h3 h4 h5 h6 h7 e => (lookup_cons (v := .bytes (rowB ws k i ++ #[crB ws (k + i)]) b0) h1).trans ((lookup_cons (v := .int (place ws (k + i + 1) f).2.2 b1) h2).trans ((lookup_cons (v := .bytes #[crB ws (k + i)] b2) h3).trans ((lookup_cons (v := b3) h4).trans ((lookup_cons (v := .ref D) h5).trans (lk2 h6 h7 e)))))
        refine ⟨lk3 (by decide) (by decide) (by decide) (by decide) (by decide) (by decide) (by decide) m1, lk3 (by decide) (by decide) (by decide) (by decide) (by decide) (by decide) (by decide) m2, lk3 (by decide) (by decide) (by decide) (by decide) (by decide) (by decide) (by decide) m3, lk3 (by decide) (by decide) (by decide) (by decide) (by decide) (by decide) (by decide) m4, lk3 (by decide) (by decide) (by decide) (by decide) (by decide) (by decide) (by decide) m5, ?_, ?_, ?_⟩
        · exact (lookup_cons (by decide)).trans ((lookup_cons (by decide)).trans ((lookup_cons (by decide)).trans ((lookup_cons (by decide)).trans lookup_head)))
        · rw [eK]; exact (lookup_cons (by decide)).trans lookup_head
        · exact lookup_head
  · intro m₁ nw s₂ hS hJ2 F2 N2
    have hJ3 := hJ2
    obtain ⟨fr', rfl⟩ : ∃ fr', m₁ = nmOf fr' := hJ3.elim fun fr' _ _ _ _ _ _ _ _ _ _ _ _ _ _ e _ _ _ _ _ _ _ _ _ _ _ => ⟨fr', e⟩
    refine wpAny_execs_nil ?_
    have h := hret fr' nw s₂.heap s₂.toks s₂.gens hJ2 F2 N2
    rw [hS.eq]
    exact h

noncomputable def ee : Rat := eps
theorem ee_pos : 0 ≤ ee := eps_pos
theorem ee_le : ee ≤ 1 / 1048576 := by decide +kernel
theorem ee_eps : eps = ee := rfl
theorem Nr.mono {x : UInt64} {q d d' : Rat} (h : Nr x q d) (hd : d ≤ d') : Nr x q d' := ⟨h.1, by have := h.2.1; grind, by have := h.2.2; grind⟩
theorem Nr.addL {x y : UInt64} {p q d d' r D : Rat} (hx : Nr x p d) (hy : Nr y q d') (hr : p + q = r) (hD : d + d' + ee ≤ D) (hD1 : D ≤ 1) (h1 : -16000 ≤ r) (h2 : r ≤ 16000) : Nr (Float64.add x y) r D := by
  have e := ee_pos
  subst hr
  exact (hx.add hy (by show (-16384 : Rat) ≤ _; grind) (by show _ ≤ (16384 : Rat); grind)).mono hD
theorem Nr.subL {x y : UInt64} {p q d d' r D : Rat} (hx : Nr x p d) (hy : Nr y q d') (hr : p - q = r) (hD : d + d' + ee ≤ D) (hD1 : D ≤ 1) (h1 : -16000 ≤ r) (h2 : r ≤ 16000) : Nr (Float64.sub x y) r D := by
  have e := ee_pos
  subst hr
  exact (hx.sub hy (by show (-16384 : Rat) ≤ _; grind) (by show _ ≤ (16384 : Rat); grind)).mono hD
theorem Nr.mulL {x y : UInt64} {p q d d' r D A B : Rat} (hx : Nr x p d) (hy : Nr y q d') (hA : -A ≤ p - d ∧ p + d ≤ A) (hB : -B ≤ q ∧ q ≤ B) (hr : p * q = r) (hD : A * d' + d * B + ee ≤ D) (hD1 : D ≤ 1) (h1 : -16000 ≤ r) (h2 : r ≤ 16000) : Nr (Float64.mul x y) r D := by
  have e := ee_pos
  subst hr
  have a1 := hx.2.1
  have a2 := hx.2.2
  exact (hx.mul hy ⟨by grind, by grind⟩ hB (by show (-16384 : Rat) ≤ _; grind) (by show _ ≤ (16384 : Rat); grind)).mono hD
theorem Nr.const {c : UInt64} {n : Int} {d : Nat} {q : Rat} (hf : (match Float64.decode c with | .fin .. => true | _ => false) = true) (hd : 0 < d) (hv : Float64.val c * (d : Int) = n * 2 ^ 1074) (hq : q * (d : Rat) = (n : Rat)) : Nr c q 0 := by
  have hF : Fi c := by
    cases h : Float64.decode c with
    | fin a m e => exact ⟨a, m, e, h⟩
    | inf _ => rw [h] at hf; cases hf
    | nan => rw [h] at hf; cases hf
  have hS := FS_pos
  have hdr : (0 : Rat) < (d : Rat) := by exact_mod_cast hd
  have e : rv c = q := by
    have h1 := val_rv c
    have h2 : ((Float64.val c * (d : Int) : Int) : Rat) = ((n * 2 ^ 1074 : Int) : Rat) := by rw [hv]
    rw [Rat.intCast_mul, Rat.intCast_natCast, h1, Rat.intCast_mul, ← hq] at h2
    have h3 : (((2 : Int) ^ 1074 : Int) : Rat) = FS := by rw [← FS_is, ← Rat.intCast_natCast]; rfl
    rw [h3] at h2
    have h4 : (rv c - q) * ((d : Rat) * FS) = 0 := by
      have : (rv c - q) * ((d : Rat) * FS) = rv c * FS * d - q * d * FS := by
        generalize FS = Z at *
        generalize (d : Rat) = Y at *
        grind
      rw [this, h2]; grind
    have hne : (d : Rat) * FS ≠ 0 := by have := Rat.mul_pos hdr hS; grind
    rcases Rat.mul_eq_zero.mp h4 with h | h
    · grind
    · exact absurd h hne
  exact ⟨hF, by rw [e]; grind, by rw [e]; grind⟩
theorem Nr.trunc {x : UInt64} {q d : Rat} {n : Nat} (h : Nr x q d) (h1 : (n : Rat) + d ≤ q) (h2 : q + d < (n : Rat) + 1) : ∃ a m e, Float64.decode x = .fin a m e ∧ Float64.truncOf a m e = n := by
  have a := h.2.1
  have b := h.2.2
  exact trunc_rv h.1 (by grind) (by grind)
theorem nr_zero : Nr 0 0 0 := Nr.const (n := 0) (d := 1) (by decide +kernel) (by decide) (by decide +kernel) (by decide +kernel)
theorem nr_half : Nr 4602678819172646912 (1/2) 0 := Nr.const (n := 1) (d := 2) (by decide +kernel) (by decide) (by decide +kernel) (by decide +kernel)
theorem nr_one : Nr 4607182418800017408 1 0 := Nr.const (n := 1) (d := 1) (by decide +kernel) (by decide) (by decide +kernel) (by decide +kernel)
theorem nr_two : Nr 4611686018427387904 2 0 := Nr.const (n := 2) (d := 1) (by decide +kernel) (by decide) (by decide +kernel) (by decide +kernel)
theorem nr_six : Nr 4618441417868443648 6 0 := Nr.const (n := 6) (d := 1) (by decide +kernel) (by decide) (by decide +kernel) (by decide +kernel)
theorem nr_four : Nr 4616189618054758400 4 0 := Nr.const (n := 4) (d := 1) (by decide +kernel) (by decide) (by decide +kernel) (by decide +kernel)

noncomputable def hueF (third j : Nat) : UInt64 := if j = 0 then Float64.add (qf third 3) 4599676419421066581 else if j = 1 then qf third 3 else Float64.sub (qf third 3) 4599676419421066581
noncomputable def hueK (third j : Nat) : Bool :=
  let d := (Float64.divmod (hueF third j) 4607182418800017408).2
  if third = j then !flt d 4595172819793696085 && flt d 4602678819172646912
  else (flt d 4595172819793696085 && d == 0) || (!flt d 4595172819793696085 && !flt d 4602678819172646912 && !flt d 4604180019048437077)
theorem hue_kinds : ∀ third, third < 3 → ∀ j, j < 3 → hueK third j = true := by decide +kernel
theorem vF_two {m1 m2 hue : UInt64} (h : (!flt (Float64.divmod hue 4607182418800017408).2 4595172819793696085 && flt (Float64.divmod hue 4607182418800017408).2 4602678819172646912) = true) : vF m1 m2 hue = m2 := by
  simp only [Bool.and_eq_true, Bool.not_eq_true'] at h
  unfold vF
  rw [if_neg (by rw [h.1]; decide), if_pos h.2]
theorem vF_one {m1 m2 hue : UInt64} {q1 q2 : Rat} (h1 : Nr m1 q1 (8 * ee)) (h2 : Nr m2 q2 (8 * ee)) (b1 : 0 ≤ q1 ∧ q1 ≤ 2) (b2 : 0 ≤ q2 ∧ q2 ≤ 2)
    (h : ((flt (Float64.divmod hue 4607182418800017408).2 4595172819793696085 && (Float64.divmod hue 4607182418800017408).2 == 0) || (!flt (Float64.divmod hue 4607182418800017408).2 4595172819793696085 && !flt (Float64.divmod hue 4607182418800017408).2 4602678819172646912 && !flt (Float64.divmod hue 4607182418800017408).2 4604180019048437077)) = true) :
    Nr (vF m1 m2 hue) q1 (32 * ee) := by
  have e0 := ee_pos
  have e1 := ee_le
  simp only [Bool.or_eq_true, Bool.and_eq_true, Bool.not_eq_true', beq_iff_eq] at h
  unfold vF
  rcases h with ⟨h, hz⟩ | ⟨⟨ha, hb⟩, hc⟩
  · rw [if_pos h, hz]
    have s1 := h2.subL h1 (r := q2 - q1) rfl (D := 17 * ee) (by grind) (by grind) (by grind) (by grind)
    have s2 := s1.mulL nr_zero (A := 3) (B := 0) ⟨by grind, by grind⟩ ⟨by grind, by grind⟩ (r := 0) (by grind) (D := ee) (by grind) (by grind) (by grind) (by grind)
    have s3 := s2.mulL nr_six (A := 1) (B := 6) ⟨by grind, by grind⟩ ⟨by grind, by grind⟩ (r := 0) (by grind) (D := 7 * ee) (by grind) (by grind) (by grind) (by grind)
    exact h1.addL s3 (by grind) (by grind) (by grind) (by grind) (by grind)
  · rw [if_neg (by rw [ha]; decide), if_neg (by rw [hb]; decide), if_neg (by rw [hc]; decide)]
    exact h1.mono (by grind)
theorem qf_nat (a b : Nat) : qf a b = Float64.ofFrac false a b := by
  unfold qf
  have h1 : decide ((a : Int) < 0) = false := decide_eq_false (by lia)
  have h2 : decide ((b : Int) < 0) = false := decide_eq_false (by lia)
  rw [h1, h2]
  rfl
theorem qf_near {a b : Nat} {q : Rat} (hb : 0 < b) (hq : (a : Rat) = q * (b : Rat)) (h1 : -16000 ≤ q) (h2 : q ≤ 16000) : Nr (qf a b) q ee := by
  rw [qf_nat]
  exact frac_near hb hq (by show (-16384 : Rat) ≤ _; grind) (by show _ ≤ (16384 : Rat); grind)
theorem qf_pow {a k : Nat} {q : Rat} (hk : k ≤ 1000) (ha : a ≤ 16384) (hq : (a : Rat) = q * ((2 ^ k : Nat) : Rat)) : Nr (qf a ((2 ^ k : Nat) : Int)) q 0 := by
  rw [qf_nat]
  obtain ⟨f, e⟩ := frac_pow hk ha hq
  exact ⟨f, by rw [e]; grind, by rw [e]; grind⟩
theorem rat_quot {a b : Rat} (hb : 0 < b) : ∃ q : Rat, q * b = a := ⟨a / b, Rat.div_mul_cancel (by grind)⟩
theorem quot_nonneg {a b q : Rat} (hb : 0 < b) (h : q * b = a) (ha : 0 ≤ a) : 0 ≤ q := by
  have e : q = a / b := by rw [← h, Rat.mul_div_cancel (by grind)]
  rw [e, Rat.div_def]
  exact Rat.mul_nonneg ha (Rat.le_of_lt (Rat.inv_pos.mpr hb))
theorem quot_le {a b q c : Rat} (hb : 0 < b) (h : q * b = a) (ha : a ≤ c * b) : q ≤ c := by
  have e : q = a / b := by rw [← h, Rat.mul_div_cancel (by grind)]
  rw [e]
  exact rat_div_le hb ha
theorem quot_ge {a b q c : Rat} (hb : 0 < b) (h : q * b = a) (ha : c * b ≤ a) : c ≤ q := by
  have e : q = a / b := by rw [← h, Rat.mul_div_cancel (by grind)]
  rw [e]
  exact rat_le_div hb ha
theorem light_near {D S : Nat} (hD : D < 32) (hS : S ≤ 32) : Nr (lightF D S) ((2 * D + S) / 128) 0 := by
  have e : lightF D S = qf ((2 * D + S : Nat) : Int) ((2 ^ 7 : Nat) : Int) := by unfold lightF; push_cast; rfl
  rw [e]
  refine qf_pow (by decide) (by lia) ?_
  rw [Rat.natCast_add, Rat.natCast_mul, show ((2 ^ 7 : Nat) : Rat) = 128 from rfl, show ((2 : Nat) : Rat) = 2 from rfl]
  grind
theorem paint_m {D S : Nat} (hD : D < 32) (hS : 1 ≤ S ∧ S ≤ 32) : ∃ q : Rat, 1 / 128 ≤ q ∧ q ≤ 1 ∧ Nr (shareF D S) q ee ∧
    Nr (hlsM2 (lightF D S) (shareF D S)) ((D + S) / 64) (5 * ee) := by
  have e0 := ee_pos
  have e1 := ee_le
  have hL := light_near hD hS.2
  have d0 : (0 : Rat) ≤ (D : Rat) := by exact_mod_cast Nat.zero_le D
  have d1 : (D : Rat) ≤ 31 := by exact_mod_cast (show D ≤ 31 by lia)
  have s0 : (1 : Rat) ≤ (S : Rat) := by exact_mod_cast hS.1
  have s1 : (S : Rat) ≤ 32 := by exact_mod_cast hS.2
  unfold hlsM2 shareF
  cases hb : fle (lightF D S) 4602678819172646912
  · simp only [Bool.false_eq_true, if_false]
    have e : qf (S : Int) (128 - 2 * (D : Int) - S) = qf (S : Int) ((128 - 2 * D - S : Nat) : Int) := by congr 1; lia
    rw [e]
    have ec : ((128 - 2 * D - S : Nat) : Rat) = 128 - 2 * (D : Rat) - S := by
      have h : ((128 - 2 * D - S : Nat) : Rat) + (2 * D + S : Nat) = (128 : Nat) := by rw [← Rat.natCast_add]; congr 1; lia
      rw [Rat.natCast_add, Rat.natCast_mul, show ((2 : Nat) : Rat) = 2 from rfl, show ((128 : Nat) : Rat) = 128 from rfl] at h
      grind
    obtain ⟨q, hq⟩ := rat_quot (a := (S : Rat)) (b := 128 - 2 * (D : Rat) - S) (by grind)
    have q0 := quot_ge (c := 1 / 128) (by grind) hq (by grind)
    have q1 := quot_le (c := 1) (by grind) hq (by grind)
    have hs : Nr (qf (S : Int) ((128 - 2 * D - S : Nat) : Int)) q ee := qf_near (by lia) (by rw [ec, hq]) (by grind) (by grind)
    refine ⟨q, q0, q1, hs, ?_⟩
    have a1 := hL.addL hs (r := (2 * D + S) / 128 + q) rfl (D := 2 * ee) (by grind) (by grind) (by grind) (by grind)
    have hLq : (2 * (D : Rat) + S) / 128 * q = q - S / 128 := by grind
    have a2 := hL.mulL hs (A := 1) (B := 1) ⟨by grind, by grind⟩ ⟨by grind, by grind⟩ hLq (D := 2 * ee) (by grind) (by grind) (by grind) (by grind)
    exact a1.subL a2 (by grind) (by grind) (by grind) (by grind) (by grind)
  · simp only [if_true]
    have e : qf (S : Int) (2 * (D : Int) + S) = qf (S : Int) ((2 * D + S : Nat) : Int) := by congr 1
    rw [e]
    have ec : ((2 * D + S : Nat) : Rat) = 2 * (D : Rat) + S := by rw [Rat.natCast_add, Rat.natCast_mul, show ((2 : Nat) : Rat) = 2 from rfl]
    obtain ⟨q, hq⟩ := rat_quot (a := (S : Rat)) (b := 2 * (D : Rat) + S) (by grind)
    have q0 := quot_ge (c := 1 / 128) (by grind) hq (by grind)
    have q1 := quot_le (c := 1) (by grind) hq (by grind)
    have hs : Nr (qf (S : Int) ((2 * D + S : Nat) : Int)) q ee := qf_near (by lia) (by rw [ec, hq]) (by grind) (by grind)
    refine ⟨q, q0, q1, hs, ?_⟩
    have a1 := nr_one.addL hs (r := 1 + q) rfl (D := 2 * ee) (by grind) (by grind) (by grind) (by grind)
    have hLq : (2 * (D : Rat) + S) / 128 * (1 + q) = (D + S) / 64 := by grind
    exact hL.mulL a1 (A := 1) (B := 2) ⟨by grind, by grind⟩ ⟨by grind, by grind⟩ hLq (by grind) (by grind) (by grind) (by grind)
theorem paint_m1 {D S : Nat} (hD : D < 32) (hS : 1 ≤ S ∧ S ≤ 32) : Nr (hlsM1 (lightF D S) (shareF D S)) (D / 64) (8 * ee) := by
  have e0 := ee_pos
  have e1 := ee_le
  have hL := light_near hD hS.2
  have d0 : (0 : Rat) ≤ (D : Rat) := by exact_mod_cast Nat.zero_le D
  have d1 : (D : Rat) ≤ 31 := by exact_mod_cast (show D ≤ 31 by lia)
  have s0 : (1 : Rat) ≤ (S : Rat) := by exact_mod_cast hS.1
  have s1 : (S : Rat) ≤ 32 := by exact_mod_cast hS.2
  obtain ⟨q, _, _, _, h2⟩ := paint_m hD hS
  unfold hlsM1
  have a1 := nr_two.mulL hL (A := 2) (B := 1) ⟨by grind, by grind⟩ ⟨by grind, by grind⟩ (r := (2 * D + S) / 64) (by grind) (D := ee) (by grind) (by grind) (by grind) (by grind)
  exact a1.subL h2 (by grind) (by grind) (by grind) (by grind) (by grind)
theorem nr_64 : Nr (Float64.ofInt 64) 64 0 := Nr.const (n := 64) (d := 1) (by decide +kernel) (by decide) (by decide +kernel) (by decide +kernel)
theorem paint_end {x : UInt64} {n : Nat} {q : Rat} (h : Nr x q (32 * ee)) (hq : 64 * q = n) (hn : n ≤ 64) : FiW (paintP x) ∧ fint (paintP x) = n := by
  have e0 := ee_pos
  have e1 := ee_le
  have n0 : (0 : Rat) ≤ (n : Rat) := by exact_mod_cast Nat.zero_le n
  have n1 : (n : Rat) ≤ 64 := by exact_mod_cast hn
  have a1 := nr_64.mulL h (A := 64) (B := 2) ⟨by grind, by grind⟩ ⟨by grind, by grind⟩ hq (D := 2049 * ee) (by grind) (by grind) (by grind) (by grind)
  have a2 := a1.addL nr_half (r := n + 1/2) rfl (D := 2050 * ee) (by grind) (by grind) (by grind) (by grind)
  obtain ⟨a, m, e, h1, h2⟩ := a2.trunc (n := n) (by grind) (by grind)
  refine ⟨⟨a, m, e, h1⟩, ?_⟩
  unfold fint paintP
  rw [h1]
  exact h2
theorem feq_zero {x : UInt64} {q : Rat} (h : Nr x q ee) (hq : 1 / 128 ≤ q) : feq x 0 = false := by
  have e1 := ee_le
  have hz := nr_zero
  unfold feq
  rw [cmp_val h.1 hz.1]
  have hlt : rv 0 < rv x := by
    have := h.2.1
    have := hz.2.2
    grind
  have hv := rv_lt.mp hlt
  have : compare (Float64.val x) (Float64.val 0) = .gt := by
    rw [Int.compare_eq_gt]
    exact hv
  rw [this]
  rfl
theorem paintOk {dk sp : Int} (h : 0 ≤ dk ∧ dk < 32 ∧ 1 ≤ sp ∧ sp ≤ 32) : PaintOk dk sp := by
  obtain ⟨D, rfl⟩ : ∃ D : Nat, dk = D := ⟨dk.toNat, by lia⟩
  obtain ⟨S, rfl⟩ : ∃ S : Nat, sp = S := ⟨sp.toNat, by lia⟩
  have hD : D < 32 := by lia
  have hS : 1 ≤ S ∧ S ≤ 32 := by lia
  have e0 := ee_pos
  have d0 : (0 : Rat) ≤ (D : Rat) := by exact_mod_cast Nat.zero_le D
  have d1 : (D : Rat) ≤ 31 := by exact_mod_cast (show D ≤ 31 by lia)
  have s0 : (1 : Rat) ≤ (S : Rat) := by exact_mod_cast hS.1
  have s1 : (S : Rat) ≤ 32 := by exact_mod_cast hS.2
  obtain ⟨q, q0, q1, hs, h2⟩ := paint_m hD hS
  have h1 := paint_m1 hD hS
  refine ⟨feq_zero hs q0, fun third j ht hj => ?_⟩
  have hk := hue_kinds third ht j hj
  unfold hueK at hk
  have ep : pcomp D S third j = vF (hlsM1 (lightF D S) (shareF D S)) (hlsM2 (lightF D S) (shareF D S)) (hueF third j) := rfl
  rw [ep]
  by_cases e : third = j
  · subst e
    simp only [if_true] at hk
    rw [vF_two hk]
    have : paintI D S third third = ((D + S : Nat) : Int) := by unfold paintI; rw [if_pos rfl]; push_cast; rfl
    rw [this]
    exact paint_end (h2.mono (by grind)) (by rw [Rat.natCast_add]; grind) (by lia)
  · simp only [e, if_false] at hk
    have : paintI D S third j = ((D : Nat) : Int) := by unfold paintI; rw [if_neg (by lia)]
    rw [this]
    exact paint_end (vF_one h1 (h2.mono (by grind)) ⟨by grind, by grind⟩ ⟨by grind, by grind⟩ hk) (by grind) (by lia)

noncomputable abbrev UU : Nat := 2 ^ 1061
noncomputable def Ex (x : UInt64) (n : Int) : Prop := Fi x ∧ Float64.val x = n * (UU : Int)
theorem UU_pos : (0 : Int) < (UU : Int) := by exact_mod_cast Nat.two_pow_pos 1061
theorem UU_FS : ((UU : Nat) : Rat) * 8192 = FS := by
  rw [← FS_is, show (8192 : Rat) = ((2 ^ 13 : Nat) : Rat) from rfl, ← Rat.natCast_mul, ← Nat.pow_add]
theorem Ex.rv {x : UInt64} {n : Int} (h : Ex x n) : rv x = n / 8192 := by
  have hS := FS_pos
  have e := val_rv x
  rw [h.2, Rat.intCast_mul, Rat.intCast_natCast] at e
  have e2 := UU_FS
  unfold Mine.rv
  rw [h.2, Rat.intCast_mul, Rat.intCast_natCast]
  have hd : (((UU : Nat) : Rat)) ≠ 0 := by grind
  rw [← e2]
  generalize ((UU : Nat) : Rat) = u at *
  exact (by grind : (n : Rat) * u / (u * 8192) = n / 8192)
theorem Ex.of_rv {x : UInt64} {n : Int} (hf : Fi x) (h : Mine.rv x = n / 8192) : Ex x n := by
  refine ⟨hf, ?_⟩
  have e := val_rv x
  rw [h, ← UU_FS] at e
  have : (Float64.val x : Rat) = ((n * (UU : Int) : Int) : Rat) := by
    rw [e, Rat.intCast_mul, Rat.intCast_natCast]
    grind
  exact Rat.intCast_inj.mp this
theorem Ex.nr {x : UInt64} {n : Int} (h : Ex x n) : Nr x (n / 8192) 0 := ⟨h.1, by rw [h.rv]; grind, by rw [h.rv]; grind⟩
theorem ex_of_nr {x : UInt64} {n : Int} (h : Nr x (n / 8192) 0) : Ex x n := .of_rv h.1 (by have := h.2.1; have := h.2.2; grind)
theorem ex_cmp {x y : UInt64} {n k : Int} (hx : Ex x n) (hy : Ex y k) : Float64.cmp x y = some (compare n k) := by
  rw [cmp_val hx.1 hy.1, hx.2, hy.2, ← compare_scale UU_pos]
theorem ex_flt {x y : UInt64} {n k : Int} (hx : Ex x n) (hy : Ex y k) : flt x y = decide (n < k) := by
  unfold flt
  rw [ex_cmp hx hy]
  by_cases h : n < k
  · rw [Int.compare_eq_lt.mpr h, decide_eq_true h]; rfl
  · rw [decide_eq_false h]
    rcases hc : compare n k with _ | _ | _
    · exact absurd (Int.compare_eq_lt.mp hc) h
    · rfl
    · rfl
theorem ex_feq {x y : UInt64} {n k : Int} (hx : Ex x n) (hy : Ex y k) : feq x y = decide (n = k) := by
  unfold feq
  rw [ex_cmp hx hy]
  by_cases h : n = k
  · rw [Int.compare_eq_eq.mpr h, decide_eq_true h]; rfl
  · rw [decide_eq_false h]
    rcases hc : compare n k with _ | _ | _
    · rfl
    · exact absurd (Int.compare_eq_eq.mp hc) h
    · rfl
theorem ex_max {x y z : UInt64} {a b c : Int} (hx : Ex x a) (hy : Ex y b) (hz : Ex z c) : Ex (max3 x y z) (max a (max b c)) := by
  unfold max3
  rw [ex_flt hx hy, ex_flt hy hz, ex_flt hx hz]
  by_cases h1 : a < b
  · rw [decide_eq_true h1]
    by_cases h2 : b < c
    · rw [Int.max_eq_right (Int.le_of_lt h2), Int.max_eq_right (Int.le_of_lt (Int.lt_trans h1 h2)), decide_eq_true h2]; exact hz
    · rw [Int.max_eq_left (Int.not_lt.mp h2), Int.max_eq_right (Int.le_of_lt h1), decide_eq_false h2]; exact hy
  · rw [decide_eq_false h1]
    by_cases h3 : a < c
    · rw [Int.max_eq_right (Int.le_trans (Int.not_lt.mp h1) (Int.le_of_lt h3)), Int.max_eq_right (Int.le_of_lt h3), decide_eq_true h3]; exact hz
    · rw [Int.max_eq_left (Int.max_le.mpr ⟨Int.not_lt.mp h1, Int.not_lt.mp h3⟩), decide_eq_false h3]; exact hx
theorem ex_min {x y z : UInt64} {a b c : Int} (hx : Ex x a) (hy : Ex y b) (hz : Ex z c) : Ex (min3 x y z) (min a (min b c)) := by
  unfold min3
  rw [ex_flt hy hx, ex_flt hz hy, ex_flt hz hx]
  by_cases h1 : b < a
  · rw [decide_eq_true h1]
    by_cases h2 : c < b
    · rw [Int.min_eq_right (Int.le_of_lt h2), Int.min_eq_right (Int.le_of_lt (Int.lt_trans h2 h1)), decide_eq_true h2]; exact hz
    · rw [Int.min_eq_left (Int.not_lt.mp h2), Int.min_eq_right (Int.le_of_lt h1), decide_eq_false h2]; exact hy
  · rw [decide_eq_false h1]
    by_cases h3 : c < a
    · rw [Int.min_eq_right (Int.le_trans (Int.le_of_lt h3) (Int.not_lt.mp h1)), Int.min_eq_right (Int.le_of_lt h3), decide_eq_true h3]; exact hz
    · rw [Int.min_eq_left (Int.le_min.mpr ⟨Int.not_lt.mp h1, Int.not_lt.mp h3⟩), decide_eq_false h3]; exact hx
open Float64 in
theorem ex_add {x y : UInt64} {n k : Int} (hx : Ex x n) (hy : Ex y k) (hb : (n + k).natAbs ≤ 2 ^ 20) : Ex (add x y) (n + k) := by
  obtain ⟨a, m, e, dx⟩ := hx.1
  obtain ⟨b, l, f, dy⟩ := hy.1
  have hr := add_right dx dy
  have hU := UU_pos
  have ev : val x + val y = (n + k) * (UU : Int) := by rw [hx.2, hy.2]; exact (Int.add_mul _ _ _).symm
  rw [ev] at hr
  by_cases h0 : n + k = 0
  · rw [hr.1 (by rw [h0, Int.zero_mul])]
    have hz := zero_val (a && b)
    exact ⟨hz.1, by rw [hz.2, h0, Int.zero_mul]⟩
  · have hne : (n + k) * (UU : Int) ≠ 0 := Int.mul_ne_zero h0 (by lia)
    have R := hr.2 hne
    have hA : ((n + k) * (UU : Int)).natAbs = (n + k).natAbs * UU := by rw [Int.natAbs_mul, Int.natAbs_natCast]
    rw [hA] at R
    have hW : (n + k).natAbs * UU ≤ 1 * (FU * 2 ^ 52) := by
      rw [Nat.one_mul, FU_88]
      refine Nat.le_trans (Nat.mul_le_mul_right _ hb) ?_
      show 2 ^ 20 * 2 ^ 1061 ≤ 2 ^ 1088
      rw [← Nat.pow_add]
      exact Nat.pow_le_pow_right (by decide) (by decide)
    have hv := right_exact (n := (n + k).natAbs) (k := 1061) R (by decide) hW (Nat.le_trans hb (by decide)) (Nat.one_mul _).symm
    refine ⟨(right_near R (by decide) hW).1, ?_⟩
    rw [hv]
    have hs : decide ((n + k) * (UU : Int) < 0) = decide (n + k < 0) := by
      apply decide_eq_decide.mpr
      constructor
      · intro h
        by_cases h2 : n + k < 0
        · exact h2
        · have := Int.mul_nonneg (show 0 ≤ n + k by lia) (Int.le_of_lt hU)
          lia
      · intro h
        exact Int.mul_neg_of_neg_of_pos h hU
    rw [hs, sgn_mul]
    congr 1
    unfold sgn
    by_cases h : n + k < 0
    · rw [decide_eq_true h]; simp only [if_true]; lia
    · rw [decide_eq_false h]; simp only [Bool.false_eq_true, if_false]; lia
theorem ex_neg {y : UInt64} {k : Int} (h : Ex y k) : Ex (Float64.neg y) (-k) := by
  obtain ⟨b, l, f, dy⟩ := h.1
  exact ⟨fi_nan h.1, by rw [Float64.neg_val dy, h.2, Int.neg_mul]⟩
theorem ex_sub {x y : UInt64} {n k : Int} (hx : Ex x n) (hy : Ex y k) (hb : (n - k).natAbs ≤ 2 ^ 20) : Ex (Float64.sub x y) (n - k) := by
  have e : Float64.sub x y = Float64.add x (Float64.neg y) := by with_unfolding_all rfl
  rw [e, Int.sub_eq_add_neg]
  exact ex_add hx (ex_neg hy) (by lia)
theorem ex_qf {P : Int} (h : 0 ≤ P ∧ P ≤ 16384) : Ex (qf P 8192) P := by
  obtain ⟨p, rfl⟩ : ∃ p : Nat, P = p := ⟨P.toNat, by lia⟩
  refine ex_of_nr ?_
  have := qf_pow (a := p) (k := 13) (q := (p : Rat) / 8192) (by decide) (by lia) (by rw [show ((2 ^ 13 : Nat) : Rat) = 8192 from rfl]; grind)
  rw [Rat.intCast_natCast]
  exact this
theorem ex_two : Ex 4611686018427387904 16384 := ex_of_nr (by
  have h := nr_two
  have e : ((16384 : Int) : Rat) / 8192 = 2 := by decide +kernel
  rw [e]
  exact h)
open Float64 in
theorem ex_isZero {x : UInt64} {n : Int} (h : Ex x n) (h0 : n ≠ 0) : isZero x = false := by
  obtain ⟨a, m, e, dx⟩ := h.1
  have hv := h.2
  have hU := UU_pos
  have hne : n * (UU : Int) ≠ 0 := Int.mul_ne_zero h0 (by lia)
  rw [val_eq dx] at hv
  unfold isZero
  rw [dx]
  cases m with
  | zero =>
    exfalso
    apply hne
    rw [← hv, Nat.zero_mul]
    cases a <;> rfl
  | succ m => rfl
theorem ex_div {x y : UInt64} {n k : Int} {q : Rat} (hx : Ex x n) (hy : Ex y k) (hk : k ≠ 0) (hq : (n : Rat) = q * k) (h1 : -16000 ≤ q) (h2 : q ≤ 16000) : Nr (Float64.div x y) q ee := by
  have hU := UU_pos
  have h0 : Float64.val y ≠ 0 := by rw [hy.2]; exact Int.mul_ne_zero hk (by lia)
  exact div_near hx.1 hy.1 h0 (by rw [hx.rv, hy.rv, hq]; grind) (by show (-16384 : Rat) ≤ _; grind) (by show _ ≤ (16384 : Rat); grind)
theorem Nr.divC {x y : UInt64} {p c d r D : Rat} (hx : Nr x p d) (hy : Nr y c 0) (hc : 1 ≤ c) (hr : r * c = p) (hD : d + ee ≤ D) (hd : 0 ≤ d) (hD1 : D ≤ 1) (h1 : -16000 ≤ r) (h2 : r ≤ 16000) : Nr (Float64.div x y) r D := by
  have e0 := ee_pos
  have ey : rv y = c := by have := hy.2.1; have := hy.2.2; grind
  have hv : Float64.val y ≠ 0 := by
    intro h
    have : rv y = 0 := by unfold rv; rw [h, Rat.div_def]; exact Rat.zero_mul _
    grind
  obtain ⟨z, hz⟩ := rat_quot (a := rv x) (b := c) (by grind)
  have a1 := hx.2.1
  have a2 := hx.2.2
  have b1 : r - d ≤ z := by
    apply quot_ge (by grind) hz
    have : 0 ≤ d * (c - 1) := Rat.mul_nonneg hd (by grind)
    grind
  have b2 : z ≤ r + d := by
    apply quot_le (by grind) hz
    have : 0 ≤ d * (c - 1) := Rat.mul_nonneg hd (by grind)
    grind
  obtain ⟨f, c1, c2⟩ := div_near hx.1 hy.1 hv (by rw [ey, hz]) (by show (-16384 : Rat) ≤ _; grind) (by show _ ≤ (16384 : Rat); grind)
  have e : eps = ee := rfl
  rw [e] at c1 c2
  exact ⟨f, by grind, by grind⟩

open Float64 in
theorem one_decode : decode 4607182418800017408 = .fin false (2 ^ 52) (-52) := by with_unfolding_all rfl
open Float64 in
theorem fmod_one {x : UInt64} (hx : Fi x) (h1 : -1 < rv x) (h2 : rv x < 1) : Nr (fmod x 4607182418800017408) (rv x) ee := by
  obtain ⟨a, m, e, dx⟩ := hx
  have he := decode_ge dx
  have hS := FS_pos
  have hvr := val_rv x
  have hva := val_natAbs dx
  have hC : (0 : Nat) < 2 ^ 1074 := Nat.two_pow_pos _
  -- below one
  have b1 : val x < ((2 ^ 1074 : Nat) : Int) := by
    have : ((val x : Int) : Rat) < (((2 ^ 1074 : Nat) : Int) : Rat) := by
      rw [Rat.intCast_natCast, FS_is, hvr]
      have := Rat.mul_lt_mul_of_pos_right h2 hS
      grind
    exact Rat.intCast_lt_intCast.mp this
  have b2 : -((2 ^ 1074 : Nat) : Int) < val x := by
    have : ((-((2 ^ 1074 : Nat) : Int) : Int) : Rat) < ((val x : Int) : Rat) := by
      rw [Rat.intCast_neg, Rat.intCast_natCast, FS_is, hvr]
      have := Rat.mul_lt_mul_of_pos_right h1 hS
      grind
    exact Rat.intCast_lt_intCast.mp this
  have hW : m * 2 ^ (e + 1074).toNat < 2 ^ 1074 := by rw [← hva]; generalize hC' : (2 : Nat) ^ 1074 = C at *; lia
  have h0 : 0 ≤ min e (-52) + 1074 := ge0 (Int.le_min.mpr ⟨he, by decide⟩)
  have hM : (m * 2 ^ (e - min e (-52)).toNat) % (2 ^ 52 * 2 ^ (-52 - min e (-52)).toNat) = m * 2 ^ (e - min e (-52)).toNat := by
    apply Nat.mod_eq_of_lt
    have hg : 0 < (2 : Nat) ^ (min e (-52) + 1074).toNat := Nat.two_pow_pos _
    apply Nat.lt_of_mul_lt_mul_right (a := 2 ^ (min e (-52) + 1074).toNat)
    rw [Nat.mul_assoc, Nat.mul_assoc, ← Nat.pow_add, ← Nat.pow_add, ← Nat.pow_add]
    have e1 : (e - min e (-52)).toNat + (min e (-52) + 1074).toNat = (e + 1074).toNat := (toNat_split (Int.min_le_left _ _) h0).symm
    have e2 : 52 + ((-52 - min e (-52)).toNat + (min e (-52) + 1074).toNat) = 1074 := by rw [← toNat_split (Int.min_le_right _ _) h0]; rfl
    rw [e1, e2]
    exact hW
  have hf : fmod x 4607182418800017408 = ofBin a (m * 2 ^ (e - min e (-52)).toNat) (min e (-52)) := by
    unfold fmod
    rw [dx, one_decode]
    show (if (2 ^ 52 : Nat) == 0 then nan else ofBin a (((m * 2 ^ (e - min e (-52)).toNat : Nat) : Int).toNat % ((2 ^ 52 * 2 ^ (-52 - min e (-52)).toNat : Nat) : Int).toNat) (min e (-52))) = _
    rw [Int.toNat_natCast, Int.toNat_natCast, hM]
    rfl
  rw [hf]
  unfold ofBin
  have R : Right (ofFrac a (shift (m * 2 ^ (e - min e (-52)).toNat) 1 (min e (-52))).1 (shift (m * 2 ^ (e - min e (-52)).toNat) 1 (min e (-52))).2) a (val x).natAbs 1 := by
    refine ofFrac_right (shift_pos _ _ _ (by decide)) ?_ (by decide)
    have := shift_one (m * 2 ^ (e - min e (-52)).toNat) (min e (-52)) 1074 (by first | exact h0 | lia)
    rw [hva, Nat.mul_one, this, Nat.mul_assoc m, ← Nat.pow_add]
    congr 3
    have e1 : (e - min e (-52)).toNat + (min e (-52) + ((1074 : Nat) : Int)).toNat = (e + 1074).toNat := (toNat_split (Int.min_le_left _ _) h0).symm
    rw [e1]
  have hq : ((val x : Int) : Rat) = rv x * (((1 : Nat) : Rat) * FS) := by rw [hvr, show ((1 : Nat) : Rat) = 1 from rfl]; grind
  obtain ⟨f, v, ev, c1, c2⟩ := right_near R (by decide) (by
    rw [hva, Nat.one_mul, FU_88]
    exact Nat.le_trans (Nat.le_of_lt hW) (Nat.pow_le_pow_right (by decide) (by decide)))
  refine ⟨f, ?_⟩
  have s := signed_near (neg := a) c1 c2
  rw [← ev, ← val_sgn dx] at s
  exact near_rat (N := val x) (D := 1) (by decide) s.1 s.2 hq
open Float64 in
theorem copysign_one : copysign (zero false) 4607182418800017408 = 0 := by decide +kernel
open Float64 in
theorem lt_one : lt 4607182418800017408 (zero false) = false := by decide +kernel
open Float64 in
theorem divmod_one (x : UInt64) : (divmod x 4607182418800017408).2 = if isZero (fmod x 4607182418800017408) then 0 else if lt (fmod x 4607182418800017408) (zero false) then add (fmod x 4607182418800017408) 4607182418800017408 else fmod x 4607182418800017408 := by
  unfold divmod
  simp only
  rw [copysign_one, lt_one]
  cases isZero (fmod x 4607182418800017408) <;> cases lt (fmod x 4607182418800017408) (zero false) <;> rfl
open Float64 in
theorem isZero_val {x : UInt64} (h : isZero x = true) (hx : Fi x) : val x = 0 := by
  obtain ⟨a, m, e, dx⟩ := hx
  unfold isZero at h
  rw [dx] at h
  cases m with
  | zero => rw [val_eq dx, Nat.zero_mul]; cases a <;> rfl
  | succ m => cases h
theorem rv_of_val {x : UInt64} (h : Float64.val x = 0) : rv x = 0 := by unfold rv; rw [h, Rat.div_def]; exact Rat.zero_mul _
open Float64 in
theorem divmod_near {x : UInt64} {q d : Rat} (hx : Nr x q d) (hd : 0 ≤ d) (hd1 : d ≤ 1 / 1024) (h1 : -1 < q - d) (h2 : q + d < 1) :
    (Nr (divmod x 4607182418800017408).2 q (d + 2 * ee) ∧ 0 ≤ q + d + 2 * ee) ∨ Nr (divmod x 4607182418800017408).2 (q + 1) (d + 2 * ee) := by
  have e0 := ee_pos
  have e1 := ee_le
  have a1 := hx.2.1
  have a2 := hx.2.2
  have hm := fmod_one hx.1 (by grind) (by grind)
  have m1 := hm.2.1
  have m2 := hm.2.2
  rw [divmod_one]
  by_cases hz : isZero (fmod x 4607182418800017408) = true
  · rw [if_pos hz]
    have hv := rv_of_val (isZero_val hz hm.1)
    have z := nr_zero
    have z1 := z.2.1
    have z2 := z.2.2
    exact .inl ⟨⟨z.1, by grind, by grind⟩, by grind⟩
  · rw [if_neg hz]
    have hlt : lt (fmod x 4607182418800017408) (zero false) = decide (val (fmod x 4607182418800017408) < 0) := by
      have z := zero_val false
      unfold lt
      rw [cmp_val hm.1 z.1, z.2]
      by_cases h : val (fmod x 4607182418800017408) < 0
      · rw [Int.compare_eq_lt.mpr h, decide_eq_true h]; rfl
      · rw [decide_eq_false h]
        rcases hc : compare (val (fmod x 4607182418800017408)) 0 with _ | _ | _
        · exact absurd (Int.compare_eq_lt.mp hc) h
        · rfl
        · rfl
    rw [hlt]
    by_cases h : val (fmod x 4607182418800017408) < 0
    · rw [decide_eq_true h, if_pos rfl]
      right
      have hm' : Nr (fmod x 4607182418800017408) q (d + ee) := ⟨hm.1, by grind, by grind⟩
      exact hm'.addL nr_one rfl (by grind) (by grind) (by grind) (by grind)
    · rw [decide_eq_false h, if_neg (by decide)]
      left
      refine ⟨⟨hm.1, by grind, by grind⟩, ?_⟩
      have z := nr_zero
      have hnl : ¬ rv (fmod x 4607182418800017408) < rv 0 := fun hl => by
        have := rv_lt.mp hl
        have z0 : val 0 = 0 := by decide +kernel
        rw [z0] at this
        exact h this
      have := Rat.not_lt.mp hnl
      have z1 := z.2.1
      grind

theorem fint_near {x : UInt64} {q d : Rat} {n : Nat} (h : Nr x q d) (h1 : (n : Rat) + d ≤ q) (h2 : q + d < (n : Rat) + 1) : FiW x ∧ fint x = n := by
  obtain ⟨a, m, e, c1, c2⟩ := h.trunc h1 h2
  refine ⟨⟨a, m, e, c1⟩, ?_⟩
  unfold fint
  rw [c1]
  exact c2
theorem ofInt_near {n : Nat} (hn : n ≤ 16000) : Nr (Float64.ofInt n) n 0 := by
  have e : Float64.ofInt n = Float64.ofFrac false n (2 ^ 0) := by
    have h : Float64.ofInt (n : Int) = Float64.ofFrac (decide ((n : Int) < 0)) (n : Int).natAbs 1 := by with_unfolding_all rfl
    rw [h, decide_eq_false (by lia)]
    rfl
  rw [e]
  obtain ⟨f, r⟩ := frac_pow (n := n) (k := 0) (q := (n : Rat)) (by decide) (by lia) (by rw [show ((2 ^ 0 : Nat) : Rat) = 1 from rfl]; grind)
  exact ⟨f, by rw [r]; grind, by rw [r]; grind⟩
theorem nr_8192 : Nr (Float64.ofInt 8192) 8192 0 := ofInt_near (n := 8192) (by decide)
theorem width_near {l s : UInt64} {Sm R q : Rat} (hl : Nr l (Sm / 16384) ee) (hS : 0 ≤ Sm ∧ Sm ≤ 16000) (hR : 0 ≤ R ∧ R ≤ 8000) (hs : Nr s q ee) (hq : 0 ≤ q ∧ q ≤ 7)
    (h : (fle l 4602678819172646912 = true → q * Sm = R) ∧ (fle l 4602678819172646912 = false → q * (16384 - Sm) = R)) : Nr (tW l s) (R / 8192) (48 * ee) := by
  have e0 := ee_pos
  have e1 := ee_le
  unfold tW
  cases hb : fle l 4602678819172646912
  · have hq2 := h.2 hb
    rw [if_neg (by decide)]
    unfold tWB
    have a1 := nr_two.mulL hl (A := 2) (B := 1) ⟨by grind, by grind⟩ ⟨by grind, by grind⟩ (r := Sm / 8192) (by grind) (D := 3 * ee) (by grind) (by grind) (by grind) (by grind)
    have a2 := nr_two.subL a1 (r := (16384 - Sm) / 8192) (by grind) (D := 4 * ee) (by grind) (by grind) (by grind) (by grind)
    exact hs.mulL a2 (A := 8) (B := 2) ⟨by grind, by grind⟩ ⟨by grind, by grind⟩ (r := R / 8192) (by grind) (by grind) (by grind) (by grind) (by grind)
  · have hq2 := h.1 hb
    rw [if_pos rfl]
    unfold tWA
    have a1 := hs.mulL nr_two (A := 8) (B := 2) ⟨by grind, by grind⟩ ⟨by grind, by grind⟩ (r := 2 * q) (by grind) (D := 3 * ee) (by grind) (by grind) (by grind) (by grind)
    exact a1.mulL hl (A := 16) (B := 1) ⟨by grind, by grind⟩ ⟨by grind, by grind⟩ (r := R / 8192) (by grind) (by grind) (by grind) (by grind) (by grind)
theorem side_near {W : UInt64} {sp m : Nat} (hs : 1 ≤ sp ∧ sp ≤ 32) (hm : m ≤ 250) (h : Nr W (((sp * m : Nat) : Rat) / 8192) (48 * ee)) : FiW (tSide sp W) ∧ fint (tSide sp W) = m := by
  have e0 := ee_pos
  have e1 := ee_le
  have s0 : (1 : Rat) ≤ (sp : Rat) := by exact_mod_cast hs.1
  have m0 : (0 : Rat) ≤ (m : Rat) := by exact_mod_cast Nat.zero_le m
  have m1 : (m : Rat) ≤ 250 := by exact_mod_cast hm
  have p0 : (0 : Rat) ≤ ((sp * m : Nat) : Rat) := by exact_mod_cast Nat.zero_le _
  have p1 : ((sp * m : Nat) : Rat) ≤ 8000 := by exact_mod_cast Nat.le_trans (Nat.mul_le_mul hs.2 hm) (by decide)
  have a1 := nr_8192.mulL h (A := 8192) (B := 1) ⟨by grind, by grind⟩ ⟨by grind, by grind⟩ (r := ((sp * m : Nat) : Rat)) (by grind) (D := 400000 * ee) (by grind) (by unfold ee eps; decide +kernel) (by grind) (by grind)
  have a2 := a1.divC (ofInt_near (n := sp) (by lia)) s0 (r := (m : Rat)) (by rw [Rat.natCast_mul]; grind) (D := 400001 * ee) (by grind) (by grind) (by unfold ee eps; decide +kernel) (by grind) (by grind)
  have a3 := a2.addL nr_half (r := m + 1 / 2) rfl (D := 400002 * ee) (by grind) (by unfold ee eps; decide +kernel) (by grind) (by grind)
  have hsm : 400002 * ee ≤ 1 / 4 := by unfold ee eps; decide +kernel
  exact fint_near a3 (by grind) (by grind)
theorem turn_near {h0 : UInt64} {m : Nat} {t : Int} {q : Rat} (hm : 1 ≤ m ∧ m ≤ 250) (ht : -(m : Int) ≤ t ∧ t ≤ 5 * m) (hq : q * m = t) (hh : Nr h0 q (10 * ee)) :
    ∃ T : Nat, (T : Int) < 10000 ∧ (((T : Int) = t ∧ 0 ≤ t) ∨ (T : Int) = t + 6 * m) ∧ FiW (tTurn m (Float64.divmod (Float64.div h0 4618441417868443648) 4607182418800017408).2) ∧ fint (tTurn m (Float64.divmod (Float64.div h0 4618441417868443648) 4607182418800017408).2) = T := by
  have e0 := ee_pos
  have e1 := ee_le
  have m0 : (1 : Rat) ≤ (m : Rat) := by exact_mod_cast hm.1
  have m1 : (m : Rat) ≤ 250 := by exact_mod_cast hm.2
  have t0 : -(m : Rat) ≤ (t : Rat) := by
    have := Rat.intCast_le_intCast.mpr ht.1
    rw [Rat.intCast_neg, Rat.intCast_natCast] at this
    exact this
  have t1 : (t : Rat) ≤ 5 * (m : Rat) := by
    have := Rat.intCast_le_intCast.mpr ht.2
    rw [Rat.intCast_mul, Rat.intCast_natCast] at this
    exact this
  have q0 : -1 ≤ q := quot_ge (by grind) hq (by grind)
  have q1 : q ≤ 5 := quot_le (by grind) hq (by grind)
  have a1 := hh.divC nr_six (by grind) (r := q / 6) (by grind) (D := 11 * ee) (by grind) (by grind) (by grind) (by grind) (by grind)
  have h6 := ofInt_near (n := 6 * m) (by lia)
  have e6 : ((6 * m : Nat) : Int) = 6 * (m : Int) := by push_cast; rfl
  have r6 : ((6 * m : Nat) : Rat) = 6 * (m : Rat) := by rw [Rat.natCast_mul]; rfl
  have hsm : 20000 * ee ≤ 1 / 4 := by unfold ee eps; decide +kernel
  unfold tTurn
  rw [e6, r6] at h6
  have fin : ∀ {T : Nat} {x : UInt64} {p : Rat}, Nr x p (13 * ee) → 0 ≤ p + 1 → p ≤ 2 → 6 * (m : Rat) * p = T → (T : Rat) ≤ 10000 → FiW (Float64.add (Float64.mul (Float64.ofInt (6 * (m : Int))) x) 4602678819172646912) ∧ fint (Float64.add (Float64.mul (Float64.ofInt (6 * (m : Int))) x) 4602678819172646912) = T := by
    intro T x p hx p0 p1 hp hT
    have T0 : (0 : Rat) ≤ (T : Rat) := by exact_mod_cast Nat.zero_le T
    have b1 := h6.mulL hx (A := 1500) (B := 2) ⟨by grind, by grind⟩ ⟨by grind, by grind⟩ (r := (T : Rat)) hp (D := 19501 * ee) (by grind) (by grind) (by grind) (by grind)
    have b2 := b1.addL nr_half (r := T + 1 / 2) rfl (D := 19502 * ee) (by grind) (by grind) (by grind) (by grind)
    exact fint_near b2 (by grind) (by grind)
  rcases divmod_near a1 (by grind) (by grind) (by grind) (by grind) with ⟨c, c0⟩ | c
  · have tn : 0 ≤ t := by
      have : -1 < (t : Rat) := by
        have : 0 ≤ (q + 78 * ee) * m := Rat.mul_nonneg (by grind) (by grind)
        have : ee * m ≤ ee * 250 := Rat.mul_le_mul_of_nonneg_left m1 e0
        grind
      have h : ((-1 : Int) : Rat) < (t : Rat) := by exact this
      have := Rat.intCast_lt_intCast.mp h
      lia
    obtain ⟨T, rfl⟩ : ∃ T : Nat, t = T := ⟨t.toNat, by lia⟩
    rw [Rat.intCast_natCast] at *
    refine ⟨T, by lia, .inl ⟨rfl, tn⟩, fin (c.mono (by grind)) (by grind) (by grind) (by grind) (by grind)⟩
  · obtain ⟨T, hT⟩ : ∃ T : Nat, t + 6 * (m : Int) = T := ⟨(t + 6 * m).toNat, by lia⟩
    have hTr : (t : Rat) + 6 * (m : Rat) = T := by
      have : ((t + 6 * (m : Int) : Int) : Rat) = ((T : Int) : Rat) := by rw [hT]
      rw [Rat.intCast_add, Rat.intCast_mul, Rat.intCast_natCast, Rat.intCast_natCast] at this
      exact this
    exact ⟨T, by lia, .inr hT.symm, fin (c.mono (by grind)) (by grind) (by grind) (by grind) (by grind)⟩
theorem told_open {m T r q : Int} (hm : 0 < m) (hT : T.fmod (6 * m) = m * q + r) (hr : 0 ≤ r) (hr2 : r < m) : toldX m T = (m - r) * cX q + r * cX (q + 1) ∧ toldY m T = (m - r) * cY q + r * cY (q + 1) := by
  have hn : m ≠ 0 := fun h => by rw [h] at hm; exact absurd hm (by decide)
  have e1 : (m * q + r).fmod m = r := by rw [Int.fmod_eq_emod_of_nonneg _ (Int.le_of_lt hm), Int.mul_add_emod_self_left, Int.emod_eq_of_lt hr hr2]
  have e2 : (m * q + r).fdiv m = q := by rw [Int.fdiv_eq_ediv_of_nonneg _ (Int.le_of_lt hm), Int.mul_add_ediv_left _ _ hn, Int.ediv_eq_zero_of_lt hr hr2, Int.add_zero]
  unfold toldX toldY
  rw [if_neg hn, if_neg hn, hT, e1, e2]
  exact ⟨rfl, rfl⟩
theorem fmod_six {m u : Int} (hm : 0 < m) (h0 : 0 ≤ u) (h1 : u < 6 * m) : u.fmod (6 * m) = u ∧ (u + 6 * m).fmod (6 * m) = u := by
  have h6 : 0 ≤ 6 * m := Int.mul_nonneg (by decide) (Int.le_of_lt hm)
  rw [Int.fmod_eq_emod_of_nonneg _ h6, Int.fmod_eq_emod_of_nonneg _ h6, Int.add_emod_right]
  exact ⟨Int.emod_eq_of_lt h0 h1, Int.emod_eq_of_lt h0 h1⟩
theorem told_rim {m T r : Int} {q : Nat} (hm : 0 < m) (hq : q < 6) (hr : 0 ≤ r) (hr2 : r ≤ m) (hT : T = m * q + r ∨ T = m * q + r + 6 * m) : toldX m T = (m - r) * cX q + r * cX (q + 1) ∧ toldY m T = (m - r) * cY q + r * cY (q + 1) := by
  have mq : ∀ k : Nat, k < 6 → 0 ≤ m * (k : Int) ∧ m * (k : Int) + m ≤ 6 * m := fun k hk => by
    refine ⟨Int.mul_nonneg (Int.le_of_lt hm) (Int.natCast_nonneg _), ?_⟩
    have := Int.mul_le_mul_of_nonneg_left (show (k : Int) + 1 ≤ 6 from by exact_mod_cast hk) (Int.le_of_lt hm)
    rwa [Int.mul_add, Int.mul_one, Int.mul_comm m 6] at this
  rcases Int.lt_or_eq_of_le hr2 with h | rfl
  · have f := fmod_six hm (Int.add_nonneg (mq q hq).1 hr) (Int.lt_of_lt_of_le (Int.add_lt_add_left h _) (mq q hq).2)
    refine told_open hm ?_ hr h
    rcases hT with rfl | rfl
    · exact f.1
    · exact f.2
  · -- the next corner
    rw [Int.sub_self, Int.zero_mul, Int.zero_mul, Int.zero_add, Int.zero_add]
    have key : ∀ k : Nat, k < 6 → (T = r * k ∨ T = r * k + 6 * r) → toldX r T = r * cX k ∧ toldY r T = r * cY k := fun k hk h => by
      have f := fmod_six hm (mq k hk).1 (Int.lt_of_lt_of_le (Int.lt_add_of_pos_right _ hm) (mq k hk).2)
      have := told_open (q := k) (r := 0) (T := T) hm (by rw [Int.add_zero]; rcases h with rfl | rfl; exact f.1; exact f.2) (Int.le_refl _) hm
      rwa [Int.sub_zero, Int.zero_mul, Int.zero_mul, Int.add_zero, Int.add_zero] at this
    have e : r * (q : Int) + r = r * ((q : Int) + 1) := by rw [Int.mul_add, Int.mul_one]
    rw [e] at hT
    by_cases h5 : q < 5
    · exact key (q + 1) (Nat.succ_lt_succ h5) hT
    · obtain rfl : q = 5 := Nat.le_antisymm (Nat.le_of_lt_succ hq) (Nat.le_of_not_lt h5)
      have e6 : r * (((5 : Nat) : Int) + 1) = 6 * r := Int.mul_comm _ _
      rw [e6] at hT
      rcases hT with rfl | rfl
      · exact key 0 (by decide) (.inr (by rw [Int.natCast_zero, Int.mul_zero, Int.zero_add]))
      · have h6 : 0 ≤ 6 * r := Int.mul_nonneg (by decide) hr
        have := told_open (q := 0) (r := 0) (T := 6 * r + 6 * r) hm (by rw [Int.fmod_eq_emod_of_nonneg _ h6, Int.add_emod_right, Int.emod_self, Int.mul_zero, Int.add_zero]) (Int.le_refl _) hm
        rwa [Int.sub_zero, Int.zero_mul, Int.zero_mul, Int.add_zero, Int.add_zero] at this

theorem mul_mono {sp a b : Int} (hs : 1 ≤ sp) (h : a ≤ b) : sp * a ≤ sp * b := Int.mul_le_mul_of_nonneg_left h (by lia)
theorem mul_lt_of {sp a b : Int} (hs : 1 ≤ sp) (h : a < b) : sp * a < sp * b := Int.mul_lt_mul_of_pos_left h (by lia)
theorem mm_a {a b c : Int} (h1 : c ≤ b) (h2 : b ≤ a) : max a (max b c) = a ∧ min a (min b c) = c := by rw [Int.max_eq_left h1, Int.max_eq_left h2, Int.min_eq_right h1, Int.min_eq_right (Int.le_trans h1 h2)]; exact ⟨rfl, rfl⟩
theorem mm_f {a b c : Int} (h1 : b ≤ c) (h2 : c ≤ a) : max a (max b c) = a ∧ min a (min b c) = b := by rw [Int.max_eq_right h1, Int.max_eq_left h2, Int.min_eq_left h1, Int.min_eq_right (Int.le_trans h1 h2)]; exact ⟨rfl, rfl⟩
theorem mm_b {a b c : Int} (h1 : c ≤ a) (h2 : a ≤ b) : max a (max b c) = b ∧ min a (min b c) = c := by rw [Int.max_eq_left (Int.le_trans h1 h2), Int.max_eq_right h2, Int.min_eq_right (Int.le_trans h1 h2), Int.min_eq_right h1]; exact ⟨rfl, rfl⟩
theorem mm_c {a b c : Int} (h1 : a ≤ c) (h2 : c ≤ b) : max a (max b c) = b ∧ min a (min b c) = a := by rw [Int.max_eq_left h2, Int.max_eq_right (Int.le_trans h1 h2), Int.min_eq_right h2, Int.min_eq_left h1]; exact ⟨rfl, rfl⟩
theorem mm_d {a b c : Int} (h1 : a ≤ b) (h2 : b ≤ c) : max a (max b c) = c ∧ min a (min b c) = a := by rw [Int.max_eq_right h2, Int.max_eq_right (Int.le_trans h1 h2), Int.min_eq_left h2, Int.min_eq_left h1]; exact ⟨rfl, rfl⟩
theorem mm_e {a b c : Int} (h1 : b ≤ a) (h2 : a ≤ c) : max a (max b c) = c ∧ min a (min b c) = b := by rw [Int.max_eq_right (Int.le_trans h1 h2), Int.max_eq_right h2, Int.min_eq_left (Int.le_trans h1 h2), Int.min_eq_right h1]; exact ⟨rfl, rfl⟩
theorem cs0 {m r : Int} : (m - r) * cX (0 : Nat) + r * cX ((0 : Nat) + 1) = m ∧ (m - r) * cY (0 : Nat) + r * cY ((0 : Nat) + 1) = r := by simp [cX, cY, Int.sub_add_cancel]
theorem cs1 {m r : Int} : (m - r) * cX (1 : Nat) + r * cX ((1 : Nat) + 1) = m - r ∧ (m - r) * cY (1 : Nat) + r * cY ((1 : Nat) + 1) = m := by simp [cX, cY, Int.sub_add_cancel]
theorem cs2 {m r : Int} : (m - r) * cX (2 : Nat) + r * cX ((2 : Nat) + 1) = -r ∧ (m - r) * cY (2 : Nat) + r * cY ((2 : Nat) + 1) = m - r := by simp [cX, cY]
theorem cs3 {m r : Int} : (m - r) * cX (3 : Nat) + r * cX ((3 : Nat) + 1) = -m ∧ (m - r) * cY (3 : Nat) + r * cY ((3 : Nat) + 1) = -r := by simp [cX, cY]; lia
theorem cs4 {m r : Int} : (m - r) * cX (4 : Nat) + r * cX ((4 : Nat) + 1) = r - m ∧ (m - r) * cY (4 : Nat) + r * cY ((4 : Nat) + 1) = -m := by simp [cX, cY]; lia
theorem cs5 {m r : Int} : (m - r) * cX (5 : Nat) + r * cX ((5 : Nat) + 1) = r ∧ (m - r) * cY (5 : Nat) + r * cY ((5 : Nat) + 1) = r - m := by simp [cX, cY]; lia
structure Spot (sp x y P0 P1 P2 A B m r t : Int) (q : Nat) : Prop where
  hq : q < 6
  mx : max P0 (max P1 P2) = A
  mn : min P0 (min P1 P2) = B
  rng : A - B = sp * m
  r0 : 0 ≤ r
  rm : r ≤ m
  spot : (m - r) * cX q + r * cX (q + 1) = x ∧ (m - r) * cY q + r * cY (q + 1) = y
  turn : (q ≤ 4 ∧ t = m * q + r) ∨ (t = r - m ∧ t = m * q + r - 6 * m ∧ t < 0)
  mv : m = x ∨ m = x - y ∨ m = -y ∨ m = y ∨ m = y - x ∨ m = -x
  hue : (P0 = A ∧ t = y) ∨ (P0 ≠ A ∧ P1 = A ∧ t = 2 * m - x) ∨ (P0 ≠ A ∧ P1 ≠ A ∧ P2 = A ∧ t = 4 * m + x - y)
theorem pot_order {sp x y P0 P1 P2 : Int} (hs : 1 ≤ sp) (h0 : P0 = P2 + sp * x) (h1 : P1 = P2 + sp * y) : ∃ A B m r t q, Spot sp x y P0 P1 P2 A B m r t q := by
  have le2 : ∀ {a b : Int}, a ≤ b → P2 + sp * a ≤ P2 + sp * b := fun h => Int.add_le_add_left (mul_mono hs h) _
  have lt2 : ∀ {a b : Int}, a < b → P2 + sp * a < P2 + sp * b := fun h => Int.add_lt_add_left (mul_lt_of hs h) _
  have le0 : ∀ {b : Int}, 0 ≤ b → P2 ≤ P2 + sp * b := fun h => Int.le_add_of_nonneg_right (Int.mul_nonneg (Int.le_trans (by decide) hs) h)
  have lt0 : ∀ {a : Int}, a < 0 → P2 + sp * a < P2 := fun {a} h => by have := lt2 h; rwa [Int.mul_zero, Int.add_zero] at this
  have sb : ∀ {a b : Int}, P2 + sp * a - (P2 + sp * b) = sp * (a - b) := fun {a b} => by rw [Int.mul_sub, Int.add_sub_add_left]
  have sr : ∀ {a : Int}, P2 + sp * a - P2 = sp * a := fun {a} => by rw [Int.add_comm, Int.add_sub_cancel]
  have sl : ∀ {a : Int}, P2 - (P2 + sp * a) = sp * -a := fun {a} => by rw [Int.mul_neg, ← Int.sub_sub, Int.sub_self, Int.zero_sub]
  subst h0 h1
  by_cases a : y ≤ x
  · by_cases b : 0 ≤ x
    · by_cases c : 0 ≤ y
      · have M := mm_a (le0 c) (le2 a)
        exact ⟨_, _, x, y, y, 0, by decide, M.1, M.2, sr, c, a, cs0, .inl ⟨by decide, by rw [Int.natCast_zero, Int.mul_zero, Int.zero_add]⟩, .inl rfl, .inl ⟨rfl, rfl⟩⟩
      · have c := Int.not_le.mp c
        have M := mm_f (Int.le_of_lt (lt0 c)) (le0 b)
        exact ⟨_, _, x - y, x, y, 5, by decide, M.1, M.2, sb, b, by lia, ⟨cs5.1, cs5.2.trans (Int.sub_sub_self x y)⟩, .inr ⟨(Int.sub_sub_self x y).symm, by lia, c⟩, .inr (.inl rfl), .inl ⟨rfl, rfl⟩⟩
    · have b := Int.not_le.mp b
      rcases Int.lt_or_eq_of_le a with a' | rfl
      · have M := mm_e (le2 a) (Int.le_of_lt (lt0 b))
        exact ⟨_, _, -y, x - y, 4 * -y + x - y, 4, by decide, M.1, M.2, sl, Int.sub_nonneg_of_le a, by lia, ⟨cs4.1.trans (by lia), cs4.2.trans (Int.neg_neg y)⟩, .inl ⟨by decide, by lia⟩, .inr (.inr (.inl rfl)), .inr (.inr ⟨Int.ne_of_lt (lt0 b), Int.ne_of_lt (lt0 (Int.lt_of_le_of_lt a b)), rfl, rfl⟩)⟩
      · have M := mm_d (a := P2 + sp * y) (b := P2 + sp * y) (Int.le_refl _) (Int.le_of_lt (lt0 b))
        exact ⟨_, _, -y, -y, 4 * -y + y - y, 3, by decide, M.1, M.2, sl, by lia, Int.le_refl _, ⟨cs3.1.trans (Int.neg_neg y), cs3.2.trans (Int.neg_neg y)⟩, .inl ⟨by decide, by lia⟩, .inr (.inr (.inl rfl)), .inr (.inr ⟨Int.ne_of_lt (lt0 b), Int.ne_of_lt (lt0 b), rfl, rfl⟩)⟩
  · have a := Int.not_le.mp a
    by_cases b : 0 ≤ y
    · by_cases c : 0 ≤ x
      · have M := mm_b (le0 c) (le2 (Int.le_of_lt a))
        exact ⟨_, _, y, y - x, 2 * y - x, 1, by decide, M.1, M.2, sr, by lia, by lia, ⟨cs1.1.trans (Int.sub_sub_self y x), cs1.2⟩, .inl ⟨by decide, by lia⟩, .inr (.inr (.inr (.inl rfl))), .inr (.inl ⟨Int.ne_of_lt (lt2 a), rfl, rfl⟩)⟩
      · have c := Int.not_le.mp c
        have M := mm_c (Int.le_of_lt (lt0 c)) (le0 b)
        exact ⟨_, _, y - x, -x, 2 * (y - x) - x, 2, by decide, M.1, M.2, sb, by lia, by lia, ⟨cs2.1.trans (Int.neg_neg x), cs2.2.trans (by lia)⟩, .inl ⟨by decide, by lia⟩, .inr (.inr (.inr (.inr (.inl rfl)))), .inr (.inl ⟨Int.ne_of_lt (lt2 a), rfl, rfl⟩)⟩
    · have b := Int.not_le.mp b
      have M := mm_d (le2 (Int.le_of_lt a)) (Int.le_of_lt (lt0 b))
      exact ⟨_, _, -x, -y, 4 * -x + x - y, 3, by decide, M.1, M.2, sl, by lia, by lia, ⟨cs3.1.trans (Int.neg_neg x), cs3.2.trans (Int.neg_neg y)⟩, .inl ⟨by decide, by lia⟩, .inr (.inr (.inr (.inr (.inr rfl)))), .inr (.inr ⟨Int.ne_of_lt (lt0 (Int.lt_trans a b)), Int.ne_of_lt (lt0 b), rfl, rfl⟩)⟩
theorem rat_le_of {a b : Int} (h : a ≤ b) : (a : Rat) ≤ (b : Rat) := Rat.intCast_le_intCast.mpr h
theorem rat_mul_cancel {a b s : Rat} (hs : 1 ≤ s) (h : a * s = b * s) : a = b := by
  have : (a - b) * s = 0 := by grind
  rcases Rat.mul_eq_zero.mp this with h | h <;> grind
theorem nb20 {x : Int} (h1 : -100000 ≤ x) (h2 : x ≤ 100000) : x.natAbs ≤ 2 ^ 20 := by lia
theorem tb {A B P : Int} (h0 : 0 ≤ B) (h1 : B ≤ A) (h2 : B ≤ 4160) (h3 : A < 10700) (h4 : B ≤ P ∧ P ≤ A) :
    (A - B).natAbs ≤ 2 ^ 20 ∧ (A + B).natAbs ≤ 2 ^ 20 ∧ (16384 - A).natAbs ≤ 2 ^ 20 ∧ (16384 - A - B).natAbs ≤ 2 ^ 20 ∧ (A - P).natAbs ≤ 2 ^ 20 ∧ (A ≠ B → A - B ≠ 0 ∧ A + B ≠ 0) ∧ 16384 - A - B ≠ 0 :=
  ⟨nb20 (by lia) (by lia), nb20 (by lia) (by lia), nb20 (by lia) (by lia), nb20 (by lia) (by lia), nb20 (by lia) (by lia), fun h => ⟨fun e => h (Int.sub_eq_zero.mp e), by lia⟩, by lia⟩
theorem max_le3 {a b c A : Int} (e : max a (max b c) = A) : a ≤ A ∧ b ≤ A ∧ c ≤ A := by
  subst e
  exact ⟨Int.le_max_left .., Int.le_trans (Int.le_max_left b c) (Int.le_max_right ..), Int.le_trans (Int.le_max_right b c) (Int.le_max_right ..)⟩
theorem min_le3 {a b c B : Int} (e : min a (min b c) = B) : B ≤ a ∧ B ≤ b ∧ B ≤ c := by
  subst e
  exact ⟨Int.min_le_left .., Int.le_trans (Int.min_le_right ..) (Int.min_le_left b c), Int.le_trans (Int.min_le_right ..) (Int.min_le_right b c)⟩
theorem rat_low {a b : Int} (h : a + 1 ≤ b) : (a : Rat) + 1 ≤ (b : Rat) := by
  have := rat_le_of h
  rwa [Rat.intCast_add] at this
theorem share_near {x y z : UInt64} {A B : Int} (XM : Ex (max3 x y z) A) (Xm : Ex (min3 x y z) B) (XR : Ex (Float64.sub (max3 x y z) (min3 x y z)) (A - B)) (XS : Ex (Float64.add (max3 x y z) (min3 x y z)) (A + B)) (XT : Ex (Float64.sub (Float64.sub 4611686018427387904 (max3 x y z)) (min3 x y z)) (16384 - A - B))
    (rA : (0 : Rat) ≤ (B : Rat)) (rB : (B : Rat) ≤ (A : Rat)) (rC : (B : Rat) ≤ 4160) (rD : (A : Rat) ≤ 10700) (hlt : A ≠ B → B + 1 ≤ A) (hS : A ≠ B → A + B ≠ 0) (hT : 16384 - A - B ≠ 0) :
    ∃ q : Rat, Nr (hlsS x y z) q ee ∧ (0 ≤ q ∧ q ≤ 7) ∧ (fle (hlsL x y z) 4602678819172646912 = true → q * ((A : Rat) + B) = (A : Rat) - B) ∧ (fle (hlsL x y z) 4602678819172646912 = false → q * (16384 - ((A : Rat) + B)) = (A : Rat) - B) := by
  have e0 := ee_pos
  have rS : (((A + B : Int)) : Rat) = (A : Rat) + B := Rat.intCast_add A B
  have rR : (((A - B : Int)) : Rat) = (A : Rat) - B := Rat.intCast_sub A B
  have rT : (((16384 - A - B : Int)) : Rat) = 16384 - (A : Rat) - B := by rw [Rat.intCast_sub, Rat.intCast_sub]; rfl
  unfold hlsS
  rw [ex_feq Xm XM]
  by_cases hBA : B = A
  · rw [decide_eq_true hBA, if_pos rfl]
    subst hBA
    exact ⟨0, nr_zero.mono e0, ⟨by grind, by grind⟩, fun _ => by grind, fun _ => by grind⟩
  · rw [decide_eq_false hBA, if_neg (by decide)]
    have hne : A ≠ B := fun h => hBA h.symm
    have rE := rat_low (hlt hne)
    cases hb : fle (hlsL x y z) 4602678819172646912
    · rw [if_neg (by decide)]
      obtain ⟨q, hq⟩ := rat_quot (a := (A : Rat) - B) (b := 16384 - (A : Rat) - B) (by grind)
      have c0 := quot_nonneg (by grind) hq (by grind)
      have c1 := quot_le (c := 7) (by grind) hq (by grind)
      exact ⟨q, ex_div XR XT hT (by rw [rR, rT, hq]) (by grind) (by grind), ⟨c0, c1⟩, (fun h => by cases h), fun _ => by grind⟩
    · rw [if_pos rfl]
      obtain ⟨q, hq⟩ := rat_quot (a := (A : Rat) - B) (b := (A : Rat) + B) (by grind)
      have c0 := quot_nonneg (by grind) hq (by grind)
      have c1 := quot_le (c := 1) (by grind) hq (by grind)
      exact ⟨q, ex_div XR XS (hS hne) (by rw [rR, rS, hq]) (by grind) (by grind), ⟨c0, by grind⟩, fun _ => hq, (fun h => by cases h)⟩
theorem hue_near {P0 P1 P2 A B x y t : Int} {s M : Nat} (X0 : Ex (qf P0 8192) P0) (X1 : Ex (qf P1 8192) P1) (X2 : Ex (qf P2 8192) P2) (XM : Ex (max3 (qf P0 8192) (qf P1 8192) (qf P2 8192)) A) (XR : Ex (Float64.sub (max3 (qf P0 8192) (qf P1 8192) (qf P2 8192)) (min3 (qf P0 8192) (qf P1 8192) (qf P2 8192))) (A - B)) (hR0 : A - B ≠ 0) (hR1 : 1 ≤ A - B)
    (i0 : B ≤ P0 ∧ P0 ≤ A) (i1 : B ≤ P1 ∧ P1 ≤ A) (i2 : B ≤ P2 ∧ P2 ≤ A) (hb : ∀ P, B ≤ P ∧ P ≤ A → (A - P).natAbs ≤ 2 ^ 20) (s1 : (1 : Rat) ≤ (s : Rat)) (rRM : (A : Rat) - B = s * M) (q0 : P0 = P2 + s * x) (q1 : P1 = P2 + s * y)
    (hc : (P0 = A ∧ t = y) ∨ (P0 ≠ A ∧ P1 = A ∧ t = 2 * (M : Int) - x) ∨ (P0 ≠ A ∧ P1 ≠ A ∧ P2 = A ∧ t = 4 * (M : Int) + x - y)) : ∃ q : Rat, q * M = t ∧ Nr (hlsH0 (qf P0 8192) (qf P1 8192) (qf P2 8192)) q (10 * ee) := by
  have e0 := ee_pos
  have e1 := ee_le
  have sM := rat_le_of hR1
  rw [Rat.intCast_sub, show ((1 : Int) : Rat) = 1 from rfl] at sM
  have hC : ∀ {P : Int}, Ex (qf P 8192) P → (B ≤ P ∧ P ≤ A) → ∃ z : Rat, Nr (hlsC (qf P0 8192) (qf P1 8192) (qf P2 8192) (qf P 8192)) z ee ∧ z * ((A : Rat) - B) = (A : Rat) - P ∧ 0 ≤ z ∧ z ≤ 1 := by
    intro P XP hP
    have r1 := rat_le_of hP.1
    have r2 := rat_le_of hP.2
    obtain ⟨z, hz⟩ := rat_quot (a := (A : Rat) - P) (b := (A : Rat) - B) (by grind)
    have z0 := quot_nonneg (by grind) hz (by grind)
    have z1 := quot_le (c := 1) (by grind) hz (by grind)
    exact ⟨z, ex_div (ex_sub XM XP (hb P hP)) XR hR0 (by rw [Rat.intCast_sub, Rat.intCast_sub, hz]) (by grind) (by grind), hz, z0, z1⟩
  obtain ⟨z0, n0, f0, g0, g0'⟩ := hC X0 i0
  obtain ⟨z1, n1, f1, g1, g1'⟩ := hC X1 i1
  obtain ⟨z2, n2, f2, g2, g2'⟩ := hC X2 i2
  have rP0 : (P0 : Rat) = P2 + s * x := by rw [q0, Rat.intCast_add, Rat.intCast_mul, Rat.intCast_natCast]
  have rP1 : (P1 : Rat) = P2 + s * y := by rw [q1, Rat.intCast_add, Rat.intCast_mul, Rat.intCast_natCast]
  rw [rRM] at f0 f1 f2
  clear XR hC hb i0 i1 i2 hR0 hR1 sM rRM
  unfold hlsH0
  rw [ex_feq X0 XM, ex_feq X1 XM]
  rcases hc with ⟨a1, rfl⟩ | ⟨a1, a2, rfl⟩ | ⟨a1, a2, a3, rfl⟩
  · rw [decide_eq_true a1, if_pos rfl]
    exact ⟨z2 - z1, rat_mul_cancel s1 (by grind), n2.subL n1 rfl (by grind) (by grind) (by grind) (by grind)⟩
  · rw [decide_eq_false a1, if_neg (by decide), decide_eq_true a2, if_pos rfl]
    have c := nr_two.addL n0 (r := 2 + z0) rfl (D := 2 * ee) (by grind) (by grind) (by grind) (by grind)
    refine ⟨2 + z0 - z2, ?_, c.subL n2 rfl (by grind) (by grind) (by grind) (by grind)⟩
    rw [Rat.intCast_sub, Rat.intCast_mul, Rat.intCast_natCast, show ((2 : Int) : Rat) = 2 from rfl]
    exact rat_mul_cancel s1 (by grind)
  · rw [decide_eq_false a1, if_neg (by decide), decide_eq_false a2, if_neg (by decide)]
    have c := nr_four.addL n1 (r := 4 + z1) rfl (D := 2 * ee) (by grind) (by grind) (by grind) (by grind)
    refine ⟨4 + z1 - z0, ?_, c.subL n0 rfl (by grind) (by grind) (by grind) (by grind)⟩
    rw [Rat.intCast_sub, Rat.intCast_add, Rat.intCast_mul, Rat.intCast_natCast, show ((4 : Int) : Rat) = 4 from rfl]
    exact rat_mul_cancel s1 (by grind)
theorem m_bound {x y m : Int} (hx : -200 < x ∧ x < 200) (hy : -200 < y ∧ y < 200) (hxy : -200 < x - y ∧ x - y < 200) (h : m = x ∨ m = x - y ∨ m = -y ∨ m = y ∨ m = y - x ∨ m = -x) : m ≤ 250 := by
  rcases h with h | h | h | h | h | h <;> rw [h] <;> lia
theorem t_bound {m r t : Int} {q : Nat} (h1 : 0 ≤ r) (h2 : r ≤ m) (h : (q ≤ 4 ∧ t = m * q + r) ∨ (t = r - m ∧ t = m * q + r - 6 * m ∧ t < 0)) : -m ≤ t ∧ t ≤ 5 * m := by
  have hm0 : 0 ≤ m := Int.le_trans h1 h2
  rcases h with ⟨h4, c⟩ | ⟨c, _, c2⟩
  · have a := Int.mul_le_mul_of_nonneg_left (show (q : Int) ≤ 4 from by exact_mod_cast h4) hm0
    have b := Int.mul_nonneg hm0 (Int.natCast_nonneg q)
    generalize m * (q : Int) = z at *
    lia
  · lia
theorem toldOk {sp x y P0 P1 P2 : Int} {e : Nat} (hs : 1 ≤ sp ∧ sp ≤ 32) (he : e ≤ 9) (hx : -200 < x ∧ x < 200) (hy : -200 < y ∧ y < 200) (hxy : -200 < x - y ∧ x - y < 200) (h : PotOk sp x y e P0 P1 P2) : ToldOk sp P0 P1 P2 x y := by
  obtain ⟨b0, b1, b2⟩ := h.bound hs hx hy hxy he
  obtain ⟨q0, q1, p0, p1, p2, hlow⟩ := h
  have he' : 3584 + 64 * (e : Int) ≤ 4160 := by lia
  obtain ⟨A, B, m, r, t, q, S⟩ := pot_order hs.1 q0 q1
  have i := max_le3 S.mx
  have j := min_le3 S.mn
  have hB0 : 0 ≤ B := S.mn ▸ Int.le_min.mpr ⟨p0, Int.le_min.mpr ⟨p1, p2⟩⟩
  have hA : A < 10700 := S.mx ▸ Int.max_lt.mpr ⟨b0.2, Int.max_lt.mpr ⟨b1.2, b2.2⟩⟩
  have hB4 : B ≤ 4160 := by
    rcases hlow with h | h | h
    · exact Int.le_trans j.1 (Int.le_trans h he')
    · exact Int.le_trans j.2.1 (Int.le_trans h he')
    · exact Int.le_trans j.2.2 (Int.le_trans h he')
  have hBA : B ≤ A := Int.le_trans j.1 i.1
  have hm0 : 0 ≤ m := Int.le_trans S.r0 S.rm
  have hm2 : m ≤ 250 := m_bound hx hy hxy S.mv
  have ht : -m ≤ t ∧ t ≤ 5 * m := t_bound S.r0 S.rm S.turn
  have bd := tb hB0 hBA hB4 hA (P := A) ⟨hBA, Int.le_refl _⟩
  have X0 := ex_qf (P := P0) ⟨p0, Int.le_trans (Int.le_of_lt b0.2) (by decide)⟩
  have X1 := ex_qf (P := P1) ⟨p1, Int.le_trans (Int.le_of_lt b1.2) (by decide)⟩
  have X2 := ex_qf (P := P2) ⟨p2, Int.le_trans (Int.le_of_lt b2.2) (by decide)⟩
  have XM := ex_max X0 X1 X2
  have Xm := ex_min X0 X1 X2
  rw [S.mx] at XM
  rw [S.mn] at Xm
  have XR := ex_sub XM Xm bd.1
  have XS := ex_add XM Xm bd.2.1
  have XT := ex_sub (ex_sub ex_two XM bd.2.2.1) Xm bd.2.2.2.1
  have ok : hlsOk (qf P0 8192) (qf P1 8192) (qf P2 8192) := fun hne => by
    rw [ex_feq Xm XM] at hne
    have hne2 : A ≠ B := fun h => of_decide_eq_false hne h.symm
    exact ⟨ex_isZero XR (bd.2.2.2.2.2.1 hne2).1, ex_isZero XS (bd.2.2.2.2.2.1 hne2).2, ex_isZero XT bd.2.2.2.2.2.2⟩
  have rA : (0 : Rat) ≤ (B : Rat) := rat_le_of hB0
  have rB : (B : Rat) ≤ (A : Rat) := rat_le_of hBA
  have rC : (B : Rat) ≤ 4160 := rat_le_of hB4
  have rD : (A : Rat) ≤ 10700 := rat_le_of (Int.le_of_lt hA)
  have e0 := ee_pos
  have hl : Nr (hlsL (qf P0 8192) (qf P1 8192) (qf P2 8192)) (((A : Rat) + B) / 16384) ee :=
    XS.nr.divC nr_two (by grind) (r := ((A : Rat) + B) / 16384) (by rw [Rat.intCast_add]; grind) (D := ee) (by grind) (by grind) (by unfold ee eps; decide +kernel) (by grind) (by grind)
  obtain ⟨q', hs0, hs1, hsq⟩ := share_near XM Xm XR XS XT rA rB rC rD (fun h => Int.add_one_le_of_lt (Int.lt_iff_le_and_ne.mpr ⟨hBA, Ne.symm h⟩)) (fun h => (bd.2.2.2.2.2.1 h).2) bd.2.2.2.2.2.2
  obtain ⟨M, rfl⟩ := Int.eq_ofNat_of_zero_le hm0
  obtain ⟨s, rfl⟩ := Int.eq_ofNat_of_zero_le (Int.le_trans (by decide) hs.1)
  have hs' : 1 ≤ s ∧ s ≤ 32 := ⟨by exact_mod_cast hs.1, by exact_mod_cast hs.2⟩
  have hM' : M ≤ 250 := by exact_mod_cast hm2
  have rSM : ((s * M : Nat) : Rat) = (A : Rat) - B := by
    rw [← Rat.intCast_sub, S.rng, ← Rat.intCast_natCast]
    congr 1
  have p0' : (0 : Rat) ≤ ((s * M : Nat) : Rat) := by exact_mod_cast Nat.zero_le _
  have p1' : ((s * M : Nat) : Rat) ≤ 8000 := by exact_mod_cast Nat.le_trans (Nat.mul_le_mul hs'.2 hM') (by decide)
  rw [rSM] at p0' p1'
  have hw := width_near hl ⟨by grind, by grind⟩ ⟨p0', p1'⟩ hs0 hs1 hsq
  have hside := side_near (sp := s) (m := M) hs' hM' (by rw [rSM]; exact hw)
  have lt16 : ∀ {P : Int}, P < 10700 → P < 16000 := fun h => Int.lt_trans h (by decide)
  have hM1 : (M : Int) < 1000 := Int.lt_of_le_of_lt hm2 (by decide)
  by_cases hM : M = 0
  · subst hM
    have hr0 : r = 0 := Int.le_antisymm S.rm S.r0
    have sx := S.spot
    rw [hr0] at sx
    have zx : (0 : Int) = x := by rw [← sx.1]; simp
    have zy : (0 : Int) = y := by rw [← sx.2]; simp
    exact ⟨0, 0, ⟨p0, lt16 b0.2⟩, ⟨p1, lt16 b1.2⟩, ⟨p2, lt16 b2.2⟩, by decide, by decide, ok, hside, fun h => absurd rfl h, zx, zy⟩
  · have hM2 : 1 ≤ M := Nat.pos_of_ne_zero hM
    have s1 : (1 : Rat) ≤ (s : Rat) := by exact_mod_cast hs'.1
    have rRM : (A : Rat) - B = s * M := by rw [← rSM, Rat.natCast_mul]
    have hR1 : 1 ≤ A - B := by
      rw [S.rng]
      exact_mod_cast Nat.mul_le_mul hs'.1 hM2
    have hne : ¬ B = A := fun h => by rw [h, Int.sub_self] at hR1; exact absurd hR1 (by decide)
    obtain ⟨qh, hq, hh⟩ := hue_near X0 X1 X2 XM XR (fun h => by rw [h] at hR1; exact absurd hR1 (by decide)) hR1 ⟨j.1, i.1⟩ ⟨j.2.1, i.2.1⟩ ⟨j.2.2, i.2.2⟩ (fun P h => (tb hB0 hBA hB4 hA h).2.2.2.2.1) s1 rRM q0 q1 S.hue
    obtain ⟨T, hT, hTt, hturn⟩ := turn_near (m := M) ⟨hM2, hM'⟩ ht hq hh
    have hsp := told_rim (T := T) (m := M) (by exact_mod_cast hM2) S.hq S.r0 S.rm (by
      rcases S.turn with ⟨_, c⟩ | ⟨_, c, c2⟩
      · rcases hTt with ⟨h, _⟩ | h
        · exact .inl (h.trans c)
        · exact .inr (h.trans (by rw [c]))
      · rcases hTt with ⟨_, h⟩ | h
        · exact absurd h (Int.not_le.mpr c2)
        · exact .inl (h.trans (by rw [c, Int.sub_add_cancel])))
    rw [S.spot.1, S.spot.2] at hsp
    have eH : hlsH (qf P0 8192) (qf P1 8192) (qf P2 8192) = (Float64.divmod (Float64.div (hlsH0 (qf P0 8192) (qf P1 8192) (qf P2 8192)) 4618441417868443648) 4607182418800017408).2 := by
      unfold hlsH
      rw [ex_feq Xm XM, decide_eq_false hne, if_neg (by decide)]
    exact ⟨M, T, ⟨p0, lt16 b0.2⟩, ⟨p1, lt16 b1.2⟩, ⟨p2, lt16 b2.2⟩, ⟨Int.natCast_nonneg _, hM1⟩, ⟨Int.natCast_nonneg _, hT⟩, ok, hside, fun _ => by rw [eH]; exact hturn, hsp.1, hsp.2⟩

theorem fresh_T_law17 : True := by
  k_with_none
  w_on
  w_top off
  (k_with "1 my lit" => ((try (conv in (occs := *) lawSt _ => all_goals whnf)); (try (conv in (occs := *) lawT _ => all_goals whnf)); (try (conv in (occs := *) lawU _ => all_goals whnf)); (try (conv in (occs := *) lawIfT => all_goals whnf)); (try (conv in (occs := *) lawIter => all_goals whnf)); (conv in (occs := *) lawScope => all_goals (whnf; dsimp only))))
  (k_with "1 cd" => (dsimp only [Mine.Calls, Mine.Ret, Mine.RetNew, Mine.KH, Mine.VW, Mine.prg] at hC))
  (k_with "1 cc" => ((case k1 => k_asm); (case k2 => k_asm); (case k3 => k_asm); (case k4 => k_asm); (case k5 => k_asm); (case kK => first | exact rfl | assumption); (case kd => ktr_room); (case ku => ktr_units)))
  (k_with "1 eval Name" => (k_here; k_dflt (refine' nameX_L ?F ?v ?_ ?a ?b ?c; (case F => k_asm); (case a => rfl); (case b => rfl); (case v => first | exact @rfl (Option Value) (some _) | assumption); (case c => decide); k_whole)))
  (k_with "1 eval Name" => (k_here; (with_reducible show wpAny _ _ (eval (Expr.Name _ _) (envX _ _ _ _ _ (lawCl _ _ _ _ _ _ _ _))) _ _ _); (refine' nameX_L (by k_asm) (by assumption) ?_ ?a ?b ?c; (case a => rfl); (case b => rfl); (case c => decide)); (try dsimp only)))
  trivial
noncomputable def drop1 (a : Addr) (nw : Led) : Led := nw.filter fun q => q.1 != a
theorem mem_drop1 {a : Addr} {nw : Led} {q : Addr × Obj} : q ∈ drop1 a nw ↔ q ∈ nw ∧ q.1 ≠ a := by
  simp [drop1, List.mem_filter]
theorem news_drop1 {h₀ h : Heap} {L a : Addr} {o : Obj} {nw : Led} (N : News h₀ L h nw) (ho : (a, o) ∈ nw) : News h₀ L h ((a, o) :: drop1 a nw) := newsSub N fun q hq => by
  rcases List.mem_cons.mp hq with rfl | hq
  · exact ho
  · exact (mem_drop1.mp hq).1
theorem ap_drop1 {a : Addr} {nw : Led} : ∀ q ∈ drop1 a nw, q.1 ≠ a := fun _ hq => (mem_drop1.mp hq).2
theorem law17 (news : Led) (fr : LF) (ob : Obj) (k f : Int) (t tf : Tok) (hob : (ab, ob) ∈ news) (hdb : ob.data = .cell none) (h0 : 0 ≤ k) (h1 : k < 2187) (hk : nmOf fr "number" = some (.int k t)) (hf : nmOf fr "first" = some (.int f tf)) :
    AtLaw [lawSt 16] news fr
      (fun h₀ L s Q => ∀ p dx hash tkd tkv Ts rest' n ob' h' tk', ob'.data = .cell (some (.ref p)) → Fr h₀ L h' (nmOf fr) → News h₀ L h' ((ab, ob') :: (p, accObj dx (refs Ts) n) :: rest') → (∀ q ∈ (p, accObj dx (refs Ts) n) :: rest', q.1 ≠ ab) → (∀ q ∈ rest', q.1 ≠ p) → Ts.length = 8 → (∀ i, i < 8 → IsP rest' (Ts.getD i 0) (digS (fig (6551 - k) (7 - i)))) →
        (dx, sizeD hash tkd (.int f tkv)) ∈ rest' → (∀ q ∈ news, q.1 ≠ ab → q ∈ rest') → (∀ q ∈ news, q.1 ≠ p) → Q .next { s with heap := h', toks := tk' }) := by
  dsimp only [AtLaw, KH, VW, prg]
  k_fill
  intros; rename_i hret
  walk_at "my lit"
  (k_with "call ref" => refine hold ?_)
  (k_with "storeName" => refine hold ?_)
  k_steps
  dsimp only [Hold]
  have hC := fun t tf => pile_call w mean mg mb news (6551 - k) f t tf (by lia) (by lia)
  (walk_at "cd"; refine' hC _ _ _ _ _ _ _ _ _ _ _ _ _ _ _ _ _ _ _ ?k1 ?k2 ?k3 ?k4 ?k5 ?kK ?kd ?ku ?_; walk_at "cc"; clear hC)
  intro p dx hash tkd Ts rest' n h5 tk5 F5 N5 e1 e2 e3 e4 e5
  k_steps
  dsimp only [Hold]
  have hm := List.Mem.tail (p, accObj dx (refs Ts) n) (e4 _ hob)
  have N6 := news_drop1 N5 hm
  have np : p ≠ ab := Ne.symm (e5 _ (e4 _ hob))
  refine storeX_C F5 N6 rfl (.head ap_drop1) hdb ?_
  intro h7 o7 F7 N7 d7
  have keepT : ∀ q ∈ rest', (∀ x, q.2.data ≠ .cell x) → q ∈ drop1 ab rest' := fun q hq hc => mem_drop1.mpr ⟨hq, led_ne N5 hm (.tail _ hq) fun e => hc none (e ▸ hdb)⟩
  refine wpAny_execs_nil (hret p dx hash tkd tf Ts (drop1 ab rest') n o7 h7 _ d7 F7 (newsSub N7 fun q hq => ?_) (ap_cons np ap_drop1) (fun q hq => e5 q (mem_drop1.mp hq).1) e1 (fun i hi => ?_) (keepT _ e3 fun x h => by cases h) (fun q hq hn => mem_drop1.mpr ⟨e4 q hq, hn⟩) (fun q hq => e5 q (e4 q hq)))
  · rcases List.mem_cons.mp hq with rfl | hq
    · exact .head _
    · rcases List.mem_cons.mp hq with rfl | hq
      · exact .tail _ (mem_drop1.mpr ⟨.head _, np⟩)
      · exact .tail _ (mem_drop1.mpr ⟨.tail _ (mem_drop1.mp hq).1, (mem_drop1.mp hq).2⟩)
  · obtain ⟨t1, t2, h⟩ := e2 i hi
    exact ⟨t1, t2, keepT _ h fun x h => by cases h⟩

theorem fresh_T_law18 : True := by
  k_with_none
  w_on
  w_top off
  (k_with "1 my lit" => ((try (conv in (occs := *) lawSt _ => all_goals whnf)); (try (conv in (occs := *) lawT _ => all_goals whnf)); (try (conv in (occs := *) lawU _ => all_goals whnf)); (try (conv in (occs := *) lawIfT => all_goals whnf)); (try (conv in (occs := *) lawIter => all_goals whnf)); (conv in (occs := *) lawScope => all_goals (whnf; dsimp only))))
  (k_with "1 cd" => (dsimp only [Mine.Calls, Mine.Ret, Mine.RetNew, Mine.KH, Mine.VW, Mine.prg] at hC))
  (k_with "1 cc" => ((case k1 => k_asm); (case k2 => k_asm); (case k3 => k_asm); (case k4 => k_asm); (case k5 => k_asm); (case kK => first | exact rfl | assumption); (case kd => ktr_room); (case ku => ktr_units)))
  (k_with "1 eval Name" => (k_here; k_dflt (refine' nameX_L ?F ?v ?_ ?a ?b ?c; (case F => k_asm); (case a => rfl); (case b => rfl); (case v => first | exact @rfl (Option Value) (some _) | assumption); (case c => decide); k_whole)))
  (k_with "1 eval Name" => (k_here; (with_reducible show wpAny _ _ (eval (Expr.Name _ _) (envX _ _ _ _ _ (lawCl _ _ _ _ _ _ _ _))) _ _ _); (refine' nameX_L (by k_asm) (by assumption) ?_ ?a ?b ?c; (case a => rfl); (case b => rfl); (case c => decide)); (try dsimp only)))
  trivial
theorem bj_ty : typeOf (.builtin "bytes.join") = pure (.type "method_descriptor") := by kernel_rfl
theorem bj_method {prog : Program} {w : World} {A : Around} {E : Value → Shared → Prop} {s : Shared} {d : Array UInt8} {t : Tok} {pl : Sem Bool} {Q : Value × List Value → Shared → Prop} (h : Q (.builtin "bytes.join", [.bytes d t]) s) : wpAny (model prog w) A (getMethod (.bytes d t) "join" pl) Q E s :=
  getMethod_builtin (PySem.W.typeIs_bytes _ _ _) PySem.W.FB.plainAttrs_bytes bj_slot bj_ty (fun a ha => by cases ha) h
noncomputable def CrList (ws : List Int) (K : Int) (ys : List Value) : Prop := ∀ j, j < ys.length → ∃ t, ys[j]? = some (.bytes #[crB ws (K + j)] t)
noncomputable def AgainJ (p dx : Addr) (ws : List Int) (K : Int) (keep : Led) (i : Nat) (ys : List Value) (nw : Led) : Prop :=
  ∃ Ts n rest, nw = (p, accObj dx (refs Ts) n) :: rest ∧ (∀ q ∈ rest, q.1 ≠ p) ∧ Ts.length = 8 ∧ (∀ j, j < 8 → IsP rest (Ts.getD j 0) (digS (fig (K + i) (7 - j)))) ∧ (∀ q ∈ keep, q ∈ rest) ∧ ys.length = i ∧ CrList ws K ys
theorem off3_mem {I C D : Addr} : ∀ {l : Led}, LCg.Off3 I C D l → ∀ p ∈ l, p.1 ≠ I ∧ p.1 ≠ C ∧ p.1 ≠ D
  | [], _, _, h => nomatch h
  | _ :: _, h, p, hp => by
    rcases List.mem_cons.mp hp with rfl | hp
    · exact h.1
    · exact off3_mem h.2 p hp
theorem off3_of {I C D : Addr} : ∀ {l : Led}, (∀ p ∈ l, p.1 ≠ I ∧ p.1 ≠ C ∧ p.1 ≠ D) → LCg.Off3 I C D l
  | [], _ => trivial
  | _ :: _, h => ⟨h _ (.head _), off3_of fun p hp => h p (.tail _ hp)⟩
theorem crList_snoc {ws : List Int} {K : Int} {ys : List Value} {t : Tok} (h : CrList ws K ys) : CrList ws K (ys ++ [.bytes #[crB ws (K + ys.length)] t]) := fun j hj => by
  rw [List.length_append, List.length_singleton] at hj
  rcases Nat.lt_or_ge j ys.length with h1 | h1
  · rw [List.getElem?_append_left h1]; exact h j h1
  · obtain rfl : j = ys.length := by lia
    rw [List.getElem?_append_right (Nat.le_refl _), Nat.sub_self]
    exact ⟨t, rfl⟩
theorem crList_bytes {ws : List Int} {K : Int} : ∀ (n : Nat) (ys : List Value), ys.length = n → CrList ws K ys → ∃ bs, BytesAre ys bs ∧ catB bs = rowB ws K n ∧ bs.length = n
  | 0, ys, h, _ => by
    obtain rfl := List.length_eq_zero_iff.mp h
    exact ⟨[], .nil, rfl, rfl⟩
  | n + 1, ys, h, hc => by
    have hn : n < ys.length := by lia
    have e : ys = ys.take n ++ [ys[n]] := by
      have := List.take_append_drop n ys
      rw [List.drop_eq_getElem_cons hn, List.drop_eq_nil_of_le (by lia)] at this
      exact this.symm
    have hc' : CrList ws K (ys.take n) := fun j hj => by
      rw [List.length_take] at hj
      rw [List.getElem?_take_of_lt (by lia)]
      exact hc j (by lia)
    obtain ⟨bs, h1, h2, h3⟩ := crList_bytes n (ys.take n) (by rw [List.length_take]; lia) hc'
    obtain ⟨t, ht⟩ := hc n hn
    rw [List.getElem?_eq_getElem hn] at ht
    rw [e, Option.some.inj ht]
    refine ⟨bs ++ [#[crB ws (K + n)]], h1.snoc, ?_, by rw [List.length_append, List.length_singleton, h3]⟩
    rw [catB_app, h2]
    simp [catB, rowB]
theorem law18 (keep rest : Led) (fr : LF) (p dx l : Addr) (Ts : List Addr) (n nn : Nat) (hash : Int) (tkd tkv : Tok) (ff : Int) (ob ow : Obj) (vs : List Value) (ws : List Int) (K : Int)
    (hkr : ∀ q ∈ keep, q ∈ rest) (hdx : (dx, sizeD hash tkd (.int ff tkv)) ∈ keep) (ap' : ∀ q ∈ rest, q.1 ≠ p) (hl0 : (l, listOf vs.toArray nn) ∈ keep) (hTl : Ts.length = 8) (hT : ∀ i, i < 8 → IsP rest (Ts.getD i 0) (digS (fig K (7 - i)))) (hi : IntsAre vs ws) (hl : ws.length = 8) (hw : ∀ x ∈ ws, x = 1 ∨ x = -1) (hK : 0 ≤ K ∧ K < 6552)
    (hab : (ab, ob) ∈ keep) (hdb : ob.data = .cell (some (.ref p))) (haw : (aw, ow) ∈ keep) (hdw : ow.data = .cell (some (.ref l))) :
    AtLaw [lawSt 17] ((p, accObj dx (refs Ts) n) :: rest) fr
      (fun h₀ L s Q => ∀ ys nw t h' tk', AgainJ p dx ws K keep 9 ys nw → Fr h₀ L h' (nmOf (("again", .bytes (rowB ws K 9) t) :: fr)) → News h₀ L h' nw → Q .next { s with heap := h', toks := tk' }) := by
  dsimp only [AtLaw, KH, VW, prg]
  k_fill
  intros; rename_i hret
  walk_at "my lit"
  (k_with "eval ListComp" => refine hold ?_)
  (k_with "call type:range" => refine hold ?_)
  k_steps
  refine bj_method ?_
  dsimp only
  k_steps
  dsimp only [Hold]
  rename News _ _ _ _ => N0
  refine range1_rows (by k_asm) N0 ?_
  intro h6 tk6 tt4 tt5 tt6 hR6 F6 N6 k6
  clear N0
  refine LCg.CompSrc.range rfl F6 N6 hR6 (by decide) (n := 9) (by decide) (by rw [sizeLine_eq]; decide) ?_
  intro g9
  refine cmp_restJ (AgainJ p dx ws K keep) ⟨Ts, n, rest, rfl, ap', hTl, by simpa using hT, hkr, rfl, fun j hj => absurd hj (Nat.not_lt_zero _)⟩ ?_ ?_
  · intro i v I oI C oC D m₂ ys nw h tk E' hi9 hv hJ hC hx F N off ne
    refine exE3 (hJ) fun Ts2 n2 rest2 hh9 => ?_
    refine anE7 hh9 fun enw ap2 hTl2 hT2 hk2 hyl hcr => ?_
    clear hh9 hJ
    subst enw
    have hab2 := hk2 _ hab
    have haw2 := hk2 _ haw
    (k_with "call ref" => refine hold ?_)
    k_steps
    dsimp only [Hold]
    have hR2 : ∀ q ∈ rest2, q ∈ (I, oI) :: (C, oC) :: (D, LCg.lst ys) :: rest2 := fun q hq => .tail _ (.tail _ (.tail _ hq))
    have N7 : News _ _ _ ((p, accObj dx (refs Ts2) n2) :: (I, oI) :: (C, oC) :: (D, LCg.lst ys) :: rest2) := newsSub N fun q hq => by
      rcases List.mem_cons.mp hq with rfl | hq
      · exact .tail _ (.tail _ (.tail _ (.head _)))
      · rcases List.mem_cons.mp hq with rfl | hq
        · exact .head _
        · rcases List.mem_cons.mp hq with rfl | hq
          · exact .tail _ (.head _)
          · rcases List.mem_cons.mp hq with rfl | hq
            · exact .tail _ (.tail _ (.head _))
            · exact .tail _ (.tail _ (.tail _ (.tail _ hq)))
    have hoff := off3_mem off
    have hpo := hoff _ (.head _)
    have hC := crease_at w mean mg mb ((I, oI) :: (C, oC) :: (D, LCg.lst ys) :: rest2) p dx l Ts2 n2 hash tkd tkv ff vs nn ws (K + i) (hR2 _ (hk2 _ hdx)) (ap_cons hpo.1.symm (ap_cons hpo.2.1.symm (ap_cons hpo.2.2.symm ap2))) (hR2 _ (hk2 _ hl0)) hTl2 (fun j hj => (hT2 j hj).mono hR2) hi hl hw (by lia)
    (walk_at "cd"; refine' hC _ _ _ _ _ _ _ _ _ _ _ _ _ _ _ _ _ ?k1 ?k2 ?k3 ?k4 ?k5 ?kK ?kd ?ku ?_; walk_at "cc"; clear hC)
    intro R Ts3 n3 rest3 lv t t' h7 tk7 F7 N8 c1 c2 c3 c4
    clear N N7
    have hc0 : Kept _ := c1
    k_steps
    rename News _ _ _ ((R, _) :: (p, _) :: rest3) => N9
    have mem : ∀ q ∈ rest3, q.1 ≠ I → q.1 ≠ C → q.1 ≠ D → q ∈ drop1 D (drop2 I C rest3) := fun q hq h1 h2 h3 => mem_drop1.mpr ⟨mem_drop2.mpr ⟨hq, h1, h2⟩, h3⟩
    have sub : ∀ q ∈ drop1 D (drop2 I C rest3), q ∈ rest3 ∧ q.1 ≠ I ∧ q.1 ≠ C ∧ q.1 ≠ D := fun q hq => by
      have h := mem_drop1.mp hq
      have h' := mem_drop2.mp h.1
      exact ⟨h'.1, h'.2.1, h'.2.2, h.2⟩
    refine ⟨_, _, (p, accObj dx (refs Ts3) n3) :: drop1 D (drop2 I C rest3), rfl, by assumption, newsSub N9 fun q hq => ?_, off3_of fun q hq => ?_, trivial, Ts3, n3, _, rfl, fun q hq => c4 q (sub q hq).1, c1, fun j hj => ?_, fun q hq => ?_, by rw [List.length_append, hyl]; rfl, hyl ▸ crList_snoc hcr⟩
    · rcases List.mem_cons.mp hq with rfl | hq
      · exact .tail _ (.tail _ (c3 _ (.head _)))
      · rcases List.mem_cons.mp hq with rfl | hq
        · exact .tail _ (.tail _ (c3 _ (.tail _ (.head _))))
        · rcases List.mem_cons.mp hq with rfl | hq
          · exact .tail _ (.tail _ (c3 _ (.tail _ (.tail _ (.head _)))))
          · rcases List.mem_cons.mp hq with rfl | hq
            · exact .tail _ (.head _)
            · exact .tail _ (.tail _ (sub q hq).1)
    · rcases List.mem_cons.mp hq with rfl | hq
      · exact hpo
      · exact (sub q hq).2
    · obtain ⟨⟨t1, t2, h1⟩, h2⟩ := c2 j hj
      have e : K + ((i + 1 : Nat) : Int) = K + (i : Int) + 1 := by push_cast; lia
      rw [e]
      refine ⟨t1, t2, ?_⟩
      rcases h2 with h2 | h2
      · obtain ⟨_, _, h3⟩ := hT2 j hj
        have h4 := hoff _ (.tail _ h3)
        rw [← h2] at h4
        exact mem _ h1 h4.1 h4.2.1 h4.2.2
      · exact mem _ h1 (Ne.symm (h2 _ (.head _))) (Ne.symm (h2 _ (.tail _ (.head _)))) (Ne.symm (h2 _ (.tail _ (.tail _ (.head _)))))
    · have h4 := hoff _ (.tail _ (hk2 q hq))
      exact mem _ (c3 _ (hR2 _ (hk2 q hq))) h4.1 h4.2.1 h4.2.2
  · intro ys nw hJ
    refine exE3 (hJ) fun Ts2 n2 rest2 hh9 => ?_
    refine anE7 hh9 fun enw ap2 hTl2 hT2 hk2 hyl hcr => ?_
    clear hh9 hJ
    subst enw
    k_steps
    rename News _ _ _ ((_, LCg.lst ys) :: _) => N9
    obtain ⟨bs, hb1, hb2, hb3⟩ := crList_bytes 9 ys hyl hcr
    refine by_join (bs := bs) (N9 _ (.head _)).1 hb1 (by rw [hb2, rowB_size]; decide) (by lia) ?_
    intro t9 tk9
    rw [hb2]
    k_steps
    refine hret ys ((p, accObj dx (refs Ts2) n2) :: rest2) _ _ _ ⟨Ts2, n2, rest2, rfl, ap2, hTl2, hT2, hk2, hyl, hcr⟩ (frPush (by assumption)) (newsSub (by assumption : News _ _ _ ((_, LCg.lst ys) :: _)) fun q hq => .tail _ hq)

theorem fresh_T_law19 : True := by
  k_with_none
  w_on
  w_top off
  (k_with "1 my lit" => ((try (conv in (occs := *) lawSt _ => all_goals whnf)); (try (conv in (occs := *) lawT _ => all_goals whnf)); (try (conv in (occs := *) lawU _ => all_goals whnf)); (try (conv in (occs := *) lawIfT => all_goals whnf)); (try (conv in (occs := *) lawIter => all_goals whnf)); (conv in (occs := *) lawScope => all_goals (whnf; dsimp only))))
  (k_with "1 cc" => ((case k1 => k_asm); (case k2 => k_asm); (case k3 => k_asm); (case k4 => k_asm); (case k5 => k_asm); (case kK => first | exact rfl | assumption); (case kd => ktr_room); (case ku => ktr_units)))
  (k_with "1 eval Name" => (k_here; k_dflt (refine' nameX_L ?F ?v ?_ ?a ?b ?c; (case F => k_asm); (case a => rfl); (case b => rfl); (case v => first | exact @rfl (Option Value) (some _) | assumption); (case c => decide); k_whole)))
  (k_with "1 eval Name" => (k_here; (with_reducible show wpAny _ _ (eval (Expr.Name _ _) (envX _ _ _ _ _ (lawCl _ _ _ _ _ _ _ _))) _ _ _); (refine' nameX_L (by k_asm) (by assumption) ?_ ?a ?b ?c; (case a => rfl); (case b => rfl); (case c => decide)); (try dsimp only)))
  trivial
theorem cN_callWith_K {M : Model} {A : Around} {E : Value → Shared → Prop} {s : Shared} {env : Env} {K : Frag} {pos : Pos} {f : Value} {first : List Value} {e : PySem.Expr} {rest : List PySem.Expr} {Q : Value → Shared → Prop} (hk : keepIn K f = true)
    (h : wpAny M A (spliced (backTo pos (starEach (e :: rest) env))) (fun vs s₁ => K.In s₁.heap ∧ wpC M A (PySem.call f (first ++ vs)) Q E s₁) E s)
    (he : starEach (e :: rest) env = (false, eval e env) :: starEach rest env := by rfl) (hplain : (backTo pos (starEach rest env)).any (·.1) = false := by rfl) : wpC M A (PySem.callWith pos f first (backTo pos (starEach (e :: rest) env)) []) Q E s := by
  rw [he] at h ⊢
  exact cN_callWith (P := fun h => K.In h) (by show (false || (backTo pos (starEach rest env)).any (·.1)) = false; rw [hplain]; rfl) (keeps_K hk) (evalArgs_plain h)
theorem byte_mir {b : UInt8} (h : b = 40 ∨ b = 41) : ((81 : Int) - (b.toNat : Int)).toNat.toUInt8 = 81 - b := by
  rcases h with rfl | rfl <;> decide
theorem byte_bnd {b : UInt8} (h : b = 40 ∨ b = 41) : 0 ≤ (81 : Int) - (b.toNat : Int) ∧ (81 : Int) - (b.toNat : Int) < 256 := by
  rcases h with rfl | rfl <;> decide
noncomputable def mirI (b0 b1 b2 b3 b4 b5 b6 b7 b8 : UInt8) : List Int := [81 - b8.toNat, 81 - b7.toNat, 81 - b6.toNat, 81 - b5.toNat, 81 - b4.toNat, 81 - b3.toNat, 81 - b2.toNat, 81 - b1.toNat, 81 - b0.toNat]
theorem mir_ints {b0 b1 b2 b3 b4 b5 b6 b7 b8 : UInt8} : ∀ {ys : List Value}, ys.length = 9 → (∀ (i : Nat) y, ys[i]? = some y → ∃ t, y = Value.int (81 - (((#[b8, b7, b6, b5, b4, b3, b2, b1, b0] : Array UInt8).getD i 0).toNat : Int)) t) → IntsAre ys (mirI b0 b1 b2 b3 b4 b5 b6 b7 b8)
  | _, hl, h => by
    have := ints_map (j := 0) (f := fun i => 81 - (((#[b8, b7, b6, b5, b4, b3, b2, b1, b0] : Array UInt8).getD i 0).toNat : Int)) fun i y hy => (Nat.zero_add i).symm ▸ h i y hy
    rw [hl] at this
    exact this
theorem mir_bytes {b0 b1 b2 b3 b4 b5 b6 b7 b8 : UInt8} (hb : ∀ b ∈ [b0, b1, b2, b3, b4, b5, b6, b7, b8], b = 40 ∨ b = 41) : byteArr (mirI b0 b1 b2 b3 b4 b5 b6 b7 b8) = #[81 - b8, 81 - b7, 81 - b6, 81 - b5, 81 - b4, 81 - b3, 81 - b2, 81 - b1, 81 - b0] := by
  simp only [byteArr, mirI, List.map_cons, List.map_nil]
  rw [byte_mir (hb b0 (by simp)), byte_mir (hb b1 (by simp)), byte_mir (hb b2 (by simp)), byte_mir (hb b3 (by simp)), byte_mir (hb b4 (by simp)), byte_mir (hb b5 (by simp)), byte_mir (hb b6 (by simp)), byte_mir (hb b7 (by simp)), byte_mir (hb b8 (by simp))]
theorem mir_bnd {b0 b1 b2 b3 b4 b5 b6 b7 b8 : UInt8} (hb : ∀ b ∈ [b0, b1, b2, b3, b4, b5, b6, b7, b8], b = 40 ∨ b = 41) : ∀ n ∈ mirI b0 b1 b2 b3 b4 b5 b6 b7 b8, 0 ≤ n ∧ n < 256 := by
  simp only [mirI, List.forall_mem_cons]
  exact ⟨byte_bnd (hb b8 (by simp)), byte_bnd (hb b7 (by simp)), byte_bnd (hb b6 (by simp)), byte_bnd (hb b5 (by simp)), byte_bnd (hb b4 (by simp)), byte_bnd (hb b3 (by simp)), byte_bnd (hb b2 (by simp)), byte_bnd (hb b1 (by simp)), byte_bnd (hb b0 (by simp)), by simp⟩
theorem keep_swap (p : Params) : keepIn (hd.heap_39 p) (.ref 163) = true := by kernel_rfl
theorem law19 (news : Led) (fr : LF) (b0 b1 b2 b3 b4 b5 b6 b7 b8 : UInt8) (ta tr : Tok) (h1 : nmOf fr "again" = some (.bytes #[b0, b1, b2, b3, b4, b5, b6, b7, b8] ta)) (h2 : nmOf fr "row" = some (.bytes #[81 - b8, 81 - b7, 81 - b6, 81 - b5, 81 - b4, 81 - b3, 81 - b2, 81 - b1, 81 - b0] tr))
    (hb : ∀ b ∈ [b0, b1, b2, b3, b4, b5, b6, b7, b8], b = 40 ∨ b = 41) : ∀ (s : Shared) (Q : Flow → Shared → Prop) (E : Value → Shared → Prop),
    Below callerA base [] h₀ → Fr h₀ L s.heap (nmOf fr) → (KH w).In h₀ → News h₀ L s.heap news → Top VW LW mean mg mb h₀ → dp + 60 < recursionLimit → un + 480 < cLine →
    (∀ h' tk', Fr h₀ L h' (nmOf fr) → News h₀ L h' news → Q .next { s with heap := h', toks := tk' }) →
    wpC (model prg w) (ktrTop dp un gd "law" lawScope L 215 (.ref 214) (lawCl ab ah al ap ad aw ac as) []) (execs [lawSt 18] (envX "law" lawScope L 215 (.ref 214) (lawCl ab ah al ap ad aw ac as))) Q E s := by
  dsimp only [KH, VW, prg]
  k_fill
  intros; rename_i hret
  walk_at "my lit"
  refine cN_execs_cons (cN_If (cN_isTrue_Compare1 (cN_Call ?_)))
  k_steps
  refine cN_callType ?_
  rw [if_neg Bool.false_ne_true]
  refine cN_ListComp (cN_Call ?_)
  k_steps
  refine cN_callWith_K (K := hd.heap_39 w.params) (keep_swap _) ?_
  k_steps
  have hC := fun t t2 => swap_call w mean mg mb news b0 b1 b2 b3 b4 b5 b6 b7 b8 t t2
  (dsimp only [Mine.CallsC, Mine.Ret, Mine.RetNew, Mine.KH, Mine.VW, Mine.prg] at hC; refine' hC _ _ _ _ _ _ _ _ _ _ _ _ _ _ _ _ _ _ _ ?k1 ?k2 ?k3 ?k4 ?k5 ?kK ?kd ?ku ?_; walk_at "cc"; clear hC)
  intro t9 h9 tk9 F9 N9
  refine comp_Bytes (cl := []) F9 N9 rfl (by rw [sizeLine_eq]; exact (by decide : 9 ≤ 16777216)) ?d1 ?d2 ?d3 ?d4 ?d5 ?_ ?ds
  case d1 => with_unfolding_all rfl
  case d2 => decide
  case d3 => rfl
  case d4 => decide
  case d5 => rfl
  case ds => intro x; with_unfolding_all rfl
  rintro s₂ ⟨g, rfl⟩
  refine cmp_rest (El := fun j y => ∃ t, y = .int (81 - (((#[b8, b7, b6, b5, b4, b3, b2, b1, b0] : Array UInt8).getD j 0).toNat : Int)) t) ?_ ?_
  · intro j v I2 oI2 C2 oC2 DD2 m3 ys2 h5 tk5 E5 hi2 hv2 hC5 hx5 F5 N5' off5 ne5
    obtain ⟨c, u, hc, rfl⟩ := hv2
    have ec : (#[b8, b7, b6, b5, b4, b3, b2, b1, b0] : Array UInt8).getD j 0 = c := by rw [Array.getD_eq_getD_getElem?, hc]; rfl
    have hcb : (c.toNat : Int) < 256 := by have := c.toNat_lt; lia
    rw [ec]
    generalize (c.toNat : Int) = cn at *
    k_steps
    exact ⟨_, _, _, rfl, by assumption, by assumption, off5, trivial, rfl, _, rfl⟩
  · intro ys2 hl2 hel2 DD h7 tk7 F7 N7 off7
    refine .of (call_bytes_ints ⟨_, (N7 _ (.head _)).1, rfl, _, rfl⟩ (mir_ints hl2 hel2) (mir_bnd hb) (by rw [hl2, sizeLine_eq]; exact (by decide : 9 ≤ 16777216)) rfl fun h8 t8 tk8 hk8 => ?_)
    rw [mir_bytes hb]
    have F8 := Fr.keeps F7 hk8
    have N8 := News.keepsAll (newsSub N7 (fun q hq => .tail _ hq) : News _ _ _ news) hk8
    clear F7 N7 F9 N9
    k_steps
    · exfalso
      rename (_ != _) = true => hc
      simp at hc
    · exact .of (wpAny_execs_nil (hret _ _ (by assumption) (by assumption)))

theorem fresh_T_law20 : True := by
  k_with_none
  w_on
  w_top off
  (k_with "1 my lit" => ((try (conv in (occs := *) lawSt _ => all_goals whnf)); (try (conv in (occs := *) lawT _ => all_goals whnf)); (try (conv in (occs := *) lawU _ => all_goals whnf)); (try (conv in (occs := *) lawIfT => all_goals whnf)); (try (conv in (occs := *) lawIter => all_goals whnf)); (conv in (occs := *) lawScope => all_goals (whnf; dsimp only))))
  (k_with "1 cd" => (dsimp only [Mine.Calls, Mine.Ret, Mine.RetNew, Mine.KH, Mine.VW, Mine.prg] at hC))
  (k_with "1 cc" => ((case k1 => k_asm); (case k2 => k_asm); (case k3 => k_asm); (case k4 => k_asm); (case k5 => k_asm); (case kK => first | exact rfl | assumption); (case kd => ktr_room); (case ku => ktr_units)))
  (k_with "1 eval Name" => (k_here; k_dflt (refine' nameX_L ?F ?v ?_ ?a ?b ?c; (case F => k_asm); (case a => rfl); (case b => rfl); (case v => first | exact @rfl (Option Value) (some _) | assumption); (case c => decide); k_whole)))
  (k_with "1 eval Name" => (k_here; (with_reducible show wpAny _ _ (eval (Expr.Name _ _) (envX _ _ _ _ _ (lawCl _ _ _ _ _ _ _ _))) _ _ _); (refine' nameX_L (by k_asm) (by assumption) ?_ ?a ?b ?c; (case a => rfl); (case b => rfl); (case c => decide)); (try dsimp only)))
  (k_with "1 call ref" => ((with_reducible show wpAny _ _ (call (Value.ref 168) _) _ _ _); (have hC := @Mine.figs_call); (walk_at "cd"); refine' hC _ _ _ _ _ _ _ ?x0 ?x1 _ _ _ _ _ _ _ _ _ _ _ _ _ _ _ _ _ ?k1 ?k2 ?k3 ?k4 ?k5 ?kK ?kd ?ku ?_; walk_at "cc"; (case x0 => assumption); (case x1 => assumption); clear hC; intro t9 h9 tk9 F9 N9; (try dsimp only)))
  trivial
theorem law20 (rest : Led) (fr : LF) (op o4 ob : Obj) (p1 dx1 p2 dx2 : Addr) (Ts1 Ts2 : List Addr) (n1 n2 : Nat) (k k1 f hash1 hash2 : Int) (tkd1 tkv1 tkd2 tkv2 tk tf : Tok)
    (ap' : ∀ q ∈ rest, q.1 ≠ 121) (ok : TxtOk op) (h4 : (114, o4) ∈ rest) (ok4 : TxtOk o4) (hob : (ab, ob) ∈ rest) (hdb : ob.data = .cell (some (.ref p2)))
    (hp1 : (p1, accObj dx1 (refs Ts1) n1) ∈ rest) (hdx1 : (dx1, sizeD hash1 tkd1 (.int f tkv1)) ∈ rest) (hTl1 : Ts1.length = 8) (hT1 : ∀ i, i < 8 → IsP rest (Ts1.getD i 0) (digS (fig k1 (7 - i))))
    (hp2 : (p2, accObj dx2 (refs Ts2) n2) ∈ rest) (hdx2 : (dx2, sizeD hash2 tkd2 (.int f tkv2)) ∈ rest) (hTl2 : Ts2.length = 8) (hT2 : ∀ i, i < 8 → IsP rest (Ts2.getD i 0) (digS (fig (6560 - k) (7 - i))))
    (hk : 0 ≤ k ∧ k < 2187) (hf : 0 ≤ f ∧ f < 3) (q1 : nmOf fr "number" = some (.int k tk)) (q2 : nmOf fr "first" = some (.int f tf)) (q3 : nmOf fr "pile" = some (.ref p1)) :
    AtLaw [lawSt 19] ((121, op) :: rest) fr
      (fun h₀ L s Q => AllBare s.gens ∧ ∀ h' tk' gs' op' o4', Fr h₀ L h' (nmOf fr) → AllBare gs' → TxtOk op' → TxtOk o4' → h'.get? 121 = some op' → h'.get? 114 = some o4' → Q (.ret (.bool true)) { s with heap := h', toks := tk', gens := gs' }) := by
  dsimp only [AtLaw, KH, VW, prg]
  k_fill
  intros; rename_i hret
  obtain ⟨hG, hret⟩ := hret
  walk_at "my lit"
  (k_with "call type:str" => refine hold ?_)
  (k_with "call builtin:len" => refine hold ?_)
  (k_with "call ref" => refine hold ?_)
  k_steps
  dsimp only [Hold]
  have hC := str_call w mean mg mb rest p2 dx2 Ts2 n2 op _ (6560 - k) hp2 hdx2 ap' ok hTl2 hT2
  (walk_at "cd"; refine' hC _ _ _ _ _ _ _ _ _ _ _ _ _ _ _ _ _ ?k1 ?k2 ?k3 ?k4 ?k5 ?kK ?kd ?ku ?_; walk_at "cc"; clear hC)
  refine ⟨hG, fun op' t h5 tk5 gs5 F5 N5 o5 g5 => ?_⟩
  have hS0 : figsText (6560 - k) = figsText (6560 - k) := rfl
  generalize hS : figsText (6560 - k) = S at hS0 ⊢
  k_steps
  dsimp only [Hold]
  have hC := fun t => figs_call w mean mg mb ((121, op') :: rest) (6560 - k) t (by lia) (by lia)
  (walk_at "cd"; refine' hC _ _ _ _ _ _ _ _ _ _ _ _ _ _ _ _ _ _ ?k1 ?k2 ?k3 ?k4 ?k5 ?kK ?kd ?ku ?_; walk_at "cc"; clear hC)
  intro t6 h6 tk6 F6 N6
  rw [hS]
  k_steps
  rotate_left
  · exfalso
    rename (S == S) = false => hc
    simp at hc
  dsimp only [Hold]
  have hm4 := List.Mem.tail ((121 : Nat), op') h4
  have N7 : News _ _ _ ((114, o4) :: (121, op') :: drop1 114 rest) := newsSub N6 fun q hq => by
    rcases List.mem_cons.mp hq with rfl | hq
    · exact hm4
    · rcases List.mem_cons.mp hq with rfl | hq
      · exact .head _
      · exact .tail _ (mem_drop1.mp hq).1
  have keepT : ∀ q ∈ rest, (∀ x, q.2.data ≠ .fields x) → q ∈ (121, op') :: drop1 114 rest := fun q hq hc => .tail _ (mem_drop1.mpr ⟨hq, led_ne N6 hm4 (.tail _ hq) fun e => by
    obtain ⟨ps, hps, _⟩ := ok4.fields
    exact hc ps (e ▸ hps)⟩)
  have isp : ∀ {T : Addr} {x : Str}, IsP rest T x → IsP ((121, op') :: drop1 114 rest) T x := fun ⟨t1, t2, h⟩ => ⟨t1, t2, keepT _ h fun x h => by cases h⟩
  have ap4 : ∀ q ∈ (121, op') :: drop1 114 rest, q.1 ≠ 114 := ap_cons (by decide) ap_drop1
  have hpa := keepT _ hp1 fun x h => by cases h
  have hpb := keepT _ hp2 fun x h => by cases h
  have hda := keepT _ hdx1 fun x h => by cases h
  have hdb' := keepT _ hdx2 fun x h => by cases h
  have hobb := keepT _ hob fun x h => by rw [hdb] at h; cases h
  have hC := len_call w mean mg mb ((121, op') :: drop1 114 rest) p1 dx1 Ts1 n1 o4 hash1 tkd1 tkv1 f k1 hpa hda ap4 ok4 hTl1 (fun i hi => isp (hT1 i hi)) (by lia)
  clear N6
  (walk_at "cd"; refine' hC _ _ _ _ _ _ _ _ _ _ _ _ _ _ _ _ _ ?k1 ?k2 ?k3 ?k4 ?k5 ?kK ?kd ?ku ?_; walk_at "cc"; clear hC)
  refine ⟨g5, fun o4' t7 h7 tk7 gs7 F7 N8 o7 g7 => ?_⟩
  clear N7
  k_steps
  dsimp only [Hold]
  have hC := len_call w mean mg mb ((121, op') :: drop1 114 rest) p2 dx2 Ts2 n2 o4' hash2 tkd2 tkv2 f (6560 - k) hpb hdb' ap4 o7 hTl2 (fun i hi => isp (hT2 i hi)) (by lia)
  (walk_at "cd"; refine' hC _ _ _ _ _ _ _ _ _ _ _ _ _ _ _ _ _ ?k1 ?k2 ?k3 ?k4 ?k5 ?kK ?kd ?ku ?_; walk_at "cc"; clear hC)
  refine ⟨g7, fun o4'' t8 h8 tk8 gs8 F8 N9 o8 g8 => ?_⟩
  k_steps
  · have e : (f + 16 == 16 + f) = true := by simp; lia
    rw [e]
    exact hret _ _ _ op' o4'' F8 g8 o5 o8 (N9 _ (.tail _ (.head _))).1 (N9 _ (.head _)).1
  · exfalso
    rename_i hc
    simp at hc

theorem fresh_T_glue : True := by
  k_with_none
  w_on
  w_top off
  trivial
theorem word1_T_glue : True := by
  (k_with "1 l mem" => first | assumption | exact List.Mem.head _ | (apply List.Mem.tail; walk_at "l mem"))
  trivial
theorem word2_T_glue : True := by
  (k_with "1 l sub" => first | (refine Mine.subC (by walk_at "l mem") ?_; walk_at "l sub") | (intro _ _; walk_at "l mem"))
  trivial
theorem word3_T_glue : True := by
  (k_with "1 l lt" => first | exact Mine.Nx.one (by assumption) | (refine Mine.Nx.more (by assumption) ?_; walk_at "l lt"))
  trivial
theorem word4_T_glue : True := by
  (k_with "1 n ne" => first | (refine And.intro ?_ ?_ <;> walk_at "n ne") | ((try dsimp only); show @Ne Nat _ _; first | assumption | exact Ne.symm (by assumption) | exact Nat.ne_of_lt (by walk_at "l lt") | exact Nat.ne_of_gt (by walk_at "l lt") | lia))
  trivial
theorem word5_T_glue : True := by
  (k_with "1 l ap" => first | assumption | (intro _ h; cases h; done) | (refine Mine.ap_cons ?_ ?_; (focus walk_at "n ne"); walk_at "l ap"))
  trivial
theorem word6_T_glue : True := by
  (k_with "1 l look" => first | exact lookup_head | (refine (lookup_cons (by decide)).trans ?_; walk_at "l look"))
  trivial
theorem subC {a : Addr × Obj} {l B : Led} (h : a ∈ B) (h2 : ∀ q ∈ l, q ∈ B) : ∀ q ∈ a :: l, q ∈ B := List.forall_mem_cons.mpr ⟨h, h2⟩
noncomputable def Nx (a b : Addr) : Prop := @LT.lt Nat _ a b
theorem Nx.one {a b : Addr} (h : Nx a b) : @LT.lt Nat _ a b := h
theorem Nx.more {a b c : Addr} (h : Nx a b) (h2 : @LT.lt Nat _ b c) : @LT.lt Nat _ a c := Nat.lt_trans h h2
theorem pot_start {sp x y c : Int} (hs : 1 ≤ sp ∧ sp ≤ 32) (hx : -200 < x ∧ x < 200) (hy : -200 < y ∧ y < 200) (hxy : -200 < x - y ∧ x - y < 200) (hc : 0 ≤ c ∧ c < 8) :
    PotOk sp x y 0 (512 * c - sp * min (min x y) 0 + sp * x) (512 * c - sp * min (min x y) 0 + sp * y) (512 * c - sp * min (min x y) 0) ∧ 0 ≤ 512 * c - sp * min (min x y) 0 ∧ 512 * c - sp * min (min x y) 0 < 20000 := by
  have hm : min (min x y) 0 = x ∨ min (min x y) 0 = y ∨ min (min x y) 0 = 0 := by
    rcases Int.le_total (min x y) 0 with h | h
    · rw [Int.min_eq_left h]
      rcases Int.le_total x y with h' | h'
      · exact .inl (Int.min_eq_left h')
      · exact .inr (.inl (Int.min_eq_right h'))
    · exact .inr (.inr (Int.min_eq_right h))
  have h1 : min (min x y) 0 ≤ x := Int.le_trans (Int.min_le_left _ _) (Int.min_le_left x y)
  have h2 : min (min x y) 0 ≤ y := Int.le_trans (Int.min_le_left _ _) (Int.min_le_right x y)
  have h3 : min (min x y) 0 ≤ 0 := Int.min_le_right _ _
  have h4 : -200 < min (min x y) 0 := Int.lt_min.mpr ⟨Int.lt_min.mpr ⟨hx.1, hy.1⟩, by decide⟩
  have s0 : 0 ≤ sp := Int.le_trans (by decide) hs.1
  generalize min (min x y) 0 = m at *
  have a1 : 0 ≤ sp * (x - m) := Int.mul_nonneg s0 (Int.sub_nonneg_of_le h1)
  have a2 : 0 ≤ sp * (y - m) := Int.mul_nonneg s0 (Int.sub_nonneg_of_le h2)
  have a3 : 0 ≤ sp * (-m) := Int.mul_nonneg s0 (Int.neg_nonneg_of_nonpos h3)
  have a4 := sp_bound hs (x := m) ⟨h4, Int.lt_of_le_of_lt h3 (by decide)⟩
  rw [Int.mul_sub] at a1 a2
  rw [Int.mul_neg] at a3
  refine ⟨⟨rfl, rfl, by lia, by lia, by lia, ?_⟩, by lia, by lia⟩
  rcases hm with rfl | rfl | rfl
  · exact .inl (by lia)
  · exact .inr (.inl (by lia))
  · exact .inr (.inr (by simp; lia))
theorem PaintJ.thin {dk sp : Int} {news0 nw nw2 : Led} {i : Nat} {ys : List Value} (h : PaintJ dk sp news0 i ys nw) (hs : ∀ q ∈ nw, (∀ x, q.2.data ≠ .fields x) → q ∈ nw2) : PaintJ dk sp [] i ys nw2 := by
  exact Exists.elim h fun ps h => ⟨ps, h.1, h.2.1, fun j hj => ⟨exE4 (h.2.2.1 j hj).1 fun a b c d h => exI4 a b c d (hs _ h fun x h => by cases h), fun _ h => nomatch h⟩, fun _ h => nomatch h⟩
theorem crB_cases (ws : List Int) (K : Int) : crB ws K = 40 ∨ crB ws K = 41 := by
  unfold crB; split <;> simp
theorem rowB_nine (ws : List Int) (K : Int) : rowB ws K 9 = #[crB ws K, crB ws (K + 1), crB ws (K + 2), crB ws (K + 3), crB ws (K + 4), crB ws (K + 5), crB ws (K + 6), crB ws (K + 7), crB ws (K + 8)] := by
  simp [rowB]
theorem mir_one {ws : List Int} {k a b : Int} (hl : ws.length = 8) (hw : ∀ x ∈ ws, x = 1 ∨ x = -1) (hk : 0 ≤ a ∧ a < 6560) (e : b = 6559 - a) : 81 - crB ws b = crB ws a := by
  subst e
  rw [crB_mirror hl hw hk.1 hk.2]
  rcases crB_cases ws a with h | h <;> rw [h] <;> decide
theorem mir_nine {ws : List Int} {k : Int} (hl : ws.length = 8) (hw : ∀ x ∈ ws, x = 1 ∨ x = -1) (hk : 0 ≤ k ∧ k < 2187) :
    rowB ws k 9 = #[81 - crB ws (6551 - k + 8), 81 - crB ws (6551 - k + 7), 81 - crB ws (6551 - k + 6), 81 - crB ws (6551 - k + 5), 81 - crB ws (6551 - k + 4), 81 - crB ws (6551 - k + 3), 81 - crB ws (6551 - k + 2), 81 - crB ws (6551 - k + 1), 81 - crB ws (6551 - k)] := by
  rw [rowB_nine, mir_one (k := k) (a := k) hl hw (by lia) (by lia), mir_one (k := k) (a := k + 1) hl hw (by lia) (by lia), mir_one (k := k) (a := k + 2) hl hw (by lia) (by lia), mir_one (k := k) (a := k + 3) hl hw (by lia) (by lia), mir_one (k := k) (a := k + 4) hl hw (by lia) (by lia),
    mir_one (k := k) (a := k + 5) hl hw (by lia) (by lia), mir_one (k := k) (a := k + 6) hl hw (by lia) (by lia), mir_one (k := k) (a := k + 7) hl hw (by lia) (by lia), mir_one (k := k) (a := k + 8) hl hw (by lia) (by lia)]
theorem wayB_pm (c : Int) : ∀ x ∈ (List.range' 0 8).map (wayB c), x = 1 ∨ x = -1 := by
  intro x hx
  obtain ⟨i, _, rfl⟩ := List.mem_map.mp hx
  unfold wayB
  rw [Int.fmod_eq_emod_of_nonneg _ (by decide)]
  lia
theorem drop_mem {h₀ h : Heap} {L a : Addr} {o : Obj} {nw : Led} (N : News h₀ L h nw) (ho : (a, o) ∈ nw) {q : Addr × Obj} (hq : q ∈ nw) (hne : q.2.data ≠ o.data) : q ∈ drop1 a nw :=
  mem_drop1.mpr ⟨hq, led_ne N ho hq fun e => hne (congrArg Obj.data e)⟩
theorem lawMain : Zc.S w mean mg mb as ac aw ad ap al ah ab os oc ow od op ol oh ob t1 t4 la vs0 ns dp un gd base h₀ L s₀ Q₀ E := by
  unfold Zc.S
  intro hi0 hlen hlt ds dc dw dd dp' dl dh db ok1 ok4 B F X N TT hd hu hl0 hG hret
  have hPaint : ∀ dk sp : Int, 0 ≤ dk ∧ dk < 32 ∧ 1 ≤ sp ∧ sp ≤ 32 → PaintOk dk sp := fun _ _ h => paintOk h
  have told : ∀ (sp : Int) (e : Nat) (x y P0 P1 P2 : Int), 1 ≤ sp ∧ sp ≤ 32 → e ≤ 9 → (-200 < x ∧ x < 200) → (-200 < y ∧ y < 200) → (-200 < x - y ∧ x - y < 200) → PotOk sp x y e P0 P1 P2 → ToldOk sp P0 P1 P2 x y := fun _ _ _ _ _ _ _ hs he hx hy hxy hp => toldOk hs he hx hy hxy hp
  have cc1 : Nx 121 as := hlt.1
  have cc2 : Nx as ac := hlt.2.1
  have cc3 : Nx ac aw := hlt.2.2.1
  have cc4 : Nx aw ad := hlt.2.2.2.1
  have cc5 : Nx ad ap := hlt.2.2.2.2.1
  have cc6 : Nx ap al := hlt.2.2.2.2.2.1
  have cc7 : Nx al ah := hlt.2.2.2.2.2.2.1
  have cc8 : Nx ah ab := hlt.2.2.2.2.2.2.2
  have cc0 : Nx 114 121 := (by decide : 114 < 121)
  have eB : lawBody = [lawSt 0, lawSt 1, lawSt 2, lawSt 3, lawSt 4, lawSt 5, lawSt 6, lawSt 7, lawSt 8, lawSt 9, lawSt 10, lawSt 11, lawSt 12, lawSt 13, lawSt 14, lawSt 15, lawSt 16, lawSt 17, lawSt 18, lawSt 19] := by rfl
  rw [eB]
  -- cells
  refine seqC (law1 _ [] la vs0 ns oc os ds dc hi0 hlen (by walk_at "n ne") (by walk_at "l ap") s₀ _ E B F X N TT hd hu ⟨hl0, fun oc1 c c0 c1 c2 n u0 u1 u2 h1 tk1 b0 b1 b2 ltc F1 N1 dc1 => ?_⟩)
  have ltc' : @LT.lt Nat _ ab c ∧ @LT.lt Nat _ 121 c := ⟨ltc (ab, ob) (by walk_at "l mem"), ltc (121, t1) (by walk_at "l mem")⟩
  have cc9 : Nx ab c := ltc'.1
  -- ways
  refine seqC (law2 [(as, os), (ad, od), (ap, op), (al, ol), (ah, oh), (ab, ob), (121, t1), (114, t4)] [] c c0 c1 c2 u0 u1 u2 n oc1 ow dc1 dw b0 (by walk_at "n ne") (by walk_at "l ap") _ _ E B F1 X (newsSub N1 (by walk_at "l sub")) TT hd hu fun ow2 l vs nn h2 tk2 hi nl F2 N2 dw2 => ?_)
  have hw := wayB_pm c0
  have hl : ((List.range' 0 8).map (wayB c0)).length = 8 := by simp
  generalize (List.range' 0 8).map (wayB c0) = ws at *
  -- number
  refine seqC (law3 [(l, listOf vs.toArray nn), (aw, ow2), (as, os), (ad, od), (ap, op), (al, ol), (ah, oh), (ab, ob), (121, t1), (114, t4)] [] c c0 c1 c2 u0 u1 u2 n oc1 dc1 ⟨b0.1, Int.lt_trans b0.2 (by decide), b1.1, Int.lt_trans b1.2 (by decide)⟩ _ _ E B F2 X (newsSub N2 (by walk_at "l sub")) TT hd hu fun tk h3 tk3 F3 N3 => ?_)
  have hk : 0 ≤ (c1 + c0.fdiv 256).fmod 2187 ∧ (c1 + c0.fdiv 256).fmod 2187 < 2187 := by rw [Int.fmod_eq_emod_of_nonneg _ (by decide)]; lia
  generalize (c1 + c0.fdiv 256).fmod 2187 = k at *
  -- first, dark, spread
  have nld : (@Ne Nat l ad) ∧ (@Ne Nat l ap) ∧ (@Ne Nat l al) ∧ (@Ne Nat l ah) ∧ (@Ne Nat l ab) ∧ (@Ne Nat l 121) ∧ (@Ne Nat l 114) ∧ (@Ne Nat l c) := ⟨Ne.symm (nl (ad, od) (by walk_at "l mem")), Ne.symm (nl (ap, op) (by walk_at "l mem")), Ne.symm (nl (al, ol) (by walk_at "l mem")), Ne.symm (nl (ah, oh) (by walk_at "l mem")), Ne.symm (nl (ab, ob) (by walk_at "l mem")), Ne.symm (nl (121, t1) (by walk_at "l mem")), Ne.symm (nl (114, t4) (by walk_at "l mem")), Ne.symm (nl (c, _) (by walk_at "l mem"))⟩
  refine seqC (law4 [(l, listOf vs.toArray nn), (aw, ow2), (as, os), (al, ol), (ah, oh), (ab, ob), (121, t1), (114, t4)] _ c c0 c1 c2 u0 u1 u2 n oc1 od op dc1 dd dp' ⟨b2.1, Int.lt_trans b2.2 (by decide)⟩ (by walk_at "n ne") (by walk_at "l ap") (by walk_at "l ap") _ _ E B F3 X (newsSub N3 (by walk_at "l sub")) TT hd hu fun tf td ts od4 op4 h4 tk4 dd4 dp4 F4 N4 => ?_)
  have hf : 0 ≤ c2.fmod 3 ∧ c2.fmod 3 < 3 := by rw [Int.fmod_eq_emod_of_nonneg _ (by decide)]; lia
  have hds : 0 ≤ (c2.fdiv 3).fmod 32 ∧ (c2.fdiv 3).fmod 32 < 32 ∧ 1 ≤ 1 + (c2.fdiv 96).fmod 32 ∧ 1 + (c2.fdiv 96).fmod 32 ≤ 32 := by rw [Int.fmod_eq_emod_of_nonneg _ (by decide), Int.fmod_eq_emod_of_nonneg _ (by decide)]; lia
  generalize c2.fmod 3 = f at *
  generalize (c2.fdiv 3).fmod 32 = dk at *
  generalize 1 + (c2.fdiv 96).fmod 32 = sp at *
  revert ws k f dk sp
  refine nb ?_
  set_option tactic.hygienic false in intros
  -- light, share
  refine seqC (law5 [(ac, oc1), (c, listOf #[.int c0 u0, .int c1 u1, .int c2 u2] n), (l, listOf vs.toArray nn), (aw, ow2), (as, os), (ah, oh), (ab, ob), (121, t1), (114, t4)] _ dk sp td ts ol od4 op4 dd4 dp4 dl hds (by walk_at "n ne") (by walk_at "l ap") _ _ E B F4 X (newsSub N4 (by walk_at "l sub")) TT hd hu fun tl ol5 h5 tk5 dl5 F5 N5 => ?_)
  refine seqC (law6 [(ac, oc1), (c, listOf #[.int c0 u0, .int c1 u1, .int c2 u2] n), (l, listOf vs.toArray nn), (aw, ow2), (as, os), (ab, ob), (121, t1), (114, t4)] _ dk sp td ts tl oh ol5 od4 op4 dd4 dp4 dl5 dh hds (by walk_at "n ne") (by walk_at "l ap") _ _ E B F5 X (newsSub N5 (by walk_at "l sub")) TT hd hu fun th oh6 h6 tk6 dh6 F6 N6 => ?_)
  -- paints
  refine seqC (law7 [(ad, od4), (ap, op4), (ac, oc1), (c, listOf #[.int c0 u0, .int c1 u1, .int c2 u2] n), (l, listOf vs.toArray nn), (aw, ow2), (as, os), (ab, ob), (121, t1), (114, t4)] _ dk sp th tl oh6 ol5 dl5 dh6 (hPaint dk sp hds) _ _ E B F6 X (newsSub N6 (by walk_at "l sub")) TT hd hu fun pa ys nw h7 tk7 hPJ npa F7 N7 => ?_)
  have hsubP := hPJ.sub
  have mad := hsubP (ad, od4) (by walk_at "l mem")
  have map := hsubP (ap, op4) (by walk_at "l mem")
  have mac := hsubP (ac, oc1) (by walk_at "l mem")
  have mc := hsubP (c, listOf #[.int c0 u0, .int c1 u1, .int c2 u2] n) (by walk_at "l mem")
  have ml := hsubP (l, listOf vs.toArray nn) (by walk_at "l mem")
  have maw := hsubP (aw, ow2) (by walk_at "l mem")
  have mab := hsubP (ab, ob) (by walk_at "l mem")
  have m121 := hsubP ((121 : Nat), t1) (by walk_at "l mem")
  have m114 := hsubP ((114 : Nat), t4) (by walk_at "l mem")
  refine seqC (law8 _ nw _ dk sp td ts od4 op4 dd4 dp4 hds pa ys hPJ lookup_head _ _ E B F7 X (newsSub N7 (by walk_at "l sub")) TT hd hu fun h8 tk8 F8 N8 => ?_)
  have N8' : News h₀ L h8 ((pa, LCg.lst ys) :: nw) := newsSub N8 (by walk_at "l sub")
  -- labels
  refine seqC (law9 _ _ _ _ E B F8 X N8' TT hd hu fun lb u3 u4 u5 u6 h9 tk9 F9 N9 nlb => ?_)
  -- x, y
  refine seqC (law10 ((lb, listOf #[.bytes l0 u3, .bytes l1 u4, .bytes l2 u5, .bytes l3 u6] 0) :: (pa, LCg.lst ys) :: nw) _ l vs nn ws k f tk tf ow2 dw2 hi hl hw hk.1 (Int.lt_of_lt_of_le hk.2 (by decide)) (Int.lt_of_lt_of_le (by decide) hf.1) (Int.lt_of_lt_of_le hf.2 (by decide)) (by walk_at "l look") (by walk_at "l look") _ _ E B F9 X (newsSub N9 (by walk_at "l sub")) TT hd hu fun T10 tx ty h10 tk10 F10 N10 nT => ?_)
  have hxy := (stN_bound (k := k) (hd := f) hl hw (Nat.le_refl 8))
  have eS : stN ws k f 8 = place ws k f := rfl
  rw [eS] at hxy
  generalize hPx : (place ws k f).1 = x at *
  generalize hPy : (place ws k f).2.1 = y at *
  have N10' : News h₀ L h10 ((lb, listOf #[.bytes l0 u3, .bytes l1 u4, .bytes l2 u5, .bytes l3 u6] 0) :: (pa, LCg.lst ys) :: nw) := newsSub N10 (by walk_at "l sub")
  -- white, pot
  refine seqC (law11 ((lb, listOf #[.bytes l0 u3, .bytes l1 u4, .bytes l2 u5, .bytes l3 u6] 0) :: (pa, LCg.lst ys) :: nw) _ c c0 c1 c2 sp x y u0 u1 u2 ts tx ty n oc1 op4 dc1 dp4 ⟨b2.1, Int.lt_trans b2.2 (by decide)⟩ hds.2.2 hxy.1 hxy.2.1 (by walk_at "l look") (by walk_at "l look") _ _ E B F10 X (newsSub N10' (by walk_at "l sub")) TT hd hu fun tv h11 tk11 F11 N11 => ?_)
  have hc8 : 0 ≤ (c2.fdiv 3072).fmod 8 ∧ (c2.fdiv 3072).fmod 8 < 8 := by rw [Int.fmod_eq_emod_of_nonneg _ (by decide)]; lia
  have hps := pot_start hds.2.2 hxy.1 hxy.2.1 hxy.2.2 hc8
  generalize 512 * (c2.fdiv 3072).fmod 8 - sp * min (min x y) 0 = V at *
  revert V
  refine nb ?_
  set_option tactic.hygienic false in intros
  have N11' : News h₀ L h11 ((lb, listOf #[.bytes l0 u3, .bytes l1 u4, .bytes l2 u5, .bytes l3 u6] 0) :: (pa, LCg.lst ys) :: nw) := newsSub N11 (by walk_at "l sub")
  refine seqC (law12 ((lb, listOf #[.bytes l0 u3, .bytes l1 u4, .bytes l2 u5, .bytes l3 u6] 0) :: (pa, LCg.lst ys) :: nw) _ sp x y V ts tx ty tv op4 dp4 hds.2.2 hxy.1 hxy.2.1 hps.2 (by walk_at "l look") (by walk_at "l look") lookup_head _ _ E B F11 X (newsSub N11' (by walk_at "l sub")) TT hd hu fun pt v0 v1 v2 n3 h12 tk12 F12 N12 npt => ?_)
  -- pile
  refine seqC (law13 _ _ k f tk tf hk.1 (Int.lt_of_lt_of_le hk.2 (by decide)) (by walk_at "l look") (by walk_at "l look") _ _ E B F12 X N12 TT hd hu fun p dx hash tkd Ts R n4 h13 tk13 F13 N13 hTl hT hdx hsR apR => ?_)
  have inR : ∀ q ∈ nw, q ∈ R := fun q hq => hsR q (.tail _ (.tail _ (.tail _ (.tail _ hq))))
  have r121 := inR _ m121
  have p121 : p ≠ 121 := Ne.symm (apR _ r121)
  have m1 : ((121 : Nat), t1) ∈ (p, accObj dx (refs Ts) n4) :: R := .tail _ r121
  have nf1 : ∀ {o : Obj} {q : Addr × Obj}, TxtOk o → (∀ x, q.2.data ≠ .fields x) → q.2.data ≠ o.data := fun ok hq e => by
    obtain ⟨ps, hps, _⟩ := ok.fields
    exact hq ps (e.trans hps)
  have keepR : ∀ q ∈ R, (∀ x, q.2.data ≠ .fields x) → q ∈ drop1 121 R := fun q hq hc => mem_drop1.mpr ⟨hq, led_ne N13 m1 (.tail _ hq) fun e => nf1 ok1 hc (congrArg Obj.data e)⟩
  have ispR : ∀ {T : Addr} {x : Str}, IsP R T x → IsP (drop1 121 R) T x := fun ⟨a, b, h⟩ => ⟨a, b, keepR _ h fun x h => by cases h⟩
  have N13' : News h₀ L h13 ((121, t1) :: (p, accObj dx (refs Ts) n4) :: drop1 121 R) := newsSub N13 (List.forall_mem_cons.mpr ⟨m1, List.forall_mem_cons.mpr ⟨.head _, fun q hq => .tail _ (mem_drop1.mp hq).1⟩⟩)
  have kdx := keepR _ hdx fun x h => by cases h
  have kl := keepR _ (inR _ ml) fun x h => by cases h
  have kaw := keepR _ (inR _ maw) fun x h => by rw [dw2] at h; cases h
  have kap := keepR _ (inR _ map) fun x h => by rw [dp4] at h; cases h
  have kab := keepR _ (inR _ mab) fun x h => by rw [db] at h; cases h
  have klb := keepR _ (hsR (lb, listOf #[.bytes l0 u3, .bytes l1 u4, .bytes l2 u5, .bytes l3 u6] 0) (by walk_at "l mem")) fun x h => by cases h
  have kpa := keepR _ (hsR (pa, LCg.lst ys) (by walk_at "l mem")) fun x h => by cases h
  have kpt := keepR _ (hsR (pt, listOf #[.int (V + sp * x) v0, .int (V + sp * y) v1, .int V v2] n3) (by walk_at "l mem")) fun x h => by cases h
  have k114 : ((114 : Nat), t4) ∈ drop1 121 R := mem_drop1.mpr ⟨inR _ m114, (by decide : (114 : Nat) ≠ 121)⟩
  have hPJ2 := hPJ.thin (nw2 := drop1 121 R) fun q hq hc => keepR q (inR q hq) hc
  generalize hkeep : drop1 121 R = keep at *
  have apK : ∀ q ∈ keep, q.1 ≠ 121 := by rw [← hkeep]; exact ap_drop1
  have apKp : ∀ q ∈ keep, q.1 ≠ p := by rw [← hkeep]; exact fun q hq => apR q (mem_drop1.mp hq).1
  have hT1 : ∀ i, i < 8 → IsP keep (Ts.getD i 0) (digS (fig k (7 - i))) := fun i hi => ispR (hT i hi)
  -- depth, row
  refine seqC (law14 ((p, accObj dx (refs Ts) n4) :: keep) _ t1 _ ow2 p dx Ts n4 lb l u3 u4 u5 u6 0 vs nn ws k f tf (.head _) (.tail _ kdx) (ap_cons p121 apK) ok1 hTl (fun i hi => (hT1 i hi).mono fun q hq => .tail _ hq) (.tail _ klb) (.tail _ kl) (.tail _ kaw) dw2 hi hl hw lookup_head (by walk_at "l look") (by walk_at "l look") _ _ E B F13 X N13' TT hd hu ⟨hG, fun t1' tz h14 tk14 gs14 F14 N14 ok14 hG14 => ?_⟩)
  refine seqC (law15 _ _ _ _ E B F14 X N14 TT hd hu fun tr h15 tk15 F15 N15 => ?_)
  -- the loop
  have e0 : k + ((min 0 9 : Nat) : Int) = k := by simp
  refine seqC (law16 keep [] keep p pa lb l dx ys 0 nn hash tkd tf f ow2 op4 vs ws k f sp dk ts tk tf u3 u4 u5 u6 kdx kl kaw dw2 kap dp4 klb kpa hPJ2 (fun _ h => h) hds hi hl hw hk hf (fun e x y P0 P1 P2 he hx hy hxy hp => told sp e x y P0 P1 P2 hds.2.2 he hx hy hxy hp) _ _ _ _ E B F15 X N15 TT hd hu
    ⟨LoopJ.mk (te := tz) (tr := tr) hG14 ok14 (ap_cons p121 apK) apKp hTl (by rw [e0]; exact hT1) (fun _ h => h) kpt (by rw [e0, hPx, hPy]; exact hps.1) ⟨by walk_at "l look", by walk_at "l look", by walk_at "l look", by walk_at "l look", by walk_at "l look", by walk_at "l look", by rw [show k + ((min 0 9 : Nat) : Int) = k from e0]; walk_at "l look", lookup_head⟩, fun fr' news' h16 tk16 gs16 hJ16 F16 N16 => ?_⟩)
  refine LoopJ.elim hJ16 fun frx t1b pt2 n5 n6 Ts2 rest1 P0 P1 P2 w0 w1 w2 te2 tr2 hm hG16 enw ok16 apA apB hTl2 hT2 hk16 _ _ nm => ?_
  clear hJ16
  subst enw
  have m1 := nm.1
  have m2 := nm.2.1
  have m3 := nm.2.2.1
  have m8 := nm.2.2.2.2.2.2.2
  clear nm
  rw [← hm] at m1 m2 m3 m8
  have i16 : ∀ q ∈ keep, q ∈ (121, t1b) :: (p, accObj dx (refs Ts2) n6) :: rest1 := fun q hq => .tail _ (.tail _ (hk16 q hq))
  -- back
  refine seqC (law17 _ fr' ob k f tk tf (i16 _ kab) db hk.1 hk.2 m1 m2 _ _ E B F16 X N16 TT hd hu fun p2 dx2 hash2 tkd2 tkv2 Ts3 rest2 n7 ob2 h17 tk17 dob F17 N17 apX apY hTl3 hT3 hdx2 hin2 hnp2 => ?_)
  have nab : ∀ q ∈ (121, t1b) :: (p, accObj dx (refs Ts2) n6) :: rest1, q.2.data ≠ ob.data → q ∈ rest2 := fun q hq hn => hin2 q hq (led_ne N16 (i16 _ kab) hq fun e => hn (congrArg Obj.data e))
  have p2ab : p2 ≠ ab := apX _ (.head _)
  have swp : ∀ q ∈ (p2, accObj dx2 (refs Ts3) n7) :: (ab, ob2) :: rest2, q ∈ (ab, ob2) :: (p2, accObj dx2 (refs Ts3) n7) :: rest2 := List.forall_mem_cons.mpr ⟨by walk_at "l mem", List.forall_mem_cons.mpr ⟨by walk_at "l mem", fun q hq => .tail _ (.tail _ hq)⟩⟩
  have kl2 := nab _ (i16 _ kl) (by rw [db]; intro h; cases h)
  have kaw2 := nab _ (i16 _ kaw) (by rw [db, dw2]; intro h; cases h)
  -- again
  refine seqC (law18 ((ab, ob2) :: rest2) ((ab, ob2) :: rest2) fr' p2 dx2 l Ts3 n7 nn hash2 tkd2 tkv2 f ob2 ow2 vs ws (6551 - k) (fun _ h => h) (.tail _ hdx2) (ap_cons (Ne.symm p2ab) apY) (.tail _ kl2) hTl3 (fun i hi => (hT3 i hi).mono fun q hq => .tail _ hq) hi hl hw (by lia) (.head _) dob (.tail _ kaw2) dw2 _ _ E B F17 X (newsSub N17 swp) TT hd hu fun ys9 nw9 t9 h18 tk18 hA9 F18 N18 => ?_)
  refine exE3 hA9 fun Ts4 n8 rest3 hh9 => anE7 hh9 fun ex9 apZ hTl4 hT4 hk4 _ _ => ?_
  clear hh9 hA9
  subst ex9
  rw [rowB_nine] at F18
  -- the row mirrored
  have m8' : nmOf fr' "row" = some (.bytes (rowB ws k 9) tr2) := m8
  rw [mir_nine hl hw hk] at m8'
  have hcr : ∀ b ∈ [crB ws (6551 - k), crB ws (6551 - k + 1), crB ws (6551 - k + 2), crB ws (6551 - k + 3), crB ws (6551 - k + 4), crB ws (6551 - k + 5), crB ws (6551 - k + 6), crB ws (6551 - k + 7), crB ws (6551 - k + 8)], b = 40 ∨ b = 41 := by
    simp only [List.forall_mem_cons]
    exact ⟨crB_cases _ _, crB_cases _ _, crB_cases _ _, crB_cases _ _, crB_cases _ _, crB_cases _ _, crB_cases _ _, crB_cases _ _, crB_cases _ _, by simp⟩
  refine seqCC (law19 _ _ _ _ _ _ _ _ _ _ _ t9 tr2 lookup_head ((lookup_cons (by decide)).trans m8') hcr _ _ E B F18 X N18 TT hd hu fun h19 tk19 F19 N19 => ?_)
  -- the answer
  have up3 : ∀ q ∈ rest2, q ∈ (p2, accObj dx2 (refs Ts4) n8) :: rest3 := fun q hq => .tail _ (hk4 _ (.tail _ hq))
  have n121 : ((121 : Nat), t1b) ∈ (p2, accObj dx2 (refs Ts4) n8) :: rest3 := up3 _ (hin2 _ (.head _) (by show @Ne Nat _ _; lia))
  have n114 : ((114 : Nat), t4) ∈ (p2, accObj dx2 (refs Ts4) n8) :: rest3 := up3 _ (hin2 _ (i16 _ k114) (by show @Ne Nat _ _; lia))
  have inD : ∀ q ∈ (p2, accObj dx2 (refs Ts4) n8) :: rest3, (∀ x, q.2.data ≠ .fields x) → q ∈ drop1 121 ((p2, accObj dx2 (refs Ts4) n8) :: rest3) := fun q hq hc => mem_drop1.mpr ⟨hq, led_ne N19 n121 hq fun e => nf1 ok16 hc (congrArg Obj.data e)⟩
  have ispD : ∀ {T : Addr} {x : Str}, IsP ((p2, accObj dx2 (refs Ts4) n8) :: rest3) T x → IsP (drop1 121 ((p2, accObj dx2 (refs Ts4) n8) :: rest3)) T x := fun ⟨a, b, h⟩ => ⟨a, b, inD _ h fun x h => by cases h⟩
  have isp1 : ∀ {T : Addr} {x : Str}, IsP rest1 T x → IsP ((p2, accObj dx2 (refs Ts4) n8) :: rest3) T x := fun ⟨a, b, h⟩ => ⟨a, b, up3 _ (nab _ (.tail _ (.tail _ h)) (by rw [db]; intro h; cases h))⟩
  have e9 : 6551 - k + ((9 : Nat) : Int) = 6560 - k := by lia
  rw [e9] at hT4
  refine .of (law20 (drop1 121 ((p2, accObj dx2 (refs Ts4) n8) :: rest3)) _ t1b t4 ob2 p dx p2 dx2 Ts2 Ts4 n6 n8 k (k + (min 10 9 : Nat)) f hash hash2 tkd tf tkd2 tkv2 tk tf ap_drop1 ok16 (mem_drop1.mpr ⟨n114, (by decide : (114 : Nat) ≠ 121)⟩) ok4 (inD _ (.tail _ (hk4 _ (.head _))) fun x h => by rw [dob] at h; cases h) dob
    (inD _ (up3 _ (nab _ (.tail _ (.head _)) (by rw [db]; intro h; cases h))) fun x h => by cases h) (inD _ (up3 _ (nab _ (i16 _ kdx) (by rw [db]; intro h; cases h))) fun x h => by cases h) hTl2 (fun i hi => ispD (isp1 (hT2 i hi)))
    (inD _ (.head _) fun x h => by cases h) (inD _ (up3 _ hdx2) fun x h => by cases h) hTl4 (fun i hi => ispD ((hT4 i hi).mono fun q hq => .tail _ hq)) hk hf ((lookup_cons (by decide)).trans m1) ((lookup_cons (by decide)).trans m2) ((lookup_cons (by decide)).trans m3)
    _ _ E B F19 X (news_drop1 N19 n121) TT hd hu ⟨hG16, fun h20 tk20 gs20 op20 o420 F20 a1 a2 a3 a4 a5 => ?_⟩)
  exact hret _ _ _ _ op20 o420 F20 a1 a2 a3 a4 a5
theorem lawAll (w : World) (mean : Mean) (mg : Nm) (mb : Nm) (as : Addr) (ac : Addr) (aw : Addr) (ad : Addr) (ap : Addr) (al : Addr) (ah : Addr) (ab : Addr) (os : Obj) (oc : Obj) (ow : Obj) (od : Obj) (op : Obj) (ol : Obj) (oh : Obj) (ob : Obj) (t1 : Obj) (t4 : Obj) (la : Addr) (vs0 : List Value) (ns : List Int) (dp : Nat) (un : Nat) (gd : Option (List Code)) (base : Heap) (h₀ : Heap) (L : Addr) (s₀ : Shared) (Q₀ : Flow → Shared → Prop) (E : Value → Shared → Prop) (hi0 : IntsAre vs0 ns) (hlen : vs0.length ≤ 63) (hlt : @LT.lt Nat _ 121 as ∧ @LT.lt Nat _ as ac ∧ @LT.lt Nat _ ac aw ∧ @LT.lt Nat _ aw ad ∧ @LT.lt Nat _ ad ap ∧ @LT.lt Nat _ ap al ∧ @LT.lt Nat _ al ah ∧ @LT.lt Nat _ ah ab) (ds : os.data = .cell (some (.ref la))) (dc : oc.data = .cell none) (dw : ow.data = .cell none) (dd : od.data = .cell none) (dp' : op.data = .cell none) (dl : ol.data = .cell none) (dh : oh.data = .cell none) (db : ob.data = .cell none) (ok1 : TxtOk t1) (ok4 : TxtOk t4) (B : Below callerA base [] h₀) (F : Fr h₀ L s₀.heap (nmOf [])) (X : (KH w).In h₀) (N : News h₀ L s₀.heap [(ac, oc), (as, os), (aw, ow), (ad, od), (ap, op), (al, ol), (ah, oh), (ab, ob), (121, t1), (114, t4)]) (TT : Top VW LW mean mg mb h₀) (hd : dp + 60 < recursionLimit) (hu : un + 480 < cLine) (hl0 : h₀.IsList la vs0.toArray) (hG : AllBare s₀.gens) (hret : ∀ fr h' tk' gs' op' o4', Fr h₀ L h' (nmOf fr) → AllBare gs' → TxtOk op' → TxtOk o4' → h'.get? 121 = some op' → h'.get? 114 = some o4' → Q₀ (.ret (.bool true)) { s₀ with heap := h', toks := tk', gens := gs' }) : wpC (model prg w) (ktrTop dp un gd "law" lawScope L 215 (.ref 214) (lawCl ab ah al ap ad aw ac as) []) (execs lawBody (envX "law" lawScope L 215 (.ref 214) (lawCl ab ah al ap ad aw ac as))) Q₀ E s₀ := by
  exact (@clz _ (fun x => Zc.S (x.1) (x.2.1) (x.2.2.1) (x.2.2.2.1) (x.2.2.2.2.1) (x.2.2.2.2.2.1) (x.2.2.2.2.2.2.1) (x.2.2.2.2.2.2.2.1) (x.2.2.2.2.2.2.2.2.1) (x.2.2.2.2.2.2.2.2.2.1) (x.2.2.2.2.2.2.2.2.2.2.1) (x.2.2.2.2.2.2.2.2.2.2.2.1) (x.2.2.2.2.2.2.2.2.2.2.2.2.1) (x.2.2.2.2.2.2.2.2.2.2.2.2.2.1) (x.2.2.2.2.2.2.2.2.2.2.2.2.2.2.1) (x.2.2.2.2.2.2.2.2.2.2.2.2.2.2.2.1) (x.2.2.2.2.2.2.2.2.2.2.2.2.2.2.2.2.1) (x.2.2.2.2.2.2.2.2.2.2.2.2.2.2.2.2.2.1) (x.2.2.2.2.2.2.2.2.2.2.2.2.2.2.2.2.2.2.1) (x.2.2.2.2.2.2.2.2.2.2.2.2.2.2.2.2.2.2.2.1) (x.2.2.2.2.2.2.2.2.2.2.2.2.2.2.2.2.2.2.2.2.1) (x.2.2.2.2.2.2.2.2.2.2.2.2.2.2.2.2.2.2.2.2.2.1) (x.2.2.2.2.2.2.2.2.2.2.2.2.2.2.2.2.2.2.2.2.2.2.1) (x.2.2.2.2.2.2.2.2.2.2.2.2.2.2.2.2.2.2.2.2.2.2.2.1) (x.2.2.2.2.2.2.2.2.2.2.2.2.2.2.2.2.2.2.2.2.2.2.2.2.1) (x.2.2.2.2.2.2.2.2.2.2.2.2.2.2.2.2.2.2.2.2.2.2.2.2.2.1) (x.2.2.2.2.2.2.2.2.2.2.2.2.2.2.2.2.2.2.2.2.2.2.2.2.2.2.1) (x.2.2.2.2.2.2.2.2.2.2.2.2.2.2.2.2.2.2.2.2.2.2.2.2.2.2.2.1) (x.2.2.2.2.2.2.2.2.2.2.2.2.2.2.2.2.2.2.2.2.2.2.2.2.2.2.2.2.1) (x.2.2.2.2.2.2.2.2.2.2.2.2.2.2.2.2.2.2.2.2.2.2.2.2.2.2.2.2.2.1) (x.2.2.2.2.2.2.2.2.2.2.2.2.2.2.2.2.2.2.2.2.2.2.2.2.2.2.2.2.2.2.1) (x.2.2.2.2.2.2.2.2.2.2.2.2.2.2.2.2.2.2.2.2.2.2.2.2.2.2.2.2.2.2.2.1) (x.2.2.2.2.2.2.2.2.2.2.2.2.2.2.2.2.2.2.2.2.2.2.2.2.2.2.2.2.2.2.2.2.1) (x.2.2.2.2.2.2.2.2.2.2.2.2.2.2.2.2.2.2.2.2.2.2.2.2.2.2.2.2.2.2.2.2.2)) Zc.ne (by with_unfolding_all exact lawMain)) (w, mean, mg, mb, as, ac, aw, ad, ap, al, ah, ab, os, oc, ow, od, op, ol, oh, ob, t1, t4, la, vs0, ns, dp, un, gd, base, h₀, L, s₀, Q₀, E) hi0 hlen hlt ds dc dw dd dp' dl dh db ok1 ok4 B F X N TT hd hu hl0 hG hret

section
variable {prog : Program} {w : World} {A : Around} {s : Shared} {R : Result → Shared → Prop}
theorem codeC_cells {a : Addr} {o : Obj} {fd : FuncData} {body : List Stmt} {args : Args} {binds : List (Str × Value)}
    (hroom : A.depth < recursionLimit) (ho : s.heap.get? a = some o) (hd' : o.data = .func fd) (hlim : s.heap.NoLimit) (hcd : s.heap.CodeRec fd.code fd.qualname) (hbody : fd.body = .stmts body) (hbind : BindsTo s fd args binds) (hclo : fd.closure = [])
    (hkind : ∀ x ∈ binds, fd.scope.names.lookup x.1 = some .local ∨ (fd.scope.names.lookup x.1 = some .cell ∧ ((cellsFrom (s.heap.objs.size + 1) fd.scope.names []).lookup x.1).isSome = true))
    (h : ∀ s₁, InCallC s (callEnvC fd s.heap.objs.size a).locals (bindL (callEnvC fd s.heap.objs.size a).kindOf binds fun _ => none) (callEnvC fd s.heap.objs.size a).cells
        (bindC (callEnvC fd s.heap.objs.size a).kindOf binds fun _ => none) s₁ →
      wpC (model prog w) (A.deeper (callEnvC fd s.heap.objs.size a)) (execs body (callEnvC fd s.heap.objs.size a)) (fun f s' => R (.ok (.ret (match f with | .ret v => v | _ => .none))) s')
        (fun e s' => wpAny (model prog w) (A.deeper (callEnvC fd s.heap.objs.size a)) (leaving (callEnvC fd s.heap.objs.size a) e) (fun _ s'' => R (.error e) s'') (fun e' s'' => R (.error e') s'') s') s₁)
    (hco : fd.scope.isCoroutine = false) (hgen : fd.scope.isGenerator = false) (hk : fd.scope.kind = .function) : codeC (model prog w) A (.call (.ref a) args) R s := by
  refine codeC.tree rfl (.of ?_)
  show wpAny _ A.in1 (callAny (.ref a) args) _ _ s
  refine nd_load ho (nd_bind (nd_pure ?_))
  refine exE4 hcd fun c oc vs tq hh9 => anE4 hh9 fun hc hoc hdc hq => ?_
  dsimp only
  rw [hd']
  dsimp only
  delta callFunction
  rw [hco, hgen, hbody, hc]
  dsimp only
  refine wpAny_bind (m := field (.ref c) 1) (wpAny_field hoc hdc hq (wpAny_bind (wpAny_pure ?_)))
  refine wpAny_bind (hbind _ _ _ _ (wpAny_bind ?_))
  rw [← hc, hclo]
  refine wpAny_newFunctionEnv_cells hk hkind fun env he s' x => ?_
  subst he
  exact wpAny_bind (wpAny_enterFrame (hlim.keeps x.toInCall.keep) hroom (wpAny_pure (And.intro rfl (codeC_func (h s' x)))))
end
theorem codeC_cellsN {prog : Program} {w : World} {A : Around} {s : Shared} {R : Result → Shared → Prop} {name : Str} {params : Arguments} {body : List Stmt} {scope : Scope} {pm cd doc : Value} {a : Addr} {o : Obj} {args : List Value} {binds : List (Str × Value)}
    (hroom : A.depth < recursionLimit) (ho : s.heap.get? a = some o) (hdata : o.data = .func (Calls.docDef name params body scope pm cd doc)) (hlim : s.heap.NoLimit) (hcd : s.heap.CodeRec cd name)
    (hbind : bindArgs (Calls.docDef name params body scope pm cd doc) ⟨args, []⟩ = Pure.pure binds)
    (hkind : ∀ x ∈ binds, scope.names.lookup x.1 = some .local ∨ (scope.names.lookup x.1 = some .cell ∧ ((cellsFrom (s.heap.objs.size + 1) scope.names []).lookup x.1).isSome = true))
    (hnd : ((cellsFrom 0 scope.names []).map (·.1)).Nodup)
    (h : ∀ h₁ tk cells, Fr s.heap s.heap.objs.size h₁ (bindL (envOfC name scope s.heap.objs.size a cd).kindOf binds fun _ => none) → News s.heap s.heap.objs.size h₁ cells →
      CellsAre (bindC (envOfC name scope s.heap.objs.size a cd).kindOf binds fun _ => none) (cellsFrom (s.heap.objs.size + 1) scope.names []) cells →
      wpC (model prog w) (A.deeper (envOfC name scope s.heap.objs.size a cd)) (execs body (envOfC name scope s.heap.objs.size a cd))
        (fun f s' => R (.ok (.ret (match f with | .ret v => v | _ => .none))) s') (fun _ _ => False) { s with heap := h₁, toks := tk })
    (hco : scope.isCoroutine = false) (hgen : scope.isGenerator = false) (hk : scope.kind = .function) : codeC (model prog w) A (.call (.ref a) ⟨args, []⟩) R s :=
  codeC_cells (fd := Calls.docDef name params body scope pm cd doc) hroom ho hdata hlim hcd rfl (BindsTo.of_eq hbind) rfl hkind (fun s₁ X => by
    obtain ⟨h₁, tk, rfl, _⟩ := X.done
    obtain ⟨cells, N, Y⟩ := Cl.news (h₀ := s.heap) (Nat.le_refl _) fun n c hm => ⟨X.cell n c (lookup_of_mem_nodup (cellsFrom_names scope.names 0 (s.heap.objs.size + 1) [] [] rfl ▸ hnd) hm), X.above n c hm⟩
    exact (h h₁ tk cells ⟨X.toInCall.ns, X.toInCall.keep, X.toInCall.fresh⟩ N Y).mono (fun _ _ x => x) fun _ _ x => x.elim) hco hgen hk

theorem fresh_Y_top : True := by
  k_with_none
  w_on
  w_top off
  (k_with "1 l mem" => first | assumption | exact List.Mem.head _ | (apply List.Mem.tail; walk_at "l mem"))
  (k_with "1 l sub" => first | (refine Mine.subC (by walk_at "l mem") ?_; walk_at "l sub") | (intro _ _; walk_at "l mem"))
  trivial
noncomputable abbrev tabs2 : List (Addr × Addr) := [(125, 121), (118, 114)]
theorem ghost_topV {h₁ : Heap} {tabs : List (Addr × Addr)} {mean : ExcName → Option Value} {mg mb : Str → Option Value} (hT : TabsAt tabs h₁) (T : Top hd.view_39 (looseW hd.view_39 loose0) mean mg mb h₁) : Top VW LW mean mg mb (ghostOf h₁ tabs) where
  g := ghost_ns hT T.g
  b := ghost_ns hT T.b
  nolimit := Exists.imp (fun _ => And.imp_left (ghost_ns hT)) T.nolimit
  nodigits := Exists.imp (fun _ => And.imp_left (ghost_ns hT)) T.nodigits
  fn := fun d hd => absurd (show d ∈ ([] : List DefRec) from hd) List.not_mem_nil
  own := fun o ho => absurd (show o ∈ ([] : List OwnSpec) from ho) List.not_mem_nil
  const := fun x d e => by cases (show (none : Option PyData) = some d from e)
  free := fun x h1 h2 _ _ _ => T.free x h1 (fun q => h2 (List.mem_append_left _ q)) (fun q => h2 (List.mem_append_right _ (List.mem_append_left _ q)))
    (fun q => h2 (List.mem_append_right _ (List.mem_append_right _ (List.mem_append_left _ q)))) fun q => h2 (List.mem_append_right _ (List.mem_append_right _ (List.mem_append_right _ q)))
  builtins := T.builtins
  tab := fun d hd => absurd (show d ∈ ([] : List DefRec) from hd) List.not_mem_nil
  bmain := Exists.imp (fun _ => Exists.imp fun _ => And.imp_right (And.imp_right fun x => ⟨ghost_get hT x.1 (fun q => by rw [q] at x; cases x.2.1), x.2⟩)) T.bmain
  seer := fun _ => by
    have S := T.seer (by decide +kernel)
    exact ⟨Exists.imp (fun _ => And.imp_left (ghost_ns hT)) S.statics, Exists.imp (fun _ => And.imp_left (ghost_ns hT)) S.mods, Exists.imp (fun _ => And.imp_left (ghost_ns hT)) S.imp,
      Exists.imp (fun _ => Exists.imp fun _ => Exists.imp fun _ => And.imp (ghost_ns hT) (And.imp_right fun x => ⟨ghost_get hT x.1 (fun q => by rw [q] at x; cases x.2.1), x.2⟩)) S.main⟩
theorem tabs_at {w : World} {h : Heap} (KX : (KH w).In h) (hh : ∀ P ∈ [121, 114], h.get? P = some (tabObj #[])) : TabsAt tabs2 h :=
  List.forall_mem_cons.mpr ⟨⟨codeHd_of_K (c := 125) (P := 121) KX (by kernel_rfl), hh 121 (.head _)⟩, List.forall_mem_cons.mpr ⟨⟨codeHd_of_K (c := 118) (P := 114) KX (by kernel_rfl), hh 114 (.tail _ (.head _))⟩, List.forall_mem_nil _⟩⟩
theorem law_at (p : Params) : nsIn (hd.heap_39 p) mainGlobals (Str.ofString "law") = some (some (.ref 215)) := by kernel_rfl
theorem law_tab (p : Params) : ∃ P, tabIn (hd.heap_39 p) (Str.ofString "law") = some (214, P) := ⟨_, rfl⟩
theorem old_end {h h' : Heap} {L : Addr} {m : Nm} {op o4 : Obj} (hT : TabsAt tabs2 h) (F : Fr (ghostOf h tabs2) L h' m) (k1 : TxtOk op) (k4 : TxtOk o4) (g1 : h'.get? 121 = some op) (g4 : h'.get? 114 = some o4) : OldK h h' := by
  have keep : ∀ b o, b ∉ tabs2.map (·.2) → h.get? b = some o → h'.get? b = some o := fun b o hb e => F.keep b o (ghost_ne e hb)
  have grown : ∀ b o, b ∈ tabs2.map (·.2) → h.get? b = some o → isCodeTable h b ∧ o = tabObj #[] ∧ ∃ ps, h'.get? b = some (tabObj ps) := fun b o hb e => by
    obtain ⟨q, hq, rfl⟩ := List.mem_map.mp hb
    have e2 := (hT q hq).2
    rw [e] at e2
    refine ⟨((hT q hq).1.tab (hT q hq).2).isCodeTable, Option.some.inj e2, ?_⟩
    rcases List.mem_cons.mp hq with rfl | hq
    · obtain ⟨ps, rfl, _⟩ := k1; exact ⟨ps, g1⟩
    · rcases List.mem_cons.mp hq with rfl | hq
      · obtain ⟨ps, rfl, _⟩ := k4; exact ⟨ps, g4⟩
      · cases hq
  refine ⟨fun b o e => ?_, fun b o e => ?_⟩
  · by_cases hb : b ∈ tabs2.map (·.2)
    · obtain ⟨ht, rfl, ps, hP⟩ := grown b o hb e
      exact .inr (.inl ⟨ht, rfl, #[], ps, rfl, by rw [Array.empty_append]; exact hP⟩)
    · exact .inl (keep b o hb e)
  · by_cases hb : b ∈ tabs2.map (·.2)
    · obtain ⟨_, _, ps, hP⟩ := grown b o hb e
      exact ⟨_, hP⟩
    · exact ⟨o, keep b o hb e⟩
theorem txt_empty : TxtOk (tabObj #[]) := ⟨#[], rfl, by trivial⟩
theorem top_run (dp un : Nat) (gd : Option (List Code)) (hdp : dp + 60 < recursionLimit) (hun : un + 480 < cLine) (w : World) (mean : Mean) (mg mb : Nm) (h : Heap) (s : Shared) (L : Addr) (os oc ow od op ol oh ob : Obj) (la : Addr) (vs : List Value) (ns : List Int) (KX : (KH w).In h) (hT : TabsAt tabs2 h) (T : Top hd.view_39 (looseW hd.view_39 loose0) mean mg mb h)
    (F : Fr h L s.heap (nmOf [])) (N : News h L s.heap [((L + 1 + 1 + 1 + 1 + 1 + 1 + 1 + 1), ob), ((L + 1 + 1 + 1 + 1 + 1 + 1 + 1), oh), ((L + 1 + 1 + 1 + 1 + 1 + 1), ol), ((L + 1 + 1 + 1 + 1 + 1), op), ((L + 1 + 1 + 1 + 1), od), ((L + 1 + 1 + 1), ow), ((L + 1 + 1), oc), ((L + 1), os)]) (db : ob.data = .cell none) (dh : oh.data = .cell none) (dl : ol.data = .cell none) (dp' : op.data = .cell none) (dd : od.data = .cell none) (dw : ow.data = .cell none) (dc : oc.data = .cell none) (ds : os.data = .cell (some (.ref la)))
    (hLs : h.IsList la vs.toArray) (hI : IntsAre vs ns) (hlen : vs.length ≤ 63) (hG : AllBare s.gens) (Q : Flow → Shared → Prop) (hret : ∀ h' tk' gs', OldK h h' → AllBare gs' → Q (.ret (.bool true)) { s with heap := h', toks := tk', gens := gs' }) :
    wpC (model prg w) (ktrTop dp un gd "law" lawScope L 215 (.ref 214) (lawCl (L + 1 + 1 + 1 + 1 + 1 + 1 + 1 + 1) (L + 1 + 1 + 1 + 1 + 1 + 1 + 1) (L + 1 + 1 + 1 + 1 + 1 + 1) (L + 1 + 1 + 1 + 1 + 1) (L + 1 + 1 + 1 + 1) (L + 1 + 1 + 1) (L + 1 + 1) (L + 1)) []) (execs lawBody (envX "law" lawScope L 215 (.ref 214) (lawCl (L + 1 + 1 + 1 + 1 + 1 + 1 + 1 + 1) (L + 1 + 1 + 1 + 1 + 1 + 1 + 1) (L + 1 + 1 + 1 + 1 + 1 + 1) (L + 1 + 1 + 1 + 1 + 1) (L + 1 + 1 + 1 + 1) (L + 1 + 1 + 1) (L + 1 + 1) (L + 1)))) Q (fun _ _ => False) s := by
  have h121 := Heap.lt_size (hT (125, 121) (.head _)).2
  have h114 := Heap.lt_size (hT (118, 114) (.tail _ (.head _))).2
  have hL : @LT.lt Nat _ 121 L := Nat.lt_of_lt_of_le h121 F.above
  have NG := ghost_news hT F N
  have NG2 : News (ghostOf h tabs2) L s.heap [(_, ob), (_, oh), (_, ol), (_, op), (_, od), (_, ow), (_, oc), (_, os), (121, tabObj #[]), (114, tabObj #[])] := NG
  clear NG
  have XG := ghost_K hT KX (by kernel_rfl)
  refine lawAll w mean mg mb _ _ _ _ _ _ _ _ os oc ow od op ol oh ob (tabObj #[]) (tabObj #[]) la vs ns dp un gd (ghostOf h tabs2) (ghostOf h tabs2) L s Q (fun _ _ => False) hI hlen ?_ ds dc dw dd dp' dl dh db txt_empty txt_empty
    (below_caller _) (ghost_fr hT F) XG (newsSub NG2 (by walk_at "l sub")) (ghost_topV hT T) hdp hun (ghost_list hT hLs) hG fun fr h' tk' gs' op' o4' F' hG' k1 k4 g1 g4 => hret h' tk' gs' (old_end hT F' k1 k4 g1 g4) hG'
  exact ⟨Nat.lt_succ_of_lt hL, Nat.lt_succ_self _, Nat.lt_succ_self _, Nat.lt_succ_self _, Nat.lt_succ_self _, Nat.lt_succ_self _, Nat.lt_succ_self _, Nat.lt_succ_self _⟩
theorem topHolds : Challenge.rw_xp0005_01.Holds := by
  refine hd ?_
  intro w s₀ s₁ mg mb G Y fa o pm cd doc dV kV ho hdd hcd hD hmg hg args vals as hpre hlay hrd hwl hlo
  have KX := km_in_of Y
  have hT9 := tabs_at KX (km_tabs_of Y)
  clear Y
  refine Ground.open G ?_
  intro T B D TE TW
  clear B D TE TW
  wrow_args hpre hlay hrd hwl hlo
  rename_i hc0 hc1
  rename Heap.IsList _ _ _ => hLs
  rename IntsAre _ _ => hI
  refine wpC.call ?_
  have he := Dflts.none hD rfl
  subst he
  have he := Dflts.noKw hD
  subst he
  clear hD
  have e1 := mg_of KX T.g (law_at w.params)
  have e2 : (Value.ref fa) = .ref 215 := Option.some.inj (hmg.symm.trans e1)
  cases e2
  refine codeC_cellsN (by decide) ho (fd_plain hdd) T.nolimit hcd rfl (kinds_of (by kinds_ok)) (by decide) (fun h₁ tk₁ cells F N X => ?_) rfl rfl rfl
  have ecd : cd = .ref 214 := by
    obtain ⟨P, he⟩ := law_tab w.params
    exact law_code KX T.g he e1 ho (fd_plain hdd)
  subst ecd
  have hlen := hI.length
  refine exE8 (kc_eight X) fun ob oh ol op od ow oc os hK => ?_
  refine anE9 hK fun hE db dh dl dp dd dw dc ds => ?_
  clear X hK
  subst hE
  refine (top_run (callerA.depth + 1) (callerA.units + 3) callerA.guards (by decide +kernel) (by decide +kernel) w (ExcName.means s₀.heap) mg mb s₁.heap { s₁ with heap := h₁, toks := tk₁ } s₁.heap.objs.size os oc ow od op ol oh ob _ _ _ KX hT9 T F N db dh dl dp dd dw dc ds hLs hI (by lia) (AllBare.of_eq hg) _ ?_)
  intro h' tk' gs' hO hG'
  refine ⟨.inl ⟨.bool true, _, _, rfl, raisesW_false (by wrow_none_raised), .bool true, postW_of (by wrow_shape) (by wtm_val) (by first | rfl | w_fin), unshared_nil⟩, hO, rfl, hG'⟩

end Mine

theorem PySem.Challenge.cw_xp0005_01_holds : PySem.Challenge.rw_xp0005_01.Holds :=
  Mine.topHolds

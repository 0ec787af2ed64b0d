/-
  PLAIN: the kernel's escape of a path, on lists of bytes.
-/
import Derived.Shelf.Strings.Builder1
import Derived.Lib.Bytealg
set_option linter.unusedSimpArgs false
set_option linter.unusedVariables false
namespace Go.Proofs.Qxb6601408aDoor.Pl
open Go

/-- How one byte is written. -/
def esc1 (b : UInt8) : List UInt8 :=
  if b.toNat = 32 then [92, 48, 52, 48] else if b.toNat = 9 then [92, 48, 49, 49] else if b.toNat = 10 then [92, 48, 49, 50] else if b.toNat = 92 then [92, 49, 51, 52] else [b]
def esc : List UInt8 → List UInt8
  | [] => []
  | b :: l => esc1 b ++ esc l
theorem esc_app (a b : List UInt8) : esc (a ++ b) = esc a ++ esc b := by
  induction a with
  | nil => rfl
  | cons c a ih => simp [esc, ih]
theorem esc_one (b : UInt8) : esc [b] = esc1 b := by simp [esc]
theorem esc1_len (b : UInt8) : 1 ≤ (esc1 b).length ∧ (esc1 b).length ≤ 4 := by
  unfold esc1
  split
  · simp
  · split
    · simp
    · split
      · simp
      · split <;> simp
theorem esc_len (l : List UInt8) : (esc l).length ≤ 4 * l.length := by
  induction l with
  | nil => exact Nat.le_refl _
  | cons b l ih =>
    have := (esc1_len b).2
    simp only [esc, List.length_append, List.length_cons]
    omega

/-- Is the byte one that the kernel escapes? -/
def special (b : UInt8) : Bool := decide (b.toNat = 32 ∨ b.toNat = 9 ∨ b.toNat = 10 ∨ b.toNat = 92)
theorem esc1_plain {b : UInt8} (h : special b = false) : esc1 b = [b] := by
  have h' := of_decide_eq_false h
  unfold esc1
  rw [if_neg (by omega), if_neg (by omega), if_neg (by omega), if_neg (by omega)]
theorem esc1_special {b : UInt8} (h : special b = true) : (92 : UInt8) ∈ esc1 b := by
  have h' := of_decide_eq_true h
  unfold esc1
  split
  · simp
  · split
    · simp
    · split
      · simp
      · split
        · simp
        · omega

theorem ix_neg (l : List UInt8) (c : UInt8) (h : Lib.indexByte l c < 0) : c ∉ l := by
  induction l with
  | nil => simp
  | cons b l ih =>
    have hge := Lib.indexByte_ge l c
    unfold Lib.indexByte at h
    by_cases hb : (b == c) = true
    · rw [if_pos hb] at h
      omega
    · rw [if_neg hb] at h
      have hl : Lib.indexByte l c < 0 := by
        by_cases h1 : (Lib.indexByte l c == -1) = true
        · have : Lib.indexByte l c = -1 := by simpa using h1
          omega
        · rw [if_neg h1] at h
          omega
      simp only [List.mem_cons, not_or]
      refine ⟨?_, ih hl⟩
      intro e
      apply hb
      simp [e]
/-- Without a backslash in what is written, nothing was escaped. -/
theorem esc_id (l : List UInt8) (h : (92 : UInt8) ∉ esc l) : esc l = l := by
  induction l with
  | nil => rfl
  | cons b l ih =>
    simp only [esc, List.mem_append, not_or] at h
    have hb : special b = false := by
      cases e : special b
      · rfl
      · exact absurd (esc1_special e) h.1
    simp [esc, esc1_plain hb, ih h.2]
end Go.Proofs.Qxb6601408aDoor.Pl

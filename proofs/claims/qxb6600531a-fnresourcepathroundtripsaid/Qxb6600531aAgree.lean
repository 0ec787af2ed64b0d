/-
  FnResourcePathCoreAndGroupAgree: the walk.
-/
import Derived.Test.Qxb6600531aGuards
set_option linter.unusedSimpArgs false
set_option linter.unusedVariables false
namespace Go.Proofs.Qxb6600531a
open Go.RowKit Pl

theorem B_add (l m : List UInt8) : B l ++ B m = B (l ++ m) := by
  apply ByteArray.ext
  show (B l ++ B m).data = _
  rw [ByteArray.data_append]
  simp [B]

set_option maxHeartbeats 400000 in
theorem agree_long (a b c : ByteArray) (w : World) (h : ¬ a.size + b.size + c.size ≤ 1048576) (ha : a.size ≤ maxLen) (hb : b.size ≤ maxLen) (hc : c.size ≤ maxLen) :
    Calls Try.prog 4 #[.string a, .string b, .string c] w fun e w' => e = .returned (.bool true) ∧ Grown w w' := by
  unfold maxLen at *
  go_enter Try.func4, Try.ntmps4
  go_wp2_with (go_at_call 8; refine (bytes3_no _ _ _ _ h ha hb hc).mono ?_; rintro e w' ⟨rfl, rfl⟩)
  go_ret
  exact ⟨rfl, Grown.refl _⟩

set_option maxHeartbeats 400000 in
theorem agree_slash (a b c : ByteArray) (w : World) (h : a.size + b.size + c.size ≤ 1048576) (hs : has a.data.toList = true ∨ has b.data.toList = true) :
    Calls Try.prog 4 #[.string a, .string b, .string c] w fun e w' => e = .returned (.bool true) ∧ Grown w w' := by
  by_cases h1 : has a.data.toList = true
  · have H1 := hide h1
    clear h1 hs
    go_enter Try.func4, Try.ntmps4
    go_wp2_with fail
    refine (bytes3_ok _ _ _ _ h).mono ?_
    rintro e w' ⟨rfl, rfl⟩
    go_wp2_with fail
    refine (slash a _ (by omega)).mono ?_
    rintro e w' ⟨rfl, rfl⟩
    rw [unhide H1]
    go_wp2_with fail
    go_ret
    exact ⟨rfl, Grown.refl _⟩
  · have h2 : has b.data.toList = true := by
      rcases hs with h | h
      · exact absurd h h1
      · exact h
    have H1 : Hid (has a.data.toList = false) := by
      show has a.data.toList = false
      simpa using h1
    have H2 := hide h2
    clear h1 h2 hs
    go_enter Try.func4, Try.ntmps4
    go_wp2_with fail
    refine (bytes3_ok _ _ _ _ h).mono ?_
    rintro e w' ⟨rfl, rfl⟩
    go_wp2_with fail
    refine (slash a _ (by omega)).mono ?_
    rintro e w' ⟨rfl, rfl⟩
    rw [unhide H1]
    go_wp2_with fail
    refine (slash b _ (by omega)).mono ?_
    rintro e w' ⟨rfl, rfl⟩
    rw [unhide H2]
    go_wp2_with fail
    go_ret
    exact ⟨rfl, Grown.refl _⟩

theorem grp_path (g v t : List UInt8) : ((((((⟨#[47, 97, 112, 105, 115, 47]⟩ : ByteArray) ++ B g) ++ ⟨#[47]⟩) ++ B v) ++ ⟨#[47]⟩) ++ B t) = B (apis ++ (g ++ 47 :: (v ++ 47 :: t))) := by
  rw [show (⟨#[47, 97, 112, 105, 115, 47]⟩ : ByteArray) = B apis from rfl, show (⟨#[47]⟩ : ByteArray) = B [47] from rfl, B_add, B_add, B_add, B_add, B_add]
  simp

section
attribute [local go_sem] alloc_drewN setCell_drewN
set_option maxHeartbeats 400000 in
theorem agree_main (g v t : List UInt8) (w : World) (h : g.length + v.length + t.length ≤ 1048576) (h1 : has g = false) (h2 : has v = false) :
    Calls Try.prog 4 #[.string (B g), .string (B v), .string (B t)] w fun e w' => e = .returned (.bool true) ∧ Grown w w' := by
  have c1 := fun w => rp_core t w (by omega)
  have hp : post (post (g ++ 47 :: (v ++ 47 :: t))) = t := by rw [post_app _ _ h1, post_app _ _ h2]
  have c2 := fun w => rp_group (g ++ 47 :: (v ++ 47 :: t)) t w hp (by simp; omega)
  rw [pre_app _ _ h1] at c2
  generalize (resOf t != []) = ok at c1 c2
  generalize B (nsOf t) = xn at c1 c2
  generalize B (resOf t) = xr at c1 c2
  generalize B (nameOf t) = xa at c1 c2
  generalize B (subOf t) = xs at c1 c2
  have C1 := hide c1
  have C2 := hide c2
  have s1 := B_size g
  have s2 := B_size v
  have s3 := B_size t
  have H1 := hide h1
  have H2 := hide h2
  clear h1 h2 hp c1 c2
  go_enter Try.func4, Try.ntmps4
  go_wp2_with fail
  refine (bytes3_ok _ _ _ _ (by omega)).mono ?_
  rintro e w' ⟨rfl, rfl⟩
  go_wp2_with fail
  refine (slash (B g) _ (by omega)).mono ?_
  rintro e w' ⟨rfl, rfl⟩
  rw [B_data, unhide H1]
  go_wp2_with fail
  refine (slash (B v) _ (by omega)).mono ?_
  rintro e w' ⟨rfl, rfl⟩
  rw [B_data, unhide H2]
  go_wp2_with fail
  rw [show (⟨#[47, 97, 112, 105, 47, 118, 49, 47]⟩ : ByteArray) ++ B t = B (api ++ t) from B_add api t]
  refine (shim _ _ _ _ _ _ _ _ (unhide C1)).mono ?_
  rintro e w1 ⟨rfl, p1, p2, p3, n1, rfl⟩
  unfold attrs
  go_wp2_with fail
  rw [grp_path]
  refine (shim _ _ _ _ _ _ _ _ (unhide C2)).mono ?_
  rintro e w1 ⟨rfl, q1, q2, q3, n2, rfl⟩
  unfold attrs
  go_wp2_with fail
  go_ret
  refine ⟨rfl, grown_drewN ?_ _⟩
  exact ((((((((Grown.refl _).alloc _ _).alloc _ _).alloc _ _).alloc _ _).alloc _ _).alloc _ _).alloc _ _).alloc _ _
end

/-- THE WALK. -/
theorem agree (a b c : ByteArray) (ha : a.size ≤ maxLen) (hb : b.size ≤ maxLen) (hc : c.size ≤ maxLen) (w : World) :
    Calls Try.prog 4 #[.string a, .string b, .string c] w fun e w' => e = .returned (.bool true) ∧ Grown w w' := by
  by_cases h : a.size + b.size + c.size ≤ 1048576
  · by_cases hs : has a.data.toList = true ∨ has b.data.toList = true
    · exact agree_slash a b c w h hs
    · have h1 : has a.data.toList = false := by
        cases e : has a.data.toList
        · rfl
        · exact absurd (Or.inl e) hs
      have h2 : has b.data.toList = false := by
        cases e : has b.data.toList
        · rfl
        · exact absurd (Or.inr e) hs
      have m := agree_main a.data.toList b.data.toList c.data.toList w (by rw [← Lib.size_eq, ← Lib.size_eq, ← Lib.size_eq]; exact h) h1 h2
      rw [← B_of, ← B_of, ← B_of] at m
      exact m
  · exact agree_long a b c w h ha hb hc
end Go.Proofs.Qxb6600531a

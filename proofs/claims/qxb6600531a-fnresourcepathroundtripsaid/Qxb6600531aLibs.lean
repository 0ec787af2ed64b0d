/-
  THE LIBRARY'S CALLEES ON BOTH ROADS: strings.CutPrefix; strings.Cut at a slash.
-/
import Derived.Test.Qxb6600531aRows
import Derived.Test.Qxb6600531aPlain
import Derived.WalkKit
import Derived.ProofKit
import Derived.WalkLawsBesides
import Derived.WalkSpells
import Derived.Lib.Bytealg
import Derived.RegionTactic
import Derived.Laws.Strings3
set_option linter.unusedSimpArgs false
set_option linter.unusedVariables false
namespace Go.Proofs.Qxb6600531a
open Go.RowKit Pl

theorem hide {p : Prop} (h : p) : Hid p := h
theorem unhide {p : Prop} (h : Hid p) : p := h

set_option maxHeartbeats 400000 in
theorem cp_hit (s p : ByteArray) (w : World) (h1 : p.size ≤ s.size) (h2 : ((s.extract 0 p.size).toList == p.toList) = true) :
    Calls Try.prog 10 #[.string s, .string p] w fun e w' => e = .returned (.tuple #[.string (s.extract p.size s.size), .bool true]) ∧ w' = w := by
  go_enter Try.func10, Try.ntmps10
  go_wp2
  go_ret2
  exact ⟨rfl, rfl⟩

set_option maxHeartbeats 400000 in
theorem cp_miss (s p : ByteArray) (w : World) (h : ¬ p.size ≤ s.size ∨ ((s.extract 0 p.size).toList == p.toList) = false) :
    Calls Try.prog 10 #[.string s, .string p] w fun e w' => e = .returned (.tuple #[.string s, .bool false]) ∧ w' = w := by
  by_cases h1 : p.size ≤ s.size
  · have h2 : ((s.extract 0 p.size).toList == p.toList) = false := by
      rcases h with h | h
      · exact absurd h1 h
      · exact h
    clear h
    go_enter Try.func10, Try.ntmps10
    go_wp2
    go_ret2
    exact ⟨rfl, rfl⟩
  · clear h
    go_enter Try.func10, Try.ntmps10
    go_wp2
    go_ret2
    exact ⟨rfl, rfl⟩

set_option maxHeartbeats 400000 in
theorem ib (s : ByteArray) (c : Int) (w : World) :
    Calls Try.prog 16 #[.string s, .int .u8 c] w fun e w' => e = .returned (.int .i64 (Lib.indexByte s.data.toList c.toNat.toUInt8)) ∧ w' = w := by
  go_enter Try.func16, Try.ntmps16
  go_wp2
  rw [run_callFunc_extern Try.func20 (by kernel_rfl) (by kernel_rfl) (by kernel_rfl) (e := Extern.BytealgIndexByte.indexByte) (by kernel_rfl), Lib.run_indexByteString]
  simp only [Result.andThen]
  rw [Oper.upon_value]
  go_wp2
  go_ret
  exact ⟨rfl, rfl⟩

set_option maxHeartbeats 400000 in
theorem ix (s : ByteArray) (w : World) :
    Calls Try.prog 15 #[.string s, .string ⟨#[47]⟩] w fun e w' => e = .returned (.int .i64 (Lib.indexByte s.data.toList 47)) ∧ w' = w := by
  go_enter Try.func15, Try.ntmps15
  go_wp2_with (go_at_call 16; refine (ib _ _ _).mono ?_; rintro e w' ⟨rfl, rfl⟩)
  · have h : ([47] == s.toList) = true := by assumption
    go_ret
    refine ⟨?_, rfl⟩
    have e : s.data.toList = [47] := by rw [← Lib.toList_data]; exact (beq_iff_eq.1 h).symm
    rw [e]
    simp [Lib.indexByte]
  · go_ret
    exact ⟨rfl, rfl⟩

theorem ix_miss (l : List UInt8) (h : has l = false) : Lib.indexByte l 47 = -1 := by
  induction l with
  | nil => rfl
  | cons c l ih =>
    rw [has_cons] at h
    simp only [Bool.or_eq_false_iff] at h
    simp [Lib.indexByte, h.1, ih h.2]
theorem ix_hit (a b : List UInt8) (h : has a = false) : Lib.indexByte (a ++ 47 :: b) 47 = a.length := by
  induction a with
  | nil => simp [Lib.indexByte]
  | cons c a ih =>
    rw [has_cons] at h
    simp only [Bool.or_eq_false_iff] at h
    have i := ih h.2
    rw [List.cons_append]
    unfold Lib.indexByte
    rw [h.1, i]
    have hne : (((a.length : Nat) : Int) == -1) = false := by
      rw [beq_eq_false_iff_ne]; omega
    rw [hne]
    simp

set_option maxHeartbeats 400000 in
theorem cut13_miss (s : ByteArray) (w : World) (h : Lib.indexByte s.data.toList 47 = -1) :
    Calls Try.prog 13 #[.string s, .string ⟨#[47]⟩] w fun e w' => e = .returned (.tuple #[.string s, .string ⟨#[]⟩, .bool false]) ∧ w' = w := by
  go_enter Try.func13, Try.ntmps13
  go_wp2_with (go_at_call 15; refine (ix _ _).mono ?_; rintro e w' ⟨rfl, rfl⟩)
  go_ret3
  exact ⟨rfl, rfl⟩

set_option maxHeartbeats 400000 in
theorem cut13_hit (s : ByteArray) (i : Nat) (w : World) (h : Lib.indexByte s.data.toList 47 = (i : Int)) (hi : i + 1 ≤ s.size) (hm : s.size ≤ 9223372036854775807) :
    Calls Try.prog 13 #[.string s, .string ⟨#[47]⟩] w fun e w' => e = .returned (.tuple #[.string (s.extract 0 i), .string (s.extract (i + 1) s.size), .bool true]) ∧ w' = w.drew := by
  have c1 : (0 : Int) ≤ ↑i := by omega
  have c2 : (↑i : Int) ≤ ↑s.size := by omega
  have c3 : (0 : Int) ≤ ↑i + 1 := by omega
  have c4 : (↑i + 1 : Int) ≤ ↑s.size := by omega
  go_enter Try.func13, Try.ntmps13
  go_wp2_with (go_at_call 15; refine (ix _ _).mono ?_; rintro e w' ⟨rfl, rfl⟩)
  go_region
  all_goals go_wp2
  all_goals go_ret3
  all_goals exact ⟨rfl, rfl⟩

set_option maxHeartbeats 400000 in
theorem cut_miss (l : List UInt8) (w : World) (h : has l = false) :
    Calls Try.prog 11 #[.string (B l), .string ⟨#[47]⟩] w fun e w' => e = .returned (.tuple #[.string (B l), .string ⟨#[]⟩, .bool false]) ∧ w' = w := by
  have hx : Lib.indexByte (B l).data.toList 47 = -1 := by rw [B_data]; exact ix_miss l h
  have H := hide hx
  clear hx
  go_enter Try.func11, Try.ntmps11
  go_wp2_with (go_at_call 13; refine (cut13_miss _ _ (unhide H)).mono ?_; rintro e w' ⟨rfl, rfl⟩)
  go_ret3
  exact ⟨rfl, rfl⟩

theorem ext_pre (a b : List UInt8) : (B (a ++ 47 :: b)).extract 0 a.length = B a := by
  rw [Lib.extract_eq, B_data]
  simp [B]
theorem ext_post (a b : List UInt8) : (B (a ++ 47 :: b)).extract (a.length + 1) (B (a ++ 47 :: b)).size = B b := by
  rw [Lib.extract_eq, B_data, B_size]
  have e1 : (a ++ 47 :: b).drop (a.length + 1) = b := by
    have : a ++ 47 :: b = (a ++ [47]) ++ b := by simp
    rw [this]
    exact List.drop_left' (by simp)
  rw [e1, List.take_of_length_le (by simp; omega)]
  rfl

set_option maxHeartbeats 400000 in
theorem cut_hit (a b : List UInt8) (w : World) (h : has a = false) (hm : a.length + 1 + b.length ≤ 9223372036854775807) :
    Calls Try.prog 11 #[.string (B (a ++ 47 :: b)), .string ⟨#[47]⟩] w fun e w' => e = .returned (.tuple #[.string (B a), .string (B b), .bool true]) ∧ w' = w.drew := by
  have hx : Lib.indexByte (B (a ++ 47 :: b)).data.toList 47 = (a.length : Int) := by rw [B_data]; exact ix_hit a b h
  have hs : (B (a ++ 47 :: b)).size = a.length + 1 + b.length := by rw [B_size]; simp; omega
  have e1 := ext_pre a b
  have e2 := ext_post a b
  generalize B (a ++ 47 :: b) = s at *
  have H := hide hx
  have E1 := hide e1
  have E2 := hide e2
  have HS := hide hs
  clear hx e1 e2 hs
  go_enter Try.func11, Try.ntmps11
  go_wp2_with (go_at_call 13; refine (cut13_hit s a.length _ (unhide H) (by rw [unhide HS]; omega) (by rw [unhide HS]; omega)).mono ?_; rintro e w' ⟨rfl, rfl⟩)
  go_ret3
  rw [unhide E1, unhide E2]
  exact ⟨rfl, rfl⟩

/-- strings.Cut(s, "/"), whatever s. -/
theorem cut (l : List UInt8) (w : World) (hm : l.length ≤ 9223372036854775807) :
    Calls Try.prog 11 #[.string (B l), .string ⟨#[47]⟩] w fun e w' => e = .returned (.tuple #[.string (B (pre l)), .string (B (post l)), .bool (has l)]) ∧ ∃ n, w' = w.drewN n := by
  cases h : has l
  · refine (cut_miss l w h).mono ?_
    rintro e w' ⟨rfl, rfl⟩
    rw [pre_none l h, post_none l h]
    exact ⟨rfl, 0, rfl⟩
  · obtain ⟨e1, e2⟩ := split_has l h
    have c := cut_hit (pre l) (post l) w e2 (by have := congrArg List.length e1; simp at this; omega)
    rw [← e1] at c
    refine c.mono ?_
    rintro e w' ⟨rfl, rfl⟩
    exact ⟨rfl, 1, rfl⟩

/-- strings.CutPrefix on lists. -/
theorem cpl_hit (p r : List UInt8) (w : World) :
    Calls Try.prog 10 #[.string (B (p ++ r)), .string (B p)] w fun e w' => e = .returned (.tuple #[.string (B r), .bool true]) ∧ w' = w := by
  have c := cp_hit (B (p ++ r)) (B p) w (by rw [B_size, B_size]; simp) (by rw [Lib.extract_toList, B_data, B_toList, B_size]; simp)
  have e : (B (p ++ r)).extract (B p).size (B (p ++ r)).size = B r := by
    rw [Lib.extract_eq, B_data, B_size, B_size, List.drop_left, List.take_of_length_le (by simp)]
    rfl
  rw [e] at c
  exact c
theorem cpl_miss (p l : List UInt8) (w : World) (h : p.isPrefixOf l = false) :
    Calls Try.prog 10 #[.string (B l), .string (B p)] w fun e w' => e = .returned (.tuple #[.string (B l), .bool false]) ∧ w' = w := by
  refine cp_miss (B l) (B p) w ?_
  have hr := Lib.hasPrefix_raw (B l) (B p)
  rw [B_data, B_data] at hr
  rw [show Lib.hasPrefix l p = false from h] at hr
  simp only [Bool.and_eq_false_iff, decide_eq_false_iff_not] at hr
  exact hr
theorem isPre {p l : List UInt8} (h : p.isPrefixOf l = true) : l = p ++ l.drop p.length := by
  obtain ⟨t, rfl⟩ := List.isPrefixOf_iff_prefix.1 h
  simp
end Go.Proofs.Qxb6600531a

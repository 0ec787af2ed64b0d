/-
  The laws' own helpers: the bound on lengths; is there a slash; the shim round resourcePath.
-/
import Derived.Test.Qxb6600531aRP
set_option linter.unusedSimpArgs false
set_option linter.unusedVariables false
namespace Go.Proofs.Qxb6600531a
open Go.RowKit Pl

theorem take_snoc (s : ByteArray) (k : Nat) (h : k < s.size) : s.data.toList.take (k + 1) = s.data.toList.take k ++ [s[k]] := by
  rw [List.take_succ_eq_append_getElem (by simpa using h)]; rfl

theorem ret_bool {a b : Bool} (h : a = b) : Ending.returned (.bool a) = .returned (.bool b) := by rw [h]

set_option maxHeartbeats 400000 in
/-- zzHasSlash_b1. -/
theorem slash (s : ByteArray) (w : World) (hs : s.size ≤ 9223372036854775807) :
    Calls Try.prog 6 #[.string s] w fun e w' => e = .returned (.bool (has s.data.toList)) ∧ w' = w := by
  go_enter Try.func6, Try.ntmps6
  go_wp2
  go_loop [3] (fun i => ∃ k : Nat, k ≤ s.size ∧ i = .int .i64 k ∧ Hid (has (s.data.toList.take k) = false)) (fun i => s.size - (intOf i).toNat)
  case atStart => exact ⟨0, Nat.zero_le _, rfl, rfl⟩
  case round =>
    obtain ⟨k, hk, rfl, H⟩ := hrel
    by_cases hlt : k < s.size
    · have hts := take_snoc s k hlt
      have hd := List.take_append_drop (k + 1) s.data.toList
      have HT := hide hts
      have HD := hide hd
      clear hts hd
      go_wp2
      · have h0 : ((s[k].toNat : Int) == 47) = true := by assumption
        have h47 : (s[k].toNat : Int) = 47 := by simpa using h0
        go_ret
        refine ⟨ret_bool ?_, rfl⟩
        have e : s[k] = 47 := UInt8.toNat_inj.1 (by show s[k].toNat = 47; omega)
        rw [← unhide HD, unhide HT, e, List.append_assoc, List.singleton_append, has_app]
      · have h0 : ((s[k].toNat : Int) == 47) = false := by assumption
        have h47 : ¬ (s[k].toNat : Int) = 47 := by simpa using h0
        go_round
        case rel =>
          refine ⟨k + 1, by omega, by go_num, ?_⟩
          show has _ = false
          rw [unhide HT, has_append, unhide H, Bool.false_or]
          have e : (s[k] == 47) = false := by
            rw [beq_eq_false_iff_ne]
            intro h
            apply h47
            rw [h]
            rfl
          simp [has, e]
        case measure => simp [intOf]; omega
    · go_wp2
      go_ret
      refine ⟨ret_bool ?_, rfl⟩
      have e : s.data.toList.take k = s.data.toList := List.take_of_length_le (by simp; omega)
      rw [← unhide H, e]

set_option maxHeartbeats 400000 in
theorem bytes3_ok (a b c : ByteArray) (w : World) (h : a.size + b.size + c.size ≤ 1048576) :
    Calls Try.prog 8 #[.string a, .string b, .string c] w fun e w' => e = .returned (.bool true) ∧ w' = w := by
  go_enter Try.func8, Try.ntmps8
  go_wp2
  go_ret
  exact ⟨rfl, rfl⟩
set_option maxHeartbeats 400000 in
theorem bytes3_no (a b c : ByteArray) (w : World) (h : ¬ a.size + b.size + c.size ≤ 1048576) (ha : a.size ≤ 9223372036854775807) (hb : b.size ≤ 9223372036854775807) (hc : c.size ≤ 9223372036854775807) :
    Calls Try.prog 8 #[.string a, .string b, .string c] w fun e w' => e = .returned (.bool false) ∧ w' = w := by
  go_enter Try.func8, Try.ntmps8
  go_wp2
  all_goals go_ret
  all_goals exact ⟨rfl, rfl⟩

set_option maxHeartbeats 400000 in
theorem bytes6_ok (x : Bool) (a b c d e f : ByteArray) (w : World) (h : a.size + b.size + c.size + d.size + e.size + f.size ≤ 1048576) :
    Calls Try.prog 5 #[.bool x, .string a, .string b, .string c, .string d, .string e, .string f] w fun e w' => e = .returned (.bool true) ∧ w' = w := by
  go_enter Try.func5, Try.ntmps5
  go_wp2
  go_ret
  exact ⟨rfl, rfl⟩
set_option maxHeartbeats 400000 in
theorem bytes6_no (x : Bool) (a b c d e f : ByteArray) (w : World) (h : ¬ a.size + b.size + c.size + d.size + e.size + f.size ≤ 1048576) (ha : a.size ≤ 9223372036854775807) (hb : b.size ≤ 9223372036854775807) (hc : c.size ≤ 9223372036854775807)
    (hd : d.size ≤ 9223372036854775807) (he : e.size ≤ 9223372036854775807) (hf : f.size ≤ 9223372036854775807) :
    Calls Try.prog 5 #[.bool x, .string a, .string b, .string c, .string d, .string e, .string f] w fun e w' => e = .returned (.bool false) ∧ w' = w := by
  go_enter Try.func5, Try.ntmps5
  go_wp2
  all_goals go_ret
  all_goals exact ⟨rfl, rfl⟩

section
attribute [local go_sem] alloc_drewN setCell_drewN
set_option maxHeartbeats 400000 in
/-- The shim: what resourcePath hands back, handed on. -/
theorem shim (s g n r a t : ByteArray) (ok : Bool) (w : World)
    (c : ∀ w, Calls Try.prog 9 #[.string s] w fun e w' => e = .returned (.tuple #[attrs g n r a t, .bool ok]) ∧ ∃ c d n, w' = ((w.alloc (.cells c 25)).alloc (.cells d 25)).drewN n) :
    Calls Try.prog 7 #[.string s] w fun e w' => e = .returned (.tuple #[attrs g n r a t, .bool ok]) ∧ ∃ b c d n, w' = (((w.alloc (.cells b 25)).alloc (.cells c 25)).alloc (.cells d 25)).drewN n := by
  have C := hide c
  clear c
  unfold attrs at *
  go_enter Try.func7, Try.ntmps7
  go_wp2_with fail
  refine (unhide C _).mono ?_
  rintro e w1 ⟨rfl, c, d, k, rfl⟩
  go_wp2
  refine bodyPost_ret (v := .tuple #[attrs g n r a t, .bool ok]) (by simp [results, Try.results7, go_sem, attrs]) rfl ⟨rfl, ?_⟩
  exact ⟨_, _, _, _, rfl⟩
end
end Go.Proofs.Qxb6600531a

/-
  strings.ContainsRune over the marks, at every rune.
-/
import Derived.Test.Qxb6600610aRows
import Derived.Test.Qxb6600610aPlain
import Derived.WalkKit
import Derived.ProofKit
import Derived.WalkLawsBesides
import Derived.WalkSpells
import Derived.RegionTactic
import Derived.Deep.QuietTactic
import Derived.BigQuiet
import Derived.Deep.LoopGhost
import Derived.Below
import Derived.Lib.OthersKept
import Derived.Handy
set_option linter.unusedSimpArgs false
set_option linter.unusedVariables false
namespace Go.Proofs.Qxb6600610a
open Go.RowKit Pl

theorem hide {p : Prop} (h : p) : Hid p := h
theorem unhide {p : Prop} (h : Hid p) : p := h
theorem ret_bool {a b : Bool} (h : a = b) : Ending.returned (.bool a) = .returned (.bool b) := by rw [h]

def M : ByteArray := ⟨#[33, 35, 36, 37, 38, 39, 42, 43, 45, 46, 94, 95, 96, 124, 126]⟩
theorem M_size : M.size = 15 := rfl
theorem M_data : M.data.toList = marksL := rfl

set_option maxHeartbeats 400000 in
theorem ib23 (s : ByteArray) (c : Int) (w : World) :
    Calls Try.prog 23 #[.string s, .int .u8 c] w fun e w' => e = .returned (.int .i64 (Lib.indexByte s.data.toList c.toNat.toUInt8)) ∧ w' = w := by
  go_enter Try.func23, Try.ntmps23
  go_wp2
  rw [run_callFunc_extern Try.func24 (by kernel_rfl) (by kernel_rfl) (by kernel_rfl) (e := Extern.BytealgIndexByte.indexByte) (by kernel_rfl), Lib.run_indexByteString]
  simp only [Result.andThen]
  rw [Oper.upon_value]
  go_wp2
  go_ret
  exact ⟨rfl, rfl⟩
set_option maxHeartbeats 400000 in
theorem ib (s : ByteArray) (c : Int) (w : World) :
    Calls Try.prog 18 #[.string s, .int .u8 c] w fun e w' => e = .returned (.int .i64 (Lib.indexByte s.data.toList c.toNat.toUInt8)) ∧ w' = w := by
  go_enter Try.func18, Try.ntmps18
  go_wp2_with (go_at_call 23; refine (ib23 _ _ _).mono ?_; rintro e w' ⟨rfl, rfl⟩)
  go_ret
  exact ⟨rfl, rfl⟩

set_option maxRecDepth 100000 in
set_option maxHeartbeats 1000000 in
/-- IndexRune at an ASCII rune. -/
theorem ir_ascii (s : ByteArray) (z : Int) (w : World) (h0 : 0 ≤ z) (h1 : z < 128) :
    Calls Try.prog 16 #[.string s, .int .i32 z] w fun e w' => e = .returned (.int .i64 (Lib.indexByte s.data.toList z.toNat.toUInt8)) ∧ w' = w := by
  go_enter Try.func16, Try.ntmps16
  go_wp2_with (go_at_call 18; refine (ib _ _ _).mono ?_; rintro e w' ⟨rfl, rfl⟩)
  go_ret
  exact ⟨rfl, rfl⟩

set_option maxRecDepth 100000 in
set_option maxHeartbeats 1000000 in
/-- IndexRune(marks, U+FFFD): no rune of the marks is it. -/
theorem ir_error (w : World) :
    Calls Try.prog 16 #[.string M, .int .i32 65533] w fun e w' => e = .returned (.int .i64 (-1)) ∧ Below w.heap.size w w' := by
  have hM : ∀ k (h : k < M.size), (M[k]'h).toNat < 128 := by decide
  have HM := hide hM
  clear hM
  have hs : M.size = 15 := rfl
  have e1 : ((65533 : Int) == 65533) = true := rfl
  generalize M = s at *
  go_enter Try.func16, Try.ntmps16
  go_wp2
  go_loopg [] s.size (fun gf wx => ∃ pos : Nat, wx.heap[w.heap.size]? = some (.stringIter s pos) ∧ Below w.heap.size w wx ∧ s.size ≤ pos + gf)
  case atStart => exact ⟨0, World.iter_heap w s 0, (Below.refl _ w).alloc (Nat.le_refl _) _, by omega⟩
  case round =>
    obtain ⟨pos, hit, hbw, hfu⟩ := hrel
    by_cases hps : pos < s.size
    · obtain ⟨g', rfl⟩ : ∃ g', gk = g' + 1 := ⟨gk - 1, by omega⟩
      have ha := unhide HM pos hps
      have hnx : ∀ ty, (Instr.next (.pointer (some ⟨w.heap.size, 0, none⟩)) true ty).run Try.prog wr = _ := fun ty => Lib.run_next_ascii_at wr w.heap.size s pos ty hit hps ha
      have hit2 := Lib.iterAt_heap wr w.heap.size s pos (pos + 1) hit
      have hbw2 := Lib.below_iterAt hbw (k := w.heap.size) (Nat.le_refl _) s (pos + 1)
      have he : (((s[pos]'hps).toNat : Int) == 65533) = false := by rw [beq_eq_false_iff_ne]; omega
      clear hs e1
      go_wp2
      go_roundg g'
      case measure => omega
      case rel => exact ⟨pos + 1, hit2, hbw2, by omega⟩
    · have hnx : ∀ ty, (Instr.next (.pointer (some ⟨w.heap.size, 0, none⟩)) true ty).run Try.prog wr = _ := fun ty => Lib.run_next_end_at wr w.heap.size s pos ty hit hps
      go_wp2
      go_ret
      exact ⟨rfl, hbw⟩

theorem valid_yes (z : Int) (w : World) (h : (0 ≤ z ∧ z < 55296) ∨ (57343 < z ∧ z ≤ 1114111)) :
    Calls Try.prog 19 #[.int .i32 z] w fun e w' => e = .returned (.bool true) ∧ w' = w := by
  rcases h with h | h
  all_goals
    obtain ⟨h1, h2⟩ := h
    go_enter Try.func19, Try.ntmps19
    go_wp2
    go_ret
    exact ⟨rfl, rfl⟩
theorem valid_no (z : Int) (w : World) (h : ¬ ((0 ≤ z ∧ z < 55296) ∨ (57343 < z ∧ z ≤ 1114111))) :
    Calls Try.prog 19 #[.int .i32 z] w fun e w' => e = .returned (.bool false) ∧ w' = w := by
  go_enter Try.func19, Try.ntmps19
  go_wp2
  all_goals go_ret
  all_goals exact ⟨rfl, rfl⟩

set_option maxRecDepth 100000 in
set_option maxHeartbeats 1000000 in
theorem ir_bad (s : ByteArray) (z : Int) (w : World) (h0 : 128 ≤ z) (hz : (z == 65533) = false) (h : ¬ ((0 ≤ z ∧ z < 55296) ∨ (57343 < z ∧ z ≤ 1114111))) :
    Calls Try.prog 16 #[.string s, .int .i32 z] w fun e w' => e = .returned (.int .i64 (-1)) ∧ Below w.heap.size w w' := by
  have H := hide h
  clear h
  go_enter Try.func16, Try.ntmps16
  go_wp2_with (go_at_call 19; refine (valid_no _ _ (unhide H)).mono ?_; rintro e w' ⟨rfl, rfl⟩)
  go_ret
  exact ⟨rfl, Below.refl _ _⟩

theorem ib_none (s : ByteArray) (hs : ∀ b ∈ s.data.toList, b.toNat < 128) (a e : Nat) (c : UInt8) (hc : 128 ≤ c.toNat) : Lib.indexByte (s.extract a e).data.toList c = -1 := by
  rw [← Lib.firstIdx_eq]
  exact firstIdx_ascii s a e c hs hc

theorem ib_wide (s : ByteArray) (hs : ∀ b ∈ s.data.toList, b.toNat < 128) (a e : Nat) (c : UInt8) (hc : 128 ≤ c.toNat) (w : World) :
    Calls Try.prog 18 #[.string (s.extract a e), .int .u8 (c.toNat : Int)] w fun e w' => e = .returned (.int .i64 (-1)) ∧ w' = w := by
  have h := ib (s.extract a e) (c.toNat : Int) w
  rw [show (c.toNat : Int).toNat.toUInt8 = c by simp, ib_none s hs a e c hc] at h
  exact h

set_option maxRecDepth 100000 in
set_option maxHeartbeats 1000000 in
theorem ir_wide_at (s rs : ByteArray) (k : Nat) (z : Int) (w : World) (h0 : 128 ≤ z) (hz : (z == 65533) = false) (h : (0 ≤ z ∧ z < 55296) ∨ (57343 < z ∧ z ≤ 1114111))
    (hs : s.size = 15) (hM : ∀ b ∈ s.data.toList, b.toNat < 128) (hM' : ∀ k (h : k < s.size), (s[k]'h).toNat < 128)
    (hr : Utf8.encode z = rs) (hk : rs.size = k + 2) (hk2 : k ≤ 2) (hl : 128 ≤ (rs[k + 1]'(by omega)).toNat) :
    Calls Try.prog 16 #[.string s, .int .i32 z] w fun e w' => e = .returned (.int .i64 (-1)) ∧ Below w.heap.size w w' := by
  have H := hide h
  have HI := hide (ib_wide s hM)
  have l1 := hM' (k + 1) (by omega)
  have hks : k + 1 < s.size := by omega
  have hkr : k + 1 < rs.size := by omega
  have hne : (((s[k + 1]'hks).toNat : Int) != ((rs[k + 1]'hkr).toNat : Int)) = true := by rw [bne_iff_ne]; omega
  have HL := hide hl
  clear h hM hM' hl l1
  obtain rfl | rfl | rfl : k = 0 ∨ k = 1 ∨ k = 2 := by omega
  all_goals
    simp only [Nat.zero_add, Nat.reduceAdd] at hk hks hkr hne HL
    go_enter Try.func16, Try.ntmps16
    go_wp2_with (go_at_call 19; refine (valid_yes _ _ (unhide H)).mono ?_; rintro e w' ⟨rfl, rfl⟩)
    refine wp_scope_straight ?_
    go_wp2_with fail
    refine wp_loop_rounds 1 ?_
    rw [rounds_succ]
    go_wp2_with fail
    refine wp_scope_straight ?_
    go_wp2_with fail
    go_quiet (fail)
    go_wp2_with fail
    go_quiet ((go_at_call 18; refine (unhide HI _ _ _ (unhide HL) _).mono ?_; rintro e w2 ⟨rfl, rfl⟩; exact ⟨rfl, _, rfl⟩))
    go_wp2_with fail
    repeat (first | rw [Exit.noGoto_ret] | simp only [Exit.inBlock, Exit.then])
    go_ret
    exact ⟨rfl, below_drewN (Below.refl _ _) _⟩

/-- IndexRune over the marks, at every rune from 128 on: not there. -/
theorem ir_high (z : Int) (w : World) (h0 : 128 ≤ z) :
    Calls Try.prog 16 #[.string M, .int .i32 z] w fun e w' => e = .returned (.int .i64 (-1)) ∧ Below w.heap.size w w' := by
  by_cases he : z = 65533
  · subst he
    exact ir_error w
  · have hz : (z == 65533) = false := by rw [beq_eq_false_iff_ne]; exact he
    by_cases h : (0 ≤ z ∧ z < 55296) ∨ (57343 < z ∧ z ≤ 1114111)
    · have hv : Utf8.valid z = true := by rw [validRune_eq]; exact decide_eq_true h
      obtain ⟨k1, k2, k3⟩ := encode_facts z hv h0
      obtain ⟨k, hk⟩ : ∃ k, (Utf8.encode z).size = k + 2 := ⟨(Utf8.encode z).size - 2, by omega⟩
      have e : (Utf8.encode z).size - 1 = k + 1 := by omega
      refine ir_wide_at M (Utf8.encode z) k z w h0 hz h rfl (by decide) (by decide) rfl hk (by omega) ?_
      have k4 := k3 (by omega)
      simp only [e] at k4
      exact k4
    · exact ir_bad M z w h0 hz h

set_option maxHeartbeats 400000 in
theorem cr_high (z : Int) (w : World) (h0 : 128 ≤ z) :
    Calls Try.prog 14 #[.string M, .int .i32 z] w fun e w' => e = .returned (.bool (isMk z)) ∧ Below w.heap.size w w' := by
  rw [mark_high h0]
  have H := hide (ir_high z w h0)
  generalize M = s at *
  go_enter Try.func14, Try.ntmps14
  go_wp2_with (go_at_call 16; refine (unhide H).mono ?_; rintro e w' ⟨rfl, hb⟩)
  go_ret
  exact ⟨rfl, hb⟩
set_option maxHeartbeats 400000 in
theorem cr_low (z : Int) (w : World) (h0 : 0 ≤ z) (h1 : z < 128) :
    Calls Try.prog 14 #[.string M, .int .i32 z] w fun e w' => e = .returned (.bool (isMk z)) ∧ Below w.heap.size w w' := by
  have hm := mark_small z.toNat (by omega)
  rw [show ((z.toNat : Nat) : Int) = z by omega, ← M_data] at hm
  rw [← hm]
  have H := hide (ir_ascii M z w h0 h1)
  clear hm
  generalize Lib.indexByte M.data.toList z.toNat.toUInt8 = r at *
  generalize M = s at *
  go_enter Try.func14, Try.ntmps14
  go_wp2_with (go_at_call 16; refine (unhide H).mono ?_; rintro e w' ⟨rfl, rfl⟩)
  go_ret
  exact ⟨rfl, Below.refl _ _⟩
/-- strings.ContainsRune(tokenMarks, r), at every rune. -/
theorem cr (z : Int) (w : World) (h0 : 0 ≤ z) :
    Calls Try.prog 14 #[.string M, .int .i32 z] w fun e w' => e = .returned (.bool (isMk z)) ∧ Below w.heap.size w w' := by
  by_cases h : z < 128
  · exact cr_low z w h0 h
  · exact cr_high z w (by omega)

set_option maxHeartbeats 400000 in
theorem clo_alnum (z : Int) (w : World) (h : (97 ≤ z ∧ z ≤ 122) ∨ (65 ≤ z ∧ z ≤ 90) ∨ (48 ≤ z ∧ z ≤ 57)) :
    Calls Try.prog 13 #[.int .i32 z] w fun e w' => e = .returned (.bool false) ∧ w' = w := by
  rcases h with h | h | h
  all_goals
    obtain ⟨h1, h2⟩ := h
    go_enter Try.func13, Try.ntmps13
    go_wp2_with fail
    go_ret
    exact ⟨rfl, rfl⟩
set_option maxHeartbeats 800000 in
theorem clo_other (z : Int) (b : Bool) (w : World) (h : ¬ ((97 ≤ z ∧ z ≤ 122) ∨ (65 ≤ z ∧ z ≤ 90) ∨ (48 ≤ z ∧ z ≤ 57)))
    (c : ∀ w, Calls Try.prog 14 #[.string ⟨#[33, 35, 36, 37, 38, 39, 42, 43, 45, 46, 94, 95, 96, 124, 126]⟩, .int .i32 z] w fun e w' => e = .returned (.bool b) ∧ Below w.heap.size w w') :
    Calls Try.prog 13 #[.int .i32 z] w fun e w' => e = .returned (.bool (!b)) ∧ Below w.heap.size w w' := by
  have C := hide c
  clear c
  go_enter Try.func13, Try.ntmps13
  go_wp2_with (go_at_call 14; refine (unhide C _).mono ?_; rintro e w' ⟨rfl, hb⟩)
  all_goals go_ret
  all_goals (refine ⟨ret_bool ?_, by assumption⟩)
  all_goals (cases b <;> simp <;> omega)
/-- The closure notToken. -/
theorem clo (z : Int) (w : World) (h0 : 0 ≤ z) :
    Calls Try.prog 13 #[.int .i32 z] w fun e w' => e = .returned (.bool (!(isTok z))) ∧ Below w.heap.size w w' := by
  by_cases h : (97 ≤ z ∧ z ≤ 122) ∨ (65 ≤ z ∧ z ≤ 90) ∨ (48 ≤ z ∧ z ≤ 57)
  · rw [tok_alnum h]
    refine (clo_alnum z w h).mono ?_
    rintro e w' ⟨rfl, rfl⟩
    exact ⟨rfl, Below.refl _ _⟩
  · rw [tok_mark h]
    exact clo_other z (isMk z) w h (fun w => cr z w h0)
end Go.Proofs.Qxb6600610a

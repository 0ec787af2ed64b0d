/-
  validName; isTchar; the law.
-/
import Derived.Test.Qxb6600610aRune
set_option linter.unusedSimpArgs false
set_option linter.unusedVariables false
namespace Go.Proofs.Qxb6600610a
open Go.RowKit Pl

theorem take_snoc (s : ByteArray) (k : Nat) (h : k < s.size) : s.data.toList.take (k + 1) = s.data.toList.take k ++ [s[k]] := by
  rw [List.take_succ_eq_append_getElem (by simpa using h)]; rfl
theorem all_bad (s : ByteArray) (k : Nat) (h : k < s.size) (ht : isTok ((s[k]).toNat : Int) = false) : all s.data.toList = false := by
  rw [← List.take_append_drop (k + 1) s.data.toList, take_snoc s k h, all_app, all_app, all_one, ht]
  simp

set_option maxHeartbeats 1000000 in
set_option maxRecDepth 100000 in
/-- strings.indexFunc(s, notToken, true): not negative just where a byte is no token's. -/
theorem idx (s : ByteArray) (w : World) :
    Calls Try.prog 22 #[.string s, .func (.func 13) #[] #[], .bool true] w fun e w' => ∃ r : Int, e = .returned (.int .i64 r) ∧ decide (0 ≤ r) = !(all s.data.toList) ∧ Below w.heap.size w w' := by
  go_enter Try.func22, Try.ntmps22
  go_wp2
  go_loopg [] s.size (fun gf wx => ∃ pos : Nat, wx.heap[w.heap.size]? = some (.stringIter s pos) ∧ Below w.heap.size w wx ∧ Hid (all (s.data.toList.take pos) = true) ∧ pos ≤ s.size ∧ s.size ≤ pos + gf)
  case atStart => exact ⟨0, World.iter_heap w s 0, (Below.refl _ w).alloc (Nat.le_refl _) _, rfl, Nat.zero_le _, by omega⟩
  case round =>
    obtain ⟨pos, hit, hbw, H, hle, hfu⟩ := hrel
    by_cases hps : pos < s.size
    · obtain ⟨g', rfl⟩ : ∃ g', gk = g' + 1 := ⟨gk - 1, by omega⟩
      by_cases ha : (s[pos]'hps).toNat < 128
      · have hnx : ∀ ty, (Instr.next (.pointer (some ⟨w.heap.size, 0, none⟩)) true ty).run Try.prog wr = _ := fun ty => Lib.run_next_ascii_at wr w.heap.size s pos ty hit hps ha
        have hit2 := Lib.iterAt_heap wr w.heap.size s pos (pos + 1) hit
        have hbw2 := Lib.below_iterAt hbw (k := w.heap.size) (Nat.le_refl _) s (pos + 1)
        obtain ⟨W, hWd⟩ : ∃ W, wr.iterAt w.heap.size s (pos + 1) = W := ⟨_, rfl⟩
        rw [hWd] at hnx hit2 hbw2
        have hltW : w.heap.size < W.heap.size := (Array.getElem?_eq_some_iff.1 hit2).1
        have cS := clo ((s[pos]'hps).toNat : Int) W (by omega)
        have HT := hide (take_snoc s pos hps)
        clear hit hbw hWd
        cases ht : isTok ((s[pos]'hps).toNat : Int)
        · rw [ht] at cS
          have HA := hide (all_bad s pos hps ht)
          have CS := hide cS
          clear cS ht
          go_wp2_with (go_at_call 13; refine (unhide CS).mono ?_; rintro e W' ⟨rfl, hbc⟩)
          go_ret
          refine ⟨(pos : Int), rfl, ?_, hbw2.trans (hbc.mono hbw2.size)⟩
          rw [unhide HA]
          exact decide_eq_true (by omega)
        · rw [ht] at cS
          have CS := hide cS
          have HX := hide ht
          clear cS ht
          go_wp2_with (go_at_call 13; refine (unhide CS).mono ?_; rintro e W' ⟨rfl, hbc⟩)
          go_roundg g'
          case measure => omega
          case rel =>
            refine ⟨pos + 1, (hbc.block _ hltW).trans hit2, hbw2.trans (hbc.mono hbw2.size), ?_, by omega, by omega⟩
            show all _ = true
            rw [unhide HT, all_app, all_one, unhide H, unhide HX]
            rfl
      · have hnx : ∀ ty, (Instr.next (.pointer (some ⟨w.heap.size, 0, none⟩)) true ty).run Try.prog wr = _ := fun ty => Lib.run_next_any_at wr w.heap.size s pos ty hit hps
        have hd := (decode_high s pos hps (by omega)).1
        obtain ⟨R, hR⟩ : ∃ R, (Utf8.decode s pos).1 = R := ⟨_, rfl⟩
        obtain ⟨K, hK⟩ : ∃ K, (Utf8.decode s pos).2 = K := ⟨_, rfl⟩
        rw [hR, hK] at hnx
        rw [hR] at hd
        have hbw2 := Lib.below_iterAt hbw (k := w.heap.size) (Nat.le_refl _) s (pos + K)
        obtain ⟨W, hWd⟩ : ∃ W, wr.iterAt w.heap.size s (pos + K) = W := ⟨_, rfl⟩
        rw [hWd] at hnx hbw2
        have cS := clo (R : Int) W (by omega)
        rw [tok_high (by omega)] at cS
        have HA := hide (all_bad s pos hps (tok_high (by omega)))
        have CS := hide cS
        clear cS hit hbw hWd hR hK
        go_wp2_with (go_at_call 13; refine (unhide CS).mono ?_; rintro e W' ⟨rfl, hbc⟩)
        go_ret
        refine ⟨(pos : Int), rfl, ?_, hbw2.trans (hbc.mono hbw2.size)⟩
        rw [unhide HA]
        exact decide_eq_true (by omega)
    · have hnx : ∀ ty, (Instr.next (.pointer (some ⟨w.heap.size, 0, none⟩)) true ty).run Try.prog wr = _ := fun ty => Lib.run_next_end_at wr w.heap.size s pos ty hit hps
      go_wp2
      go_ret
      refine ⟨-1, rfl, ?_, hbw⟩
      have e : s.data.toList.take pos = s.data.toList := List.take_of_length_le (by simp; omega)
      rw [← e, unhide H]
      rfl

set_option maxHeartbeats 400000 in
/-- strings.ContainsFunc(s, notToken). -/
theorem cfunc (s : ByteArray) (w : World) :
    Calls Try.prog 15 #[.string s, .func (.func 13) #[] #[]] w fun e w' => e = .returned (.bool (!(all s.data.toList))) ∧ Below w.heap.size w w' := by
  have H := hide (idx s w)
  go_enter Try.func15, Try.ntmps15
  go_wp2_with (first | (go_at_call 22; refine (unhide H).mono ?_; rintro e w' ⟨r, rfl, hr, hb⟩; have HR := hide hr; clear hr) | go_in)
  all_goals go_ret
  all_goals exact ⟨ret_bool (by first | exact unhide HR | (rw [← unhide HR]; simp; done) | (rw [← unhide HR]; symm; simp; omega)), by assumption⟩

/-- What a name is: not empty, every byte a token's. -/
def good (s : ByteArray) : Bool := !s.data.toList.isEmpty && all s.data.toList

set_option maxHeartbeats 400000 in
/-- validName, behind its shim. -/
theorem vname (s : ByteArray) (w : World) :
    Calls Try.prog 8 #[.string s] w fun e w' => e = .returned (.bool (good s)) ∧ Below w.heap.size w w' := by
  have C := hide (cfunc s)
  cases h : s.toList.isEmpty
  · have hg : good s = all s.data.toList := by
      unfold good
      rw [← Lib.toList_data, h]
      rfl
    rw [hg]
    generalize all s.data.toList = b at *
    clear hg
    go_enter Try.func8, Try.ntmps8
    go_wp2_with (first | (go_at_call 15; refine (unhide C _).mono ?_; rintro e w' ⟨rfl, hb⟩) | go_in)
    all_goals go_ret
    all_goals exact ⟨ret_bool (by first | rfl | simp), by assumption⟩
  · have hg : good s = false := by
      unfold good
      rw [← Lib.toList_data, h]
      rfl
    rw [hg]
    clear hg
    go_enter Try.func8, Try.ntmps8
    go_wp2_with (first | (go_at_call 15; refine (unhide C _).mono ?_; rintro e w' ⟨rfl, hb⟩) | go_in)
    all_goals go_ret
    all_goals exact ⟨rfl, Below.refl _ _⟩

set_option maxHeartbeats 800000 in
/-- isTchar. -/
theorem tchar (z : Int) (w : World) :
    Calls Try.prog 7 #[.int .u8 z] w fun e w' => e = .returned (.bool (isTok z)) ∧ w' = w := by
  go_enter Try.func7, Try.ntmps7
  go_wp2
  all_goals go_ret
  all_goals (refine ⟨ret_bool ?_, rfl⟩)
  all_goals (simp only [beq_iff_eq, beq_eq_false_iff_ne, ne_eq] at *)
  all_goals (rw [Bool.eq_iff_iff]; simp only [isTok, isMk, Bool.or_eq_true, decide_eq_true_eq, Bool.true_eq_false, Bool.false_eq_true, iff_true, true_iff, false_iff, iff_false])
  all_goals omega

set_option maxHeartbeats 400000 in
theorem bytes_ok (a : ByteArray) (w : World) (h : a.size ≤ 1048576) :
    Calls Try.prog 6 #[.string a] w fun e w' => e = .returned (.bool true) ∧ w' = w := by
  go_enter Try.func6, Try.ntmps6
  go_wp2
  go_ret
  exact ⟨rfl, rfl⟩
set_option maxHeartbeats 400000 in
theorem bytes_no (a : ByteArray) (w : World) (h : ¬ a.size ≤ 1048576) (ha : a.size ≤ 9223372036854775807) :
    Calls Try.prog 6 #[.string a] w fun e w' => e = .returned (.bool false) ∧ w' = w := by
  go_enter Try.func6, Try.ntmps6
  go_wp2
  all_goals go_ret
  all_goals exact ⟨rfl, rfl⟩

set_option maxHeartbeats 400000 in
theorem long (a : ByteArray) (w : World) (h : ¬ a.size ≤ 1048576) (ha : a.size ≤ maxLen) :
    Calls Try.prog 3 #[.string a] w fun e w' => e = .returned (.bool true) ∧ Below w.heap.size w w' := by
  unfold maxLen at *
  go_enter Try.func3, Try.ntmps3
  go_wp2_with (go_at_call 6; refine (bytes_no _ _ h ha).mono ?_; rintro e w' ⟨rfl, rfl⟩)
  go_ret
  exact ⟨rfl, Below.refl _ _⟩

set_option maxHeartbeats 1000000 in
theorem law (s : ByteArray) (w : World) (h : s.size ≤ 1048576) :
    Calls Try.prog 3 #[.string s] w fun e w' => e = .returned (.bool true) ∧ Below w.heap.size w w' := by
  have V := hide (vname s)
  have hg0 : good s = (decide (0 < s.size) && all s.data.toList) := by
    unfold good
    rw [Lib.size_eq]
    cases s.data.toList <;> simp
  have G := hide hg0
  clear hg0
  go_enter Try.func3, Try.ntmps3
  go_wp2_with (go_at_call 6; refine (bytes_ok _ _ h).mono ?_; rintro e w' ⟨rfl, rfl⟩)
  go_loop [3, 4] (fun b i => ∃ k : Nat, k ≤ s.size ∧ i = .int .i64 k ∧ b = .bool (decide (0 < s.size)) ∧ Hid (all (s.data.toList.take k) = true)) (fun _ i => s.size - (intOf i).toNat)
  case atStart => exact ⟨0, Nat.zero_le _, rfl, rfl, rfl⟩
  case round =>
    obtain ⟨k, hk, rfl, rfl, H⟩ := hrel
    by_cases hlt : k < s.size
    · have HT := hide (take_snoc s k hlt)
      have T := hide (tchar ((s[k]'hlt).toNat : Int))
      cases ht : isTok ((s[k]'hlt).toNat : Int)
      · have hf : good s = false := by
          rw [unhide G, all_bad s k hlt ht, Bool.and_false]
        rw [ht] at T
        have HF := hide hf
        clear hf ht G
        go_wp2_with (first | (go_at_call 7; refine (unhide T _).mono ?_; rintro e w' ⟨rfl, rfl⟩) | (go_at_call 8; refine (unhide V _).mono ?_; rintro e w2 ⟨rfl, hb⟩; rw [unhide HF]))
        go_ret
        exact ⟨rfl, by assumption⟩
      · rw [ht] at T
        have HX := hide ht
        clear ht
        go_wp2_with (first | (go_at_call 7; refine (unhide T _).mono ?_; rintro e w' ⟨rfl, rfl⟩))
        go_round
        case rel =>
          refine ⟨k + 1, by omega, by go_num, rfl, ?_⟩
          show all _ = true
          rw [unhide HT, all_app, all_one, unhide H, unhide HX]
          rfl
        case measure => simp [intOf]; omega
    · have hf : good s = decide (0 < s.size) := by
        have e : s.data.toList.take k = s.data.toList := List.take_of_length_le (by simp; omega)
        rw [unhide G, ← e, unhide H, Bool.and_true]
      have HF := hide hf
      clear hf G
      go_wp2_with (go_at_call 8; refine (unhide V _).mono ?_; rintro e w2 ⟨rfl, hb⟩; rw [unhide HF])
      go_ret
      exact ⟨ret_bool (by simp), by assumption⟩
end Go.Proofs.Qxb6600610a

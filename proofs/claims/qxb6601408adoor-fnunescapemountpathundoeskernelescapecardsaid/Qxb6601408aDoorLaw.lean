/-
  FnUnescapeMountPathUndoesKernelEscape: the walk.
-/
import Derived.Test.Qxb6601408aDoorUnesc
set_option linter.unusedSimpArgs false
set_option linter.unusedVariables false
namespace Go.Proofs.Qxb6601408aDoor
open Go.RowKit Pl

set_option maxHeartbeats 400000 in
theorem bytes_ok (a : ByteArray) (w : World) (h : a.size ≤ 1048576) :
    Calls Tryd.prog 4 #[.string a] w fun e w' => e = .returned (.bool true) ∧ w' = w := by
  go_enter Tryd.func4, Tryd.ntmps4
  go_wp2
  go_ret
  exact ⟨rfl, rfl⟩
set_option maxHeartbeats 400000 in
theorem bytes_no (a : ByteArray) (w : World) (h : ¬ a.size ≤ 1048576) (ha : a.size ≤ 9223372036854775807) :
    Calls Tryd.prog 4 #[.string a] w fun e w' => e = .returned (.bool false) ∧ w' = w := by
  go_enter Tryd.func4, Tryd.ntmps4
  go_wp2
  all_goals go_ret
  all_goals exact ⟨rfl, rfl⟩
set_option maxHeartbeats 400000 in
theorem long1 (a : ByteArray) (w : World) (h : ¬ a.size ≤ 1048576) (ha : a.size ≤ 9223372036854775807) :
    Calls Tryd.prog 3 #[.string a] w fun e w' => e = .returned (.bool true) ∧ Below w.heap.size w w' := by
  go_enter Tryd.func3, Tryd.ntmps3
  go_wp2_with (go_at_call 4; refine (bytes_no _ _ h ha).mono ?_; rintro e w' ⟨rfl, rfl⟩)
  go_ret
  exact ⟨rfl, Below.refl _ _⟩
set_option maxHeartbeats 400000 in
theorem long2 (a : ByteArray) (w : World) (h : a.size ≤ 1048576) (h2 : ¬ a.size ≤ 262144) :
    Calls Tryd.prog 3 #[.string a] w fun e w' => e = .returned (.bool true) ∧ Below w.heap.size w w' := by
  go_enter Tryd.func3, Tryd.ntmps3
  go_wp2_with (go_at_call 4; refine (bytes_ok _ _ h).mono ?_; rintro e w' ⟨rfl, rfl⟩)
  go_ret
  exact ⟨rfl, Below.refl _ _⟩

set_option maxHeartbeats 400000 in
theorem shim (E : ByteArray) (r : ByteArray) (w : World) (c : ∀ w, Calls Tryd.prog 7 #[.string E] w fun e w' => e = .returned (.string r) ∧ Below w.heap.size w w') :
    Calls Tryd.prog 6 #[.string E] w fun e w' => e = .returned (.string r) ∧ Below w.heap.size w w' := by
  have C := hide c
  clear c
  go_enter Tryd.func6, Tryd.ntmps6
  go_wp2_with (go_at_call 7; refine (unhide C _).mono ?_; rintro e w' ⟨rfl, hb⟩)
  go_ret
  exact ⟨rfl, hb⟩

/-- ZZUnescapeMountPath over the escape of l: l. -/
theorem unescape (l : List UInt8) (w : World) (hl : l.length ≤ 262144) :
    Calls Tryd.prog 6 #[.string ⟨(esc l).toArray⟩] w fun e w' => e = .returned (.string ⟨l.toArray⟩) ∧ Below w.heap.size w w' := by
  by_cases h : 0 ≤ Lib.indexByte (⟨(esc l).toArray⟩ : ByteArray).data.toList 92
  · exact shim _ _ w (fun w => unescape_loop _ l w rfl hl h)
  · have hi := ix_neg _ _ (Int.not_le.1 h)
    have c := unescape_plain ⟨(esc l).toArray⟩ w (Int.not_le.1 h)
    rw [show esc l = l from esc_id l hi] at c ⊢
    exact c

theorem ret_bool {a b : Bool} (h : a = b) : Ending.returned (.bool a) = .returned (.bool b) := by rw [h]

set_option maxHeartbeats 400000 in
theorem law (s : ByteArray) (w : World) (h : s.size ≤ 262144) :
    Calls Tryd.prog 3 #[.string s] w fun e w' => e = .returned (.bool true) ∧ Below w.heap.size w w' := by
  have hu := fun w => unescape s.data.toList w (by rw [← Lib.size_eq]; exact h)
  rw [Lib.mk_data] at hu
  have HE := hide (escape_loop s w h)
  have hcv : ∀ w1 cap, Hid (w1.ownsRow w.heap.size 5 1 (.slice (some ⟨w.heap.size, 0, none⟩) (esc s.data.toList).length cap) (esc s.data.toList).length (Lib.byteCells (esc s.data.toList))) → (convert 23 9 (.slice (some ⟨w.heap.size, 0, none⟩) (esc s.data.toList).length cap)).run Tryd.prog w1 = .ok (.string ⟨(esc s.data.toList).toArray⟩) w1 := by
    intro w1 cap ho
    refine run_convert_bytes_back w1 23 9 5 ⟨w.heap.size, 0, none⟩ cap (esc s.data.toList) Tryd.underlying23 Tryd.underlying5 Tryd.underlying9 ?_
    intro j hj
    rw [Addr.add_lit, Nat.zero_add, (unhide ho).cellAt j (by omega)]
    simp [Lib.byteCells, hj]
  generalize esc s.data.toList = x at *
  have HU := hide hu
  have HC := hide hcv
  clear hu hcv
  go_enter Tryd.func3, Tryd.ntmps3
  go_wp2_with fail
  refine (bytes_ok _ _ (by omega)).mono ?_
  rintro e w' ⟨rfl, rfl⟩
  go_wp2_with fail
  refine (unhide HE).mono ?_
  rintro e w1 ⟨rfl, hown, hb1⟩
  have hconv := unhide HC w1 _ hown
  clear hown
  go_wp2_with fail
  refine (unhide HU _).mono ?_
  rintro e w2 ⟨rfl, hb2⟩
  go_wp2_with fail
  go_ret
  exact ⟨ret_bool (by simp), hb1.trans (hb2.mono hb1.size)⟩
end Go.Proofs.Qxb6601408aDoor

/-
  escapeLikeMountinfo: what it writes.
-/
import Derived.Test.Qxb6601408aDoorBuild
import Derived.Test.Qxb6601408aDoorPlain
set_option linter.unusedSimpArgs false
set_option linter.unusedVariables false
namespace Go.Proofs.Qxb6601408aDoor
open Go.RowKit Pl

theorem take_snoc (s : ByteArray) (k : Nat) (h : k < s.size) : s.data.toList.take (k + 1) = s.data.toList.take k ++ [s[k]] := by
  rw [List.take_succ_eq_append_getElem (by simpa using h)]; rfl
theorem esc_snoc (s : ByteArray) (k : Nat) (h : k < s.size) : esc (s.data.toList.take (k + 1)) = esc (s.data.toList.take k) ++ esc1 s[k] := by
  rw [take_snoc s k h, esc_app, esc_one]
theorem esc_take_len (s : ByteArray) (k : Nat) (h : k ≤ s.size) : (esc (s.data.toList.take k)).length ≤ 4 * k := by
  have := esc_len (s.data.toList.take k)
  have h2 : (s.data.toList.take k).length ≤ k := List.length_take_le _ _
  omega
theorem cells_app (a b : List UInt8) : Lib.byteCells (a ++ b) = Lib.byteCells a ++ Lib.byteCells b := by simp [Lib.byteCells]
theorem one_cells (l : List UInt8) : ∀ u ∈ Lib.byteCells l, u.oneCell' = true := by
  intro u hu
  obtain ⟨b, _, rfl⟩ := List.mem_map.1 hu
  rfl
theorem new_cells (w : World) (C : Array Value) : ∀ j u, C.toList[j]? = some u → (w.alloc (.cells C 5)).cell? ((⟨w.heap.size, 0, none⟩ : Addr).add j) = some u := by
  intro j u hj
  rw [Addr.add_lit, Nat.zero_add, World.cell?_alloc_at _ _ _ _ rfl]
  simpa using hj

set_option maxRecDepth 100000 in
set_option maxHeartbeats 2000000 in
theorem escape_loop (s : ByteArray) (w : World) (hs : s.size ≤ 262144) :
    Calls Tryd.prog 5 #[.string s] w fun e w' => e = .returned (.slice (some ⟨w.heap.size, 0, none⟩) (esc s.data.toList).length (4 * s.size)) ∧ w'.ownsRow w.heap.size 5 1 (.slice (some ⟨w.heap.size, 0, none⟩) (esc s.data.toList).length (4 * s.size)) (esc s.data.toList).length (Lib.byteCells (esc s.data.toList)) ∧ Below w.heap.size w w' := by
  obtain ⟨i0, hi, hz0, hz1, hz2⟩ := info_parts Tryd.info5
  go_enter Tryd.func5, Tryd.ntmps5
  go_wp2_with (at_make; refine wpList_make_own _ rfl _ _ 23 rfl w.heap.size 5 i0 (.int .u8 0) 1 Tryd.underlying23 hi hz0 hz1 .i64 .i64 _ (4 * s.size) rfl rfl (by omega) (by rw [hz2]; omega) (by unfold maxLen; omega) (Nat.le_refl _) ?_; intro w4 hown4 hgrow4; have hb4 : Below w.heap.size w w4 := (Below.refl _ _).grown hgrow4 (Nat.le_refl _) (fun k hk => by cases hk))
  go_loopw [3, 4] (fun v i wr => ∃ (k : Nat) (xs : List UInt8), k ≤ s.size ∧ i = .int .i64 k ∧ v = .slice (some ⟨w.heap.size, 0, none⟩) xs.length (4 * s.size) ∧ wr.ownsRow w.heap.size 5 1 (.slice (some ⟨w.heap.size, 0, none⟩) xs.length (4 * s.size)) xs.length (Lib.byteCells xs) ∧ Below w.heap.size w wr ∧ Hid (xs = esc (s.data.toList.take k)) ∧ xs.length ≤ 4 * k)
    (fun _ i _ => s.size - (intOf i).toNat)
  case atStart => exact ⟨0, [], Nat.zero_le _, rfl, rfl, hown4, hb4, rfl, Nat.zero_le _⟩
  case round =>
    obtain ⟨k, xs, hk, rfl, rfl, hown, hbel, HX, hlen⟩ := hrel
    clear hown4 hgrow4 hb4
    by_cases hlt : k < s.size
    · have HE : Hid (esc (s.data.toList.take (k + 1)) = xs ++ esc1 (s[k]'hlt)) := by
        show esc (s.data.toList.take (k + 1)) = xs ++ esc1 (s[k]'hlt)
        rw [esc_snoc s k hlt, ← unhide HX]
      have hsz := hbel.size
      have hbyte : ((s[k]'hlt).toNat : Int) < 256 := by have := (s[k]'hlt).toNat_lt; omega
      clear HX
      by_cases ha : (s[k]'hlt).toNat = 32
      · have hx : esc1 (s[k]'hlt) = [92, 48, 52, 48] := by
          unfold esc1
          rw [if_pos ha]
        rw [hx] at HE
        have hcv : ((s[k]'hlt).toNat : Int) = 32 := by omega
        clear hx ha 
        go_wp2_with (at_builtin; refine wpList_append_fits _ rfl (.tmp 33) (.tmp 44) 23 rfl w.heap.size 5 i0 1 Tryd.underlying23 hi hz1 w.heap.size xs.length (4 * s.size) (Lib.byteCells xs) rfl (hown.alloc _) ⟨wr.heap.size, 0, none⟩ 4 4 (Lib.byteCells [92, 48, 52, 48]) rfl (by rfl) (new_cells wr _) (one_cells _) (by omega) ?_; intro w5 hown5 hgrow5)
        have hb5 : Below w.heap.size w w5 := (hbel.alloc hsz _).grown hgrow5 (by simp; omega) (fun k hk => by cases hk; exact Nat.le_refl _)
        go_wp2
        go_roundw
        case rel =>
          refine ⟨k + 1, xs ++ [92, 48, 52, 48], by omega, by go_num, by simp, ?_, hb5, (unhide HE).symm, by simp; omega⟩
          rw [cells_app]
          simpa using hown5
        case measure => simp [intOf]; omega
      by_cases hb : (s[k]'hlt).toNat = 9
      · have hx : esc1 (s[k]'hlt) = [92, 48, 49, 49] := by
          unfold esc1
          rw [if_neg ha, if_pos hb]
        rw [hx] at HE
        have hcv : ((s[k]'hlt).toNat : Int) = 9 := by omega
        clear hx hb ha
        go_wp2_with (at_builtin; refine wpList_append_fits _ rfl (.tmp 33) (.tmp 44) 23 rfl w.heap.size 5 i0 1 Tryd.underlying23 hi hz1 w.heap.size xs.length (4 * s.size) (Lib.byteCells xs) rfl (hown.alloc _) ⟨wr.heap.size, 0, none⟩ 4 4 (Lib.byteCells [92, 48, 49, 49]) rfl (by rfl) (new_cells wr _) (one_cells _) (by omega) ?_; intro w5 hown5 hgrow5)
        have hb5 : Below w.heap.size w w5 := (hbel.alloc hsz _).grown hgrow5 (by simp; omega) (fun k hk => by cases hk; exact Nat.le_refl _)
        go_wp2
        go_roundw
        case rel =>
          refine ⟨k + 1, xs ++ [92, 48, 49, 49], by omega, by go_num, by simp, ?_, hb5, (unhide HE).symm, by simp; omega⟩
          rw [cells_app]
          simpa using hown5
        case measure => simp [intOf]; omega
      by_cases hc : (s[k]'hlt).toNat = 10
      · have hx : esc1 (s[k]'hlt) = [92, 48, 49, 50] := by
          unfold esc1
          rw [if_neg ha, if_neg hb, if_pos hc]
        rw [hx] at HE
        have hcv : ((s[k]'hlt).toNat : Int) = 10 := by omega
        clear hx hc ha hb
        go_wp2_with (at_builtin; refine wpList_append_fits _ rfl (.tmp 33) (.tmp 44) 23 rfl w.heap.size 5 i0 1 Tryd.underlying23 hi hz1 w.heap.size xs.length (4 * s.size) (Lib.byteCells xs) rfl (hown.alloc _) ⟨wr.heap.size, 0, none⟩ 4 4 (Lib.byteCells [92, 48, 49, 50]) rfl (by rfl) (new_cells wr _) (one_cells _) (by omega) ?_; intro w5 hown5 hgrow5)
        have hb5 : Below w.heap.size w w5 := (hbel.alloc hsz _).grown hgrow5 (by simp; omega) (fun k hk => by cases hk; exact Nat.le_refl _)
        go_wp2
        go_roundw
        case rel =>
          refine ⟨k + 1, xs ++ [92, 48, 49, 50], by omega, by go_num, by simp, ?_, hb5, (unhide HE).symm, by simp; omega⟩
          rw [cells_app]
          simpa using hown5
        case measure => simp [intOf]; omega
      by_cases hd : (s[k]'hlt).toNat = 92
      · have hx : esc1 (s[k]'hlt) = [92, 49, 51, 52] := by
          unfold esc1
          rw [if_neg ha, if_neg hb, if_neg hc, if_pos hd]
        rw [hx] at HE
        have hcv : ((s[k]'hlt).toNat : Int) = 92 := by omega
        clear hx hd ha hb hc
        go_wp2_with (at_builtin; refine wpList_append_fits _ rfl (.tmp 33) (.tmp 44) 23 rfl w.heap.size 5 i0 1 Tryd.underlying23 hi hz1 w.heap.size xs.length (4 * s.size) (Lib.byteCells xs) rfl (hown.alloc _) ⟨wr.heap.size, 0, none⟩ 4 4 (Lib.byteCells [92, 49, 51, 52]) rfl (by rfl) (new_cells wr _) (one_cells _) (by omega) ?_; intro w5 hown5 hgrow5)
        have hb5 : Below w.heap.size w w5 := (hbel.alloc hsz _).grown hgrow5 (by simp; omega) (fun k hk => by cases hk; exact Nat.le_refl _)
        go_wp2
        go_roundw
        case rel =>
          refine ⟨k + 1, xs ++ [92, 49, 51, 52], by omega, by go_num, by simp, ?_, hb5, (unhide HE).symm, by simp; omega⟩
          rw [cells_app]
          simpa using hown5
        case measure => simp [intOf]; omega
      have hx : esc1 (s[k]'hlt) = [s[k]'hlt] := by
        unfold esc1
        rw [if_neg ha, if_neg hb, if_neg hc, if_neg hd]
      rw [hx] at HE
      have ha' : (((s[k]'hlt).toNat : Int) == 32) = false := by rw [beq_eq_false_iff_ne]; omega
      have hb' : (((s[k]'hlt).toNat : Int) == 9) = false := by rw [beq_eq_false_iff_ne]; omega
      have hc' : (((s[k]'hlt).toNat : Int) == 10) = false := by rw [beq_eq_false_iff_ne]; omega
      have hd' : (((s[k]'hlt).toNat : Int) == 92) = false := by rw [beq_eq_false_iff_ne]; omega
      clear hx ha hb hc hd
      go_wp2_with (at_builtin; refine wpList_append_fits _ rfl (.tmp 46) (.tmp 48) 23 rfl w.heap.size 5 i0 1 Tryd.underlying23 hi hz1 w.heap.size xs.length (4 * s.size) (Lib.byteCells xs) rfl (hown.alloc _) ⟨wr.heap.size, 0, none⟩ 1 1 (Lib.byteCells [s[k]'hlt]) rfl (by rfl) (new_cells wr _) (one_cells _) (by omega) ?_; intro w5 hown5 hgrow5)
      have hb5 : Below w.heap.size w w5 := (hbel.alloc hsz _).grown hgrow5 (by simp; omega) (fun k hk => by cases hk; exact Nat.le_refl _)
      go_wp2
      go_roundw
      case rel =>
        refine ⟨k + 1, xs ++ [s[k]'hlt], by omega, by go_num, by simp, ?_, hb5, (unhide HE).symm, by simp; omega⟩
        rw [cells_app]
        simpa using hown5
      case measure => simp [intOf]; omega
    · have e : xs = esc s.data.toList := by
        have e1 : s.data.toList.take k = s.data.toList := List.take_of_length_le (by simp; omega)
        rw [unhide HX, e1]
      have E := hide e
      clear e HX
      go_wp2
      go_ret
      rw [← unhide E]
      exact ⟨rfl, hown, hbel⟩
end Go.Proofs.Qxb6601408aDoor

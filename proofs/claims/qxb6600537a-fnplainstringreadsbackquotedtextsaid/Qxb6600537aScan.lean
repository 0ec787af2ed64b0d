/-
  The scanner: plainString at an opening quote.
-/
import Derived.Test.Qxb6600537aClone
set_option linter.unusedSimpArgs false
set_option linter.unusedVariables false
namespace Go.Proofs.Qxb6600537a
open Go.RowKit Pl

set_option maxHeartbeats 400000 in
theorem ib (g o n c : Nat) (ys : List Int) (cv : Int) (w : World) (hn : ys.length = n) (hc : ∀ j, j < n → w.cell? ⟨g, o + j, none⟩ = some (.int .u8 (ys.getD j 0))) :
    Calls Try.prog 16 #[.slice (some ⟨g, o, none⟩) n c, .int .u8 cv] w fun e w' => e = .returned (.int .i64 (Lib.indexByte (Lib.bytesOf ys) cv.toNat.toUInt8)) ∧ w' = w := by
  have HC := hide hc
  have HN := hide hn
  clear hc hn
  go_enter Try.func16, Try.ntmps16
  go_wp2
  rw [run_callFunc_extern Try.func17 (by kernel_rfl) (by kernel_rfl) (by kernel_rfl) (e := Extern.BytealgIndexByte.indexByte) (by kernel_rfl), Lib.run_indexByteSlice w g o n c ys (unhide HN) (unhide HC) cv]
  simp only [Result.andThen]
  rw [Oper.upon_value]
  go_wp2
  go_ret
  exact ⟨rfl, rfl⟩
theorem ib34 (g o n c : Nat) (t r : List Int) (w : World) (hb : Byt t) (hm : mem t 34 = false) (hn : (t ++ 34 :: r).length = n) (hc : ∀ j, j < n → w.cell? ⟨g, o + j, none⟩ = some (.int .u8 ((t ++ 34 :: r).getD j 0))) :
    Calls Try.prog 16 #[.slice (some ⟨g, o, none⟩) n c, .int .u8 34] w fun e w' => e = .returned (.int .i64 (t.length : Int)) ∧ w' = w := by
  have h := ib g o n c (t ++ 34 :: r) 34 w hn hc
  rw [show (34 : Int).toNat.toUInt8 = UInt8.ofNat (34 : Int).toNat from rfl, ix_hit t r 34 (by omega) (by omega) hb hm] at h
  exact h
theorem ib92 (g o n c : Nat) (t : List Int) (w : World) (hb : Byt t) (hm : mem t 92 = false) (hn : t.length = n) (hc : ∀ j, j < n → w.cell? ⟨g, o + j, none⟩ = some (.int .u8 (t.getD j 0))) :
    Calls Try.prog 16 #[.slice (some ⟨g, o, none⟩) n c, .int .u8 92] w fun e w' => e = .returned (.int .i64 (-1)) ∧ w' = w := by
  have h := ib g o n c t 92 w hn hc
  rw [show (92 : Int).toNat.toUInt8 = UInt8.ofNat (92 : Int).toNat from rfl, ix_miss t 92 (by omega) (by omega) hb hm] at h
  exact h

theorem kept (w : World) (o : Obj) (m g : Nat) (hg : g < w.heap.size) : Hid (∀ j, ((w.alloc o).drewN m).cell? ⟨g, j, none⟩ = w.cell? ⟨g, j, none⟩) := fun j => World.cell?_alloc_past o g j hg

theorem alloc_drewN (w : World) (n : Nat) (o : Obj) : (w.drewN n).alloc o = (w.alloc o).drewN n := rfl
theorem setCell_drewN (w : World) (n : Nat) (a : Addr) (v : Value) : (w.drewN n).setCell a v = (w.setCell a v).drewN n := rfl

section
attribute [local go_sem] alloc_drewN setCell_drewN
set_option maxHeartbeats 400000 in
theorem plain (g N i k : Nat) (w : World) (hN : N ≤ 1048580) (hi : i + k + 2 ≤ N) (hg : g < w.heap.size)
    (hq : w.cell? ⟨g, i, none⟩ = some (.int .u8 34))
    (c34 : ∀ w1 n c, Hid (∀ j, w1.cell? ⟨g, j, none⟩ = w.cell? ⟨g, j, none⟩) → n = N - (i + 1) → Calls Try.prog 16 #[.slice (some ⟨g, i + 1, none⟩) n c, .int .u8 34] w1 fun e w' => e = .returned (.int .i64 (k : Int)) ∧ w' = w1)
    (c92 : ∀ w1 c, Hid (∀ j, w1.cell? ⟨g, j, none⟩ = w.cell? ⟨g, j, none⟩) → Calls Try.prog 16 #[.slice (some ⟨g, i + 1, none⟩) k c, .int .u8 92] w1 fun e w' => e = .returned (.int .i64 (-1)) ∧ w' = w1) :
    Calls Try.prog 14 #[.pointer (some ⟨w.heap.size, 0, none⟩)] (w.alloc (.cells #[.slice (some ⟨g, 0, none⟩) N N, .int .i64 (i : Int)] 34)) fun e w' =>
      e = .returned (.tuple #[.slice (some ⟨g, i + 1, none⟩) k (N - (i + 1)), .bool true]) ∧ ∃ n, w' = (w.alloc (.cells #[.slice (some ⟨g, 0, none⟩) N N, .int .i64 ((i : Int) + ((k : Int) + 2))] 34)).drewN n := by
  have C34 := hide c34
  have C92 := hide c92
  clear c34 c92
  have hne : ((i : Int) == (N : Int)) = false := by rw [beq_eq_false_iff_ne]; omega
  have i0 : (0 : Int) ≤ (i : Int) := by omega
  have i1 : (i : Int) < (N : Int) := by omega
  have i2 : (i : Int) + 1 ≤ (N : Int) := by omega
  have i3 : (i : Int) + 1 + (k : Int) ≤ (N : Int) := by omega
  go_enter Try.func14, Try.ntmps14
  go_wp2
  go_quiet (fail)
  go_wp2
  go_quiet ((go_at_call 16; refine (unhide C34 _ _ _ (kept _ _ _ _ hg) rfl).mono ?_; rintro e w2 ⟨rfl, rfl⟩; exact ⟨rfl, _, rfl⟩))
  go_wp2
  go_quiet (fail)
  go_wp2_with fail
  rw [show i + 1 + k - (i + 1) = k by omega]
  refine (unhide C92 _ _ (kept _ _ _ _ hg)).mono ?_
  rintro e w2 ⟨rfl, rfl⟩
  go_wp2
  go_ret2
  exact ⟨rfl, _, rfl⟩

set_option maxHeartbeats 400000 in
/-- ZZPlainString at an opening quote, the closing one k bytes on, no escape between. -/
theorem zplain (g N i k : Nat) (w : World) (hN : N ≤ 1048580) (hi : i + k + 2 ≤ N) (hg : g < w.heap.size)
    (hq : w.cell? ⟨g, i, none⟩ = some (.int .u8 34))
    (c34 : ∀ w1 n c, Hid (∀ j, w1.cell? ⟨g, j, none⟩ = w.cell? ⟨g, j, none⟩) → n = N - (i + 1) → Calls Try.prog 16 #[.slice (some ⟨g, i + 1, none⟩) n c, .int .u8 34] w1 fun e w' => e = .returned (.int .i64 (k : Int)) ∧ w' = w1)
    (c92 : ∀ w1 c, Hid (∀ j, w1.cell? ⟨g, j, none⟩ = w.cell? ⟨g, j, none⟩) → Calls Try.prog 16 #[.slice (some ⟨g, i + 1, none⟩) k c, .int .u8 92] w1 fun e w' => e = .returned (.int .i64 (-1)) ∧ w' = w1) :
    Calls Try.prog 8 #[.slice (some ⟨g, 0, none⟩) N N, .int .i64 (i : Int)] w fun e w' =>
      e = .returned (.tuple #[.slice (some ⟨g, i + 1, none⟩) k (N - (i + 1)), .int .i64 ((i : Int) + ((k : Int) + 2)), .bool true]) ∧ Below w.heap.size w w' := by
  have P := hide (plain g N i k w hN hi hg hq c34 c92)
  clear c34 c92 hq hN hi
  go_enter Try.func8, Try.ntmps8
  go_wp2_with fail
  refine (unhide P).mono ?_
  rintro e w2 ⟨rfl, n, rfl⟩
  go_wp2
  go_region
  all_goals go_wp2
  all_goals go_ret3
  all_goals exact ⟨rfl, below_drewN ((Below.refl _ _).alloc (Nat.le_refl _) _) _⟩
end

/-- The same, the row's bytes told: p, a quote, t, a quote, r. -/
theorem zplain_row (g : Nat) (p t r : List Int) (w : World) (hN : p.length + t.length + r.length ≤ 1048576) (hg : g < w.heap.size) (bt : Byt t) (m34 : mem t 34 = false) (m92 : mem t 92 = false)
    (hc : ∀ j, j < p.length + t.length + r.length + 2 → w.cell? ⟨g, j, none⟩ = some (.int .u8 ((p ++ 34 :: (t ++ 34 :: r)).getD j 0))) :
    Calls Try.prog 8 #[.slice (some ⟨g, 0, none⟩) (p.length + t.length + r.length + 2) (p.length + t.length + r.length + 2), .int .i64 (p.length : Int)] w fun e w' =>
      e = .returned (.tuple #[.slice (some ⟨g, p.length + 1, none⟩) t.length (p.length + t.length + r.length + 2 - (p.length + 1)), .int .i64 ((p.length : Int) + ((t.length : Int) + 2)), .bool true]) ∧ Below w.heap.size w w' := by
  have hd : ∀ j, (p ++ 34 :: (t ++ 34 :: r)).getD (p.length + 1 + j) 0 = (t ++ 34 :: r).getD j 0 := by
    intro j
    simp only [List.getD]
    rw [List.getElem?_append_right (by omega), show p.length + 1 + j - p.length = j + 1 by omega, List.getElem?_cons_succ]
  have ht : ∀ j, j < t.length → (t ++ 34 :: r).getD j 0 = t.getD j 0 := by
    intro j hj
    simp only [List.getD]
    rw [List.getElem?_append_left hj]
  refine zplain g _ p.length t.length w (by omega) (by omega) hg ?_ ?_ ?_
  · rw [hc p.length (by omega)]
    simp [List.getD]
  · intro w1 n c hk hn
    refine ib34 g (p.length + 1) n c t r w1 bt m34 (by simp; omega) ?_
    intro j hj
    rw [unhide hk, hc _ (by omega), hd]
  · intro w1 c hk
    refine ib92 g (p.length + 1) t.length c t w1 bt m92 rfl ?_
    intro j hj
    rw [unhide hk, hc _ (by omega), hd, ht j hj]
end Go.Proofs.Qxb6600537a

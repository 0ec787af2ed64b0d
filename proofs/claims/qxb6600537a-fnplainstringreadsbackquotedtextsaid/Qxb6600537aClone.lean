/-
  The copy; are two rows the same.
-/
import Derived.Test.Qxb6600537aLeaves
set_option linter.unusedSimpArgs false
set_option linter.unusedVariables false
namespace Go.Proofs.Qxb6600537a
open Go.RowKit Pl

theorem Try.info5 : (Try.prog.info? 5).map (fun i => (i.zero, i.size, i.bytes)) = some (some (.int .u8 0), 1, 1) := by kernel_rfl

/-- make([]byte, n), make([]byte, 0, n). -/
theorem mk (l n : Nat) (w : World) (h : l ≤ n) (hn : n ≤ 281474976710656) :
    (Instr.makeSlice 22 (.int .i64 (l : Int)) (.int .i64 (n : Int))).run Try.prog w = .ok (.slice (some ⟨w.heap.size, 0, none⟩) l n) (w.alloc (.cells (madeCells #[Value.int .u8 0] n) 5)) := by
  obtain ⟨i0, hi, hz0, hz1, hz2⟩ := info_parts Try.info5
  have := run_make (P := Try.prog) w 22 5 i0 (.int .u8 0) Try.underlying22 hi hz0 .i64 .i64 (l : Int) (n : Int) (by omega) (by omega) (by rw [hz2]; omega) (by omega)
  rw [hz1] at this
  simpa [Value.cells] using this

theorem isNil (a : Option Addr) (l c : Nat) (w : World) : (binOp .eql 22 (.slice a l c) (.slice none 0 0)).run Try.prog w = .ok (.bool a.isNone) w := Lib.run_eql_slice_nil w 22 5 a l c 0 0 Try.underlying22

set_option maxHeartbeats 400000 in
theorem clone_nil (w : World) :
    Calls Try.prog 7 #[.slice none 0 0] w fun e w' => e = .returned (.slice none 0 0) ∧ w' = w := by
  have hnil := isNil
  go_enter Try.func7, Try.ntmps7
  go_wp2
  go_ret
  exact ⟨rfl, rfl⟩

set_option maxHeartbeats 400000 in
theorem clone_empty (x : Addr) (cap : Nat) (w : World) :
    Calls Try.prog 7 #[.slice (some x) 0 cap] w fun e w' => e = .returned (.slice (some ⟨w.heap.size, 0, none⟩) 0 0) ∧ w' = w.alloc (.cells (cp [] 0) 5) := by
  have hm : ∀ w, (Instr.makeSlice 22 (.int .i64 0) (.int .i64 0)).run Try.prog w = .ok (.slice (some ⟨w.heap.size, 0, none⟩) 0 0) (w.alloc (.cells (cp [] 0) 5)) := fun w => by
    have := mk 0 0 w (by omega) (by omega)
    rw [show madeCells #[Value.int .u8 0] 0 = cp [] 0 from cp_zero []] at this
    exact this
  have hnil := isNil
  go_enter Try.func7, Try.ntmps7
  go_wp2
  refine wp_loop_rounds 1 ?_
  rw [rounds_succ]
  go_wp2
  go_ret
  exact ⟨rfl, rfl⟩

set_option maxHeartbeats 400000 in
theorem clone_row (b off cap : Nat) (zs : List Int) (w : World) (hl : zs.length ≤ 1048576) (hb : b < w.heap.size) (hc : ∀ j, j < zs.length → w.cell? ⟨b, off + j, none⟩ = some (.int .u8 (zs.getD j 0))) :
    Calls Try.prog 7 #[.slice (some ⟨b, off, none⟩) zs.length cap] w fun e w' => e = .returned (.slice (some ⟨w.heap.size, 0, none⟩) zs.length zs.length) ∧ w' = w.alloc (.cells (cp zs zs.length) 5) := by
  have hm : ∀ w, (Instr.makeSlice 22 (.int .i64 (zs.length : Int)) (.int .i64 (zs.length : Int))).run Try.prog w = .ok (.slice (some ⟨w.heap.size, 0, none⟩) zs.length zs.length) (w.alloc (.cells (cp zs 0) 5)) := fun w => by
    have := mk zs.length zs.length w (by omega) (by omega)
    rw [cp_zero zs] at this
    exact this
  have HC := hide hc
  clear hc
  have hnil := isNil
  go_enter Try.func7, Try.ntmps7
  go_wp2
  clear hm
  go_loopw [4] (fun i wr => ∃ k : Nat, k ≤ zs.length ∧ i = .int .i64 k ∧ wr = w.alloc (.cells (cp zs k) 5)) (fun i _ => zs.length - (intOf i).toNat)
  case atStart => exact ⟨0, Nat.zero_le _, rfl, rfl⟩
  case round =>
    obtain ⟨k, hk, rfl, rfl⟩ := hrel
    by_cases hlt : k < zs.length
    · have hcell := unhide HC k hlt
      have HS := hide (cp_step zs k hlt)
      have ha := cp_at zs k hlt
      generalize zs.getD k 0 = z at hcell HS
      go_wp2
      go_roundw
      case rel => exact ⟨k + 1, by omega, by go_num, by rw [unhide HS]⟩
      case measure => simp [intOf]; omega
    · have e : k = zs.length := by omega
      subst e
      go_wp2
      go_ret
      exact ⟨rfl, rfl⟩

/-- zzCloneBytesHttpB1: a copy in new memory; nil stays nil. -/
theorem clone (ao : Option Addr) (cap : Nat) (zs : List Int) (w : World) (hs : Src w ao cap zs) :
    Calls Try.prog 7 #[.slice ao zs.length cap] w fun e w' => ∃ bo cb, e = .returned (.slice bo zs.length cb) ∧ Src w' bo cb zs ∧ Below w.heap.size w w' := by
  by_cases hp : 0 < zs.length
  · obtain ⟨b, off, rfl, hb, hc⟩ := hs.at hp
    refine (clone_row b off cap zs w hs.2.1 hb hc).mono ?_
    rintro e w' ⟨rfl, rfl⟩
    refine ⟨_, _, rfl, ⟨(fun h => nomatch h), hs.2.1, ?_⟩, (Below.refl _ _).alloc (Nat.le_refl _) _⟩
    intro ad had i hi
    obtain rfl := Option.some.inj had
    rw [Addr.add_lit, Nat.zero_add, World.cell?_alloc_at _ _ _ _ rfl]
    exact cp_whole zs i hi
  · have e : zs = [] := List.eq_nil_of_length_eq_zero (by omega)
    subst e
    cases ao with
    | none =>
      obtain ⟨_, rfl⟩ := hs.1 rfl
      refine (clone_nil w).mono ?_
      rintro e w' ⟨rfl, rfl⟩
      exact ⟨_, _, rfl, hs, Below.refl _ _⟩
    | some x =>
      refine (clone_empty x cap w).mono ?_
      rintro e w' ⟨rfl, rfl⟩
      exact ⟨_, _, rfl, ⟨(fun h => nomatch h), Nat.zero_le _, (fun _ _ i hi => absurd hi (Nat.not_lt_zero i))⟩, (Below.refl _ _).alloc (Nat.le_refl _) _⟩

set_option maxHeartbeats 400000 in
theorem same_empty (ao bo : Option Addr) (ca cb : Nat) (w : World) :
    Calls Try.prog 9 #[.slice ao 0 ca, .slice bo 0 cb] w fun e w' => e = .returned (.bool true) ∧ ∃ n, w' = w.drewN n := by
  go_enter Try.func9, Try.ntmps9
  go_wp2
  refine wp_loop_rounds 1 ?_
  rw [rounds_succ]
  go_wp2
  go_ret
  exact ⟨rfl, 0, rfl⟩

set_option maxHeartbeats 400000 in
theorem same_row (b1 o1 b2 o2 ca cb : Nat) (zs : List Int) (w : World) (hl : zs.length ≤ 1048576) (h1 : ∀ j, j < zs.length → w.cell? ⟨b1, o1 + j, none⟩ = some (.int .u8 (zs.getD j 0))) (h2 : ∀ j, j < zs.length → w.cell? ⟨b2, o2 + j, none⟩ = some (.int .u8 (zs.getD j 0))) :
    Calls Try.prog 9 #[.slice (some ⟨b1, o1, none⟩) zs.length ca, .slice (some ⟨b2, o2, none⟩) zs.length cb] w fun e w' => e = .returned (.bool true) ∧ ∃ n, w' = w.drewN n := by
  have H1 := hide h1
  have H2 := hide h2
  clear h1 h2
  go_enter Try.func9, Try.ntmps9
  go_wp2
  go_loopw [5] (fun i wr => ∃ k n : Nat, k ≤ zs.length ∧ i = .int .i64 k ∧ wr = w.drewN n) (fun i _ => zs.length - (intOf i).toNat)
  case atStart => exact ⟨0, 0, Nat.zero_le _, rfl, rfl⟩
  case round =>
    obtain ⟨k, n, hk, rfl, rfl⟩ := hrel
    by_cases hlt : k < zs.length
    · have c1 := unhide H1 k hlt
      have c2 := unhide H2 k hlt
      have i0 : (0 : Int) ≤ (k : Int) := by omega
      have i1 : (k : Int) < (zs.length : Int) := by omega
      generalize zs.getD k 0 = z at c1 c2
      go_wp2
      go_quiet (fail)
      go_wp2
      go_roundw
      case rel => exact ⟨k + 1, _, by omega, by go_num, rfl⟩
      case measure => simp [intOf]; omega
    · go_wp2
      go_ret
      exact ⟨rfl, n, rfl⟩

/-- zzSameBytesHttpB1, two rows of the same bytes. -/
theorem same (ao bo : Option Addr) (ca cb : Nat) (zs : List Int) (w : World) (ha : Src w ao ca zs) (hb : Src w bo cb zs) :
    Calls Try.prog 9 #[.slice ao zs.length ca, .slice bo zs.length cb] w fun e w' => e = .returned (.bool true) ∧ ∃ n, w' = w.drewN n := by
  by_cases hp : 0 < zs.length
  · obtain ⟨b1, o1, rfl, _, h1⟩ := ha.at hp
    obtain ⟨b2, o2, rfl, _, h2⟩ := hb.at hp
    exact same_row b1 o1 b2 o2 ca cb zs w ha.2.1 h1 h2
  · have e : zs = [] := List.eq_nil_of_length_eq_zero (by omega)
    subst e
    exact same_empty ao bo ca cb w
end Go.Proofs.Qxb6600537a

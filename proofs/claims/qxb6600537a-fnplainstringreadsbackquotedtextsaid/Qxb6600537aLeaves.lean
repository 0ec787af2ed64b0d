/-
  THE LEAVES: the bound on lengths, is a byte among them, the copy, are two rows the same, bytes.IndexByte.
-/
import Derived.Test.Qxb6600537aRows
import Derived.Test.Qxb6600537aPlain
import Derived.WalkKit
import Derived.ProofKit
import Derived.OpenShut
import Derived.WalkLawsBesides
import Derived.WalkSpells
import Derived.RegionTactic
import Derived.Deep.QuietTactic
import Derived.BigQuiet
import Derived.Below
import Derived.Handy
set_option linter.unusedSimpArgs false
set_option linter.unusedVariables false
namespace Go.Proofs.Qxb6600537a
open Go.RowKit Pl

theorem hide {p : Prop} (h : p) : Hid p := h
theorem unhide {p : Prop} (h : Hid p) : p := h
theorem ret_bool {a b : Bool} (h : a = b) : Ending.returned (.bool a) = .returned (.bool b) := by rw [h]

/-- A slice of bytes, zs its elements: nil and empty; or its cells hold them. -/
def Src (w : World) (ao : Option Addr) (cap : Nat) (zs : List Int) : Prop :=
  (ao = none → zs.length = 0 ∧ cap = 0) ∧ zs.length ≤ 1048576 ∧ ∀ ad, ao = some ad → ∀ i, i < zs.length → w.cell? (ad.add i) = some (.int .u8 (zs.getD i 0))
theorem Src.at {w : World} {ao : Option Addr} {cap : Nat} {zs : List Int} (h : Src w ao cap zs) (hp : 0 < zs.length) :
    ∃ b off, ao = some ⟨b, off, none⟩ ∧ b < w.heap.size ∧ ∀ j, j < zs.length → w.cell? ⟨b, off + j, none⟩ = some (.int .u8 (zs.getD j 0)) := by
  obtain ⟨h1, h2, h3⟩ := h
  cases ao with
  | none => have := (h1 rfl).1; omega
  | some x =>
    obtain ⟨b, off, rfl, hc⟩ := ints_at (h3 x rfl) hp
    refine ⟨b, off, rfl, ?_, hc⟩
    have := hc 0 hp
    by_cases hb : b < w.heap.size
    · exact hb
    · exfalso
      have hn : w.heap[b]? = none := by simp; omega
      simp [World.cell?, hn] at this

set_option maxHeartbeats 400000 in
theorem bytes_ok (a b c : Option Addr) (la lb lc ca cb cc : Nat) (w : World) (h : la + lb + lc ≤ 1048576) :
    Calls Try.prog 10 #[.slice a la ca, .slice b lb cb, .slice c lc cc] w fun e w' => e = .returned (.bool true) ∧ w' = w := by
  go_enter Try.func10, Try.ntmps10
  go_wp2
  go_ret
  exact ⟨rfl, rfl⟩
set_option maxHeartbeats 400000 in
theorem bytes_no (a b c : Option Addr) (la lb lc ca cb cc : Nat) (w : World) (h : ¬ la + lb + lc ≤ 1048576) (ha : la ≤ 9223372036854775807) (hb : lb ≤ 9223372036854775807) (hc : lc ≤ 9223372036854775807) :
    Calls Try.prog 10 #[.slice a la ca, .slice b lb cb, .slice c lc cc] w fun e w' => e = .returned (.bool false) ∧ w' = w := by
  go_enter Try.func10, Try.ntmps10
  go_wp2
  all_goals go_ret
  all_goals exact ⟨rfl, rfl⟩

theorem take_snoc (zs : List Int) (k : Nat) (h : k < zs.length) : zs.take (k + 1) = zs.take k ++ [zs.getD k 0] := by
  rw [List.take_succ_eq_append_getElem h]
  simp [List.getD, h]

set_option maxHeartbeats 400000 in
theorem has_empty (ao : Option Addr) (cap : Nat) (c : Int) (w : World) :
    Calls Try.prog 11 #[.slice ao 0 cap, .int .u8 c] w fun e w' => e = .returned (.bool false) ∧ w' = w := by
  go_enter Try.func11, Try.ntmps11
  go_wp2
  refine wp_loop_rounds 1 ?_
  rw [rounds_succ]
  go_wp2
  go_ret
  exact ⟨rfl, rfl⟩

set_option maxHeartbeats 400000 in
theorem has_row (b off cap : Nat) (zs : List Int) (c : Int) (w : World) (hl : zs.length ≤ 1048576) (hc : ∀ j, j < zs.length → w.cell? ⟨b, off + j, none⟩ = some (.int .u8 (zs.getD j 0))) :
    Calls Try.prog 11 #[.slice (some ⟨b, off, none⟩) zs.length cap, .int .u8 c] w fun e w' => e = .returned (.bool (mem zs c)) ∧ w' = w := by
  have HC := hide hc
  clear hc
  go_enter Try.func11, Try.ntmps11
  go_wp2
  go_loop [5] (fun i => ∃ k : Nat, k ≤ zs.length ∧ i = .int .i64 k ∧ Hid (mem (zs.take k) c = false)) (fun i => zs.length - (intOf i).toNat)
  case atStart => exact ⟨0, Nat.zero_le _, rfl, rfl⟩
  case round =>
    obtain ⟨k, hk, rfl, H⟩ := hrel
    by_cases hlt : k < zs.length
    · have HT := hide (take_snoc zs k hlt)
      have HD := hide (List.take_append_drop (k + 1) zs)
      have hcell := unhide HC k hlt
      generalize zs.getD k 0 = z at hcell HT
      go_wp2
      · have h0 : (z == c) = true := by assumption
        go_ret
        refine ⟨ret_bool ?_, rfl⟩
        rw [← unhide HD, unhide HT, List.append_assoc, List.singleton_append, mem_app, mem_cons, h0]
        simp
      · have h0 : (z == c) = false := by assumption
        go_round
        case rel =>
          refine ⟨k + 1, by omega, by go_num, ?_⟩
          show mem _ _ = false
          rw [unhide HT, mem_app, unhide H, mem_cons, h0]
          rfl
        case measure => simp [intOf]; omega
    · go_wp2
      go_ret
      refine ⟨ret_bool ?_, rfl⟩
      have e : zs.take k = zs := List.take_of_length_le (by omega)
      rw [← unhide H, e]

/-- zzHasByteHttpB1. -/
theorem has_any (ao : Option Addr) (cap : Nat) (zs : List Int) (c : Int) (w : World) (hs : Src w ao cap zs) :
    Calls Try.prog 11 #[.slice ao zs.length cap, .int .u8 c] w fun e w' => e = .returned (.bool (mem zs c)) ∧ w' = w := by
  by_cases hp : 0 < zs.length
  · obtain ⟨b, off, rfl, _, hc⟩ := hs.at hp
    exact has_row b off cap zs c w hs.2.1 hc
  · have e : zs = [] := List.eq_nil_of_length_eq_zero (by omega)
    subst e
    exact has_empty ao cap c w
end Go.Proofs.Qxb6600537a

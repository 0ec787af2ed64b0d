/-
  strconv.ParseUint(t, 8, 8) at the four texts that the kernel's escape makes: 040, 011, 012, 134.
-/
import Derived.Test.Qxb6601408aDoorRows
import Derived.WalkKit
import Derived.ProofKit
import Derived.WalkLawsBesides
import Derived.WalkSpells
import Derived.RegionTactic
import Derived.Below
import Derived.Handy
import Derived.Lib.ConvBytes
set_option linter.unusedSimpArgs false
set_option linter.unusedVariables false
namespace Go.Proofs.Qxb6601408aDoor
open Go.RowKit

theorem hide {p : Prop} (h : p) : Hid p := h
theorem unhide {p : Prop} (h : Hid p) : p := h

theorem below_bytesWorld (w : World) (e : TypeId) (s : ByteArray) : Below w.heap.size w (Lib.bytesWorld w e s) :=
  ⟨rfl, rfl, rfl, by rw [Lib.bytesWorld_size]; omega, fun j hj => Lib.bytesWorld_at_old w e s j hj⟩

set_option maxRecDepth 100000 in
set_option maxHeartbeats 1000000 in
theorem p040_in (w : World) :
    Calls Tryd.prog 13 #[.string ⟨#[48, 52, 48]⟩, .int .i64 8, .int .i64 8] w fun e w' => e = .returned (.tuple #[.int .u64 32, .nilIface]) ∧ Below w.heap.size w w' := by
  have hcv := Lib.run_convert_string_bytes (P := Tryd.prog) w 9 23 5 ⟨#[48, 52, 48]⟩ (u := .string) Tryd.underlying9 Tryd.underlying23 Tryd.underlying5
  have b0 : (Lib.bytesWorld w 5 ⟨#[48, 52, 48]⟩).cell? ⟨w.heap.size, 0, none⟩ = some (.int .u8 48) := Lib.bytesWorld_cell w 5 ⟨#[48, 52, 48]⟩ 0 (by decide)
  have b1 : (Lib.bytesWorld w 5 ⟨#[48, 52, 48]⟩).cell? ⟨w.heap.size, 1, none⟩ = some (.int .u8 52) := Lib.bytesWorld_cell w 5 ⟨#[48, 52, 48]⟩ 1 (by decide)
  have b2 : (Lib.bytesWorld w 5 ⟨#[48, 52, 48]⟩).cell? ⟨w.heap.size, 2, none⟩ = some (.int .u8 48) := Lib.bytesWorld_cell w 5 ⟨#[48, 52, 48]⟩ 2 (by decide)
  have HB := hide (below_bytesWorld w 5 ⟨#[48, 52, 48]⟩)
  have hsz : (Sem.run Tryd.prog (convert 9 23 (.string ⟨#[48, 52, 48]⟩)) w) = .ok (.slice (some ⟨w.heap.size, 0, none⟩) 3 (grownCap w 3 0 5)) (Lib.bytesWorld w 5 ⟨#[48, 52, 48]⟩) := hcv
  clear hcv
  generalize Lib.bytesWorld w 5 ⟨#[48, 52, 48]⟩ = W1 at *
  generalize grownCap w 3 0 5 = C at *
  go_enter Tryd.func13, Tryd.ntmps13
  go_wp2
  go_rounds 4
  go_ret2
  exact ⟨rfl, unhide HB⟩

set_option maxHeartbeats 400000 in
theorem p040 (w : World) :
    Calls Tryd.prog 9 #[.string ⟨#[48, 52, 48]⟩, .int .i64 8, .int .i64 8] w fun e w' => e = .returned (.tuple #[.int .u64 32, .nilIface]) ∧ Below w.heap.size w w' := by
  go_enter Tryd.func9, Tryd.ntmps9
  go_wp2_with (go_at_call 13; refine (p040_in _).mono ?_; rintro e w' ⟨rfl, hb⟩)
  go_ret2
  exact ⟨rfl, hb⟩

set_option maxRecDepth 100000 in
set_option maxHeartbeats 1000000 in
theorem p011_in (w : World) :
    Calls Tryd.prog 13 #[.string ⟨#[48, 49, 49]⟩, .int .i64 8, .int .i64 8] w fun e w' => e = .returned (.tuple #[.int .u64 9, .nilIface]) ∧ Below w.heap.size w w' := by
  have hcv := Lib.run_convert_string_bytes (P := Tryd.prog) w 9 23 5 ⟨#[48, 49, 49]⟩ (u := .string) Tryd.underlying9 Tryd.underlying23 Tryd.underlying5
  have b0 : (Lib.bytesWorld w 5 ⟨#[48, 49, 49]⟩).cell? ⟨w.heap.size, 0, none⟩ = some (.int .u8 48) := Lib.bytesWorld_cell w 5 ⟨#[48, 49, 49]⟩ 0 (by decide)
  have b1 : (Lib.bytesWorld w 5 ⟨#[48, 49, 49]⟩).cell? ⟨w.heap.size, 1, none⟩ = some (.int .u8 49) := Lib.bytesWorld_cell w 5 ⟨#[48, 49, 49]⟩ 1 (by decide)
  have b2 : (Lib.bytesWorld w 5 ⟨#[48, 49, 49]⟩).cell? ⟨w.heap.size, 2, none⟩ = some (.int .u8 49) := Lib.bytesWorld_cell w 5 ⟨#[48, 49, 49]⟩ 2 (by decide)
  have HB := hide (below_bytesWorld w 5 ⟨#[48, 49, 49]⟩)
  have hsz : (Sem.run Tryd.prog (convert 9 23 (.string ⟨#[48, 49, 49]⟩)) w) = .ok (.slice (some ⟨w.heap.size, 0, none⟩) 3 (grownCap w 3 0 5)) (Lib.bytesWorld w 5 ⟨#[48, 49, 49]⟩) := hcv
  clear hcv
  generalize Lib.bytesWorld w 5 ⟨#[48, 49, 49]⟩ = W1 at *
  generalize grownCap w 3 0 5 = C at *
  go_enter Tryd.func13, Tryd.ntmps13
  go_wp2
  go_rounds 4
  go_ret2
  exact ⟨rfl, unhide HB⟩

set_option maxHeartbeats 400000 in
theorem p011 (w : World) :
    Calls Tryd.prog 9 #[.string ⟨#[48, 49, 49]⟩, .int .i64 8, .int .i64 8] w fun e w' => e = .returned (.tuple #[.int .u64 9, .nilIface]) ∧ Below w.heap.size w w' := by
  go_enter Tryd.func9, Tryd.ntmps9
  go_wp2_with (go_at_call 13; refine (p011_in _).mono ?_; rintro e w' ⟨rfl, hb⟩)
  go_ret2
  exact ⟨rfl, hb⟩

set_option maxRecDepth 100000 in
set_option maxHeartbeats 1000000 in
theorem p012_in (w : World) :
    Calls Tryd.prog 13 #[.string ⟨#[48, 49, 50]⟩, .int .i64 8, .int .i64 8] w fun e w' => e = .returned (.tuple #[.int .u64 10, .nilIface]) ∧ Below w.heap.size w w' := by
  have hcv := Lib.run_convert_string_bytes (P := Tryd.prog) w 9 23 5 ⟨#[48, 49, 50]⟩ (u := .string) Tryd.underlying9 Tryd.underlying23 Tryd.underlying5
  have b0 : (Lib.bytesWorld w 5 ⟨#[48, 49, 50]⟩).cell? ⟨w.heap.size, 0, none⟩ = some (.int .u8 48) := Lib.bytesWorld_cell w 5 ⟨#[48, 49, 50]⟩ 0 (by decide)
  have b1 : (Lib.bytesWorld w 5 ⟨#[48, 49, 50]⟩).cell? ⟨w.heap.size, 1, none⟩ = some (.int .u8 49) := Lib.bytesWorld_cell w 5 ⟨#[48, 49, 50]⟩ 1 (by decide)
  have b2 : (Lib.bytesWorld w 5 ⟨#[48, 49, 50]⟩).cell? ⟨w.heap.size, 2, none⟩ = some (.int .u8 50) := Lib.bytesWorld_cell w 5 ⟨#[48, 49, 50]⟩ 2 (by decide)
  have HB := hide (below_bytesWorld w 5 ⟨#[48, 49, 50]⟩)
  have hsz : (Sem.run Tryd.prog (convert 9 23 (.string ⟨#[48, 49, 50]⟩)) w) = .ok (.slice (some ⟨w.heap.size, 0, none⟩) 3 (grownCap w 3 0 5)) (Lib.bytesWorld w 5 ⟨#[48, 49, 50]⟩) := hcv
  clear hcv
  generalize Lib.bytesWorld w 5 ⟨#[48, 49, 50]⟩ = W1 at *
  generalize grownCap w 3 0 5 = C at *
  go_enter Tryd.func13, Tryd.ntmps13
  go_wp2
  go_rounds 4
  go_ret2
  exact ⟨rfl, unhide HB⟩

set_option maxHeartbeats 400000 in
theorem p012 (w : World) :
    Calls Tryd.prog 9 #[.string ⟨#[48, 49, 50]⟩, .int .i64 8, .int .i64 8] w fun e w' => e = .returned (.tuple #[.int .u64 10, .nilIface]) ∧ Below w.heap.size w w' := by
  go_enter Tryd.func9, Tryd.ntmps9
  go_wp2_with (go_at_call 13; refine (p012_in _).mono ?_; rintro e w' ⟨rfl, hb⟩)
  go_ret2
  exact ⟨rfl, hb⟩

set_option maxRecDepth 100000 in
set_option maxHeartbeats 1000000 in
theorem p134_in (w : World) :
    Calls Tryd.prog 13 #[.string ⟨#[49, 51, 52]⟩, .int .i64 8, .int .i64 8] w fun e w' => e = .returned (.tuple #[.int .u64 92, .nilIface]) ∧ Below w.heap.size w w' := by
  have hcv := Lib.run_convert_string_bytes (P := Tryd.prog) w 9 23 5 ⟨#[49, 51, 52]⟩ (u := .string) Tryd.underlying9 Tryd.underlying23 Tryd.underlying5
  have b0 : (Lib.bytesWorld w 5 ⟨#[49, 51, 52]⟩).cell? ⟨w.heap.size, 0, none⟩ = some (.int .u8 49) := Lib.bytesWorld_cell w 5 ⟨#[49, 51, 52]⟩ 0 (by decide)
  have b1 : (Lib.bytesWorld w 5 ⟨#[49, 51, 52]⟩).cell? ⟨w.heap.size, 1, none⟩ = some (.int .u8 51) := Lib.bytesWorld_cell w 5 ⟨#[49, 51, 52]⟩ 1 (by decide)
  have b2 : (Lib.bytesWorld w 5 ⟨#[49, 51, 52]⟩).cell? ⟨w.heap.size, 2, none⟩ = some (.int .u8 52) := Lib.bytesWorld_cell w 5 ⟨#[49, 51, 52]⟩ 2 (by decide)
  have HB := hide (below_bytesWorld w 5 ⟨#[49, 51, 52]⟩)
  have hsz : (Sem.run Tryd.prog (convert 9 23 (.string ⟨#[49, 51, 52]⟩)) w) = .ok (.slice (some ⟨w.heap.size, 0, none⟩) 3 (grownCap w 3 0 5)) (Lib.bytesWorld w 5 ⟨#[49, 51, 52]⟩) := hcv
  clear hcv
  generalize Lib.bytesWorld w 5 ⟨#[49, 51, 52]⟩ = W1 at *
  generalize grownCap w 3 0 5 = C at *
  go_enter Tryd.func13, Tryd.ntmps13
  go_wp2
  go_rounds 4
  go_ret2
  exact ⟨rfl, unhide HB⟩

set_option maxHeartbeats 400000 in
theorem p134 (w : World) :
    Calls Tryd.prog 9 #[.string ⟨#[49, 51, 52]⟩, .int .i64 8, .int .i64 8] w fun e w' => e = .returned (.tuple #[.int .u64 92, .nilIface]) ∧ Below w.heap.size w w' := by
  go_enter Tryd.func9, Tryd.ntmps9
  go_wp2_with (go_at_call 13; refine (p134_in _).mono ?_; rintro e w' ⟨rfl, hb⟩)
  go_ret2
  exact ⟨rfl, hb⟩

end Go.Proofs.Qxb6601408aDoor

/-
  unescapeMountPath over what the escape wrote.
-/
import Derived.Test.Qxb6601408aDoorEsc
import Derived.Test.Qxb6601408aDoorShelf
set_option linter.unusedSimpArgs false
set_option linter.unusedVariables false
namespace Go.Proofs.Qxb6601408aDoor
open Go.RowKit Pl

set_option maxHeartbeats 400000 in
theorem ib (s : ByteArray) (c : Int) (w : World) :
    Calls Tryd.prog 24 #[.string s, .int .u8 c] w fun e w' => e = .returned (.int .i64 (Lib.indexByte s.data.toList c.toNat.toUInt8)) ∧ w' = w := by
  go_enter Tryd.func24, Tryd.ntmps24
  go_wp2
  rw [run_callFunc_extern Tryd.func31 (by kernel_rfl) (by kernel_rfl) (by kernel_rfl) (e := Extern.BytealgIndexByte.indexByte) (by kernel_rfl), Lib.run_indexByteString]
  simp only [Result.andThen]
  rw [Oper.upon_value]
  go_wp2
  go_ret
  exact ⟨rfl, rfl⟩
set_option maxHeartbeats 400000 in
theorem ix (s : ByteArray) (w : World) :
    Calls Tryd.prog 16 #[.string s, .string ⟨#[92]⟩] w fun e w' => e = .returned (.int .i64 (Lib.indexByte s.data.toList 92)) ∧ w' = w := by
  go_enter Tryd.func16, Tryd.ntmps16
  go_wp2_with (go_at_call 24; refine (ib _ _ _).mono ?_; rintro e w' ⟨rfl, rfl⟩)
  · have h : ([92] == s.toList) = true := by assumption
    go_ret
    refine ⟨?_, rfl⟩
    have e : s.data.toList = [92] := by rw [← Lib.toList_data]; exact (beq_iff_eq.1 h).symm
    rw [e]
    simp [Lib.indexByte]
  · go_ret
    exact ⟨rfl, rfl⟩
set_option maxHeartbeats 400000 in
theorem contains_in (s : ByteArray) (r : Int) (w : World) (hr : Lib.indexByte s.data.toList 92 = r) :
    Calls Tryd.prog 8 #[.string s, .string ⟨#[92]⟩] w fun e w' => e = .returned (.bool (decide (0 ≤ r))) ∧ w' = w := by
  have X := fun w => ix s w
  rw [hr] at X
  have HX := hide X
  clear X hr
  go_enter Tryd.func8, Tryd.ntmps8
  go_wp2_with (first | (go_at_call 16; refine (unhide HX _).mono ?_; rintro e w' ⟨rfl, rfl⟩) | go_in)
  go_ret
  exact ⟨rfl, rfl⟩
/-- strings.Contains(s, a backslash). -/
theorem contains (s : ByteArray) (b : Bool) (w : World) (hb : decide (0 ≤ Lib.indexByte s.data.toList 92) = b) :
    Calls Tryd.prog 8 #[.string s, .string ⟨#[92]⟩] w fun e w' => e = .returned (.bool b) ∧ w' = w := by
  have h := contains_in s _ w rfl
  rw [hb] at h
  exact h

/-- The bytes of what was written, from the place where byte k of the path stands. -/
theorem esc_at (l : List UInt8) (k : Nat) (h : k < l.length) : esc l = esc (l.take k) ++ (esc1 l[k] ++ esc (l.drop (k + 1))) := by
  have e : l = l.take k ++ (l[k] :: l.drop (k + 1)) := by
    rw [← List.drop_eq_getElem_cons h]
    exact (List.take_append_drop k l).symm
  have e2 := congrArg esc e
  rw [esc_app] at e2
  exact e2
theorem esc_next (l : List UInt8) (k : Nat) (h : k < l.length) : (esc (l.take (k + 1))).length = (esc (l.take k)).length + (esc1 l[k]).length := by
  rw [List.take_succ_eq_append_getElem h, esc_app, esc_one, List.length_append]
theorem byte_at (E : ByteArray) (a b c : List UInt8) (h : E.data.toList = a ++ (b ++ c)) (j : Nat) (hj : j < b.length) (hE : a.length + j < E.size) : E[a.length + j]'hE = b[j] := by
  have h1 : E[a.length + j]'hE = (E.data.toList)[a.length + j]'(by simpa using hE) := rfl
  rw [h1]
  simp only [h]
  rw [List.getElem_append_right (by omega)]
  simp only [Nat.add_sub_cancel_left]
  rw [List.getElem_append_left hj]
theorem cut_at (E : ByteArray) (a : List UInt8) (x d1 d2 d3 : UInt8) (c : List UInt8) (h : E.data.toList = a ++ ([x, d1, d2, d3] ++ c)) : E.extract (a.length + 1) (a.length + 4) = ⟨#[d1, d2, d3]⟩ := by
  rw [Lib.extract_eq, h]
  have e1 : (a ++ ([x, d1, d2, d3] ++ c)).drop (a.length + 1) = d1 :: d2 :: d3 :: c := by
    rw [List.drop_append]
    simp
  rw [e1, show a.length + 4 - (a.length + 1) = 3 by omega]
  rfl

set_option maxHeartbeats 400000 in
/-- No backslash: handed back as it is. -/
theorem unescape_plain (E : ByteArray) (w : World) (h : Lib.indexByte E.data.toList 92 < 0) :
    Calls Tryd.prog 6 #[.string E] w fun e w' => e = .returned (.string E) ∧ Below w.heap.size w w' := by
  have C := hide (fun w => contains E false w (decide_eq_false (by omega)))
  clear h
  go_enter Tryd.func6, Tryd.ntmps6
  go_wp2_with (first | (go_at_call 8; refine (unhide C _).mono ?_; rintro e w' ⟨rfl, rfl⟩) | go_in)
  go_ret
  exact ⟨rfl, Below.refl _ _⟩

set_option maxRecDepth 100000 in
set_option maxHeartbeats 4000000 in
theorem unescape_loop (E : ByteArray) (l : List UInt8) (w : World) (hE : E.data.toList = esc l) (hl : l.length ≤ 262144) (h : 0 ≤ Lib.indexByte E.data.toList 92) :
    Calls Tryd.prog 7 #[.string E] w fun e w' => e = .returned (.string ⟨l.toArray⟩) ∧ Below w.heap.size w w' := by
  have C := hide (fun w => contains E true w (decide_eq_true h))
  clear h
  have hsz : E.size = (esc l).length := by rw [Lib.size_eq, hE]
  have hmax : E.size ≤ 1048576 := by have := esc_len l; omega
  have HE := hide hE
  have HZ := hide hsz
  clear hE hsz
  go_enter Tryd.func7, Tryd.ntmps7
  go_wp2_with (go_at_call 8; refine (unhide C _).mono ?_; rintro e w' ⟨rfl, rfl⟩)
  go_loopw [4] (fun i wr => ∃ (k pos : Nat), k ≤ l.length ∧ i = .int .i64 pos ∧ Hid (pos = (esc (l.take k)).length) ∧ pos ≤ E.size ∧ Lib.IsBuilder 30 5 w'.heap.size w'.heap.size (Lib.byteCells (l.take k)) wr ∧ Below w'.heap.size w' wr)
    (fun i _ => E.size - (intOf i).toNat)
  case atStart => exact ⟨0, 0, Nat.zero_le _, rfl, rfl, Nat.zero_le _, builder_new w', (Below.refl _ _).alloc (Nat.le_refl _) _⟩
  case round =>
    obtain ⟨k, pos, hk, rfl, HP, hle, hbd, hbel⟩ := hrel
    clear C
    by_cases hlt : k < l.length
    · have hA := esc_at l k hlt
      rw [← unhide HE] at hA
      have hN := esc_next l k hlt
      have h1 := esc1_len l[k]
      have hlenA : E.size = pos + ((esc1 l[k]).length + (esc (l.drop (k + 1))).length) := by
        rw [Lib.size_eq, hA, List.length_append, List.length_append, unhide HP]
      have hps : pos < E.size := by omega
      have hcl : (Lib.byteCells (l.take k)).length = k := by rw [Lib.byteCells_length, List.length_take]; omega
      have htk : Lib.byteCells (l.take (k + 1)) = Lib.byteCells (l.take k) ++ [Value.int .u8 ((l[k]).toNat : Int)] := by
        rw [List.take_succ_eq_append_getElem hlt, cells_app]
        rfl
      have HK := hide htk
      have HCL := hide hcl
      have hsize := hbel.size
      clear htk hcl
      by_cases ha : (l[k]).toNat = 32
      · have hx : esc1 l[k] = [92, 48, 52, 48] := by
          unfold esc1
          rw [if_pos ha]
        rw [hx] at hA hN hlenA
        have hb0 := byte_at E _ _ _ hA 0 (by simp) (by rw [← unhide HP]; omega)
        have hcut := cut_at E _ _ _ _ _ _ hA
        simp only [Nat.add_zero, ← unhide HP] at hb0 hcut hN
        have he : ((E[pos]'hps).toNat : Int) = 92 := by
          rw [show E[pos]'hps = (92 : UInt8) from hb0]
          rfl
        have hroom : (pos : Int) + 4 ≤ (E.size : Int) := by simp at hlenA; omega
        have HN := hide hN
        have HV : Hid ((l[k]).toNat = 32) := ha
        clear hx hA hN hlenA hb0 h1 ha 
        go_wp2_with fail
        refine (p040 _).mono ?_
        rintro e w1 ⟨rfl, hb1⟩
        have hbd1 := isBuilder_later hbd hb1
        go_wp2_with fail
        refine (write _ _ _ _ _ hbd1 (by rw [unhide HCL]; omega) (by have := hb1.size; omega)).mono ?_
        rintro e w2 ⟨rfl, hbd2, hb2⟩
        go_wp2_with fail
        go_roundw
        case rel =>
          refine ⟨k + 1, pos + 4, by omega, by go_num, ?_, by omega, ?_, (hbel.trans (hb1.mono hsize)).trans hb2⟩
          · show pos + 4 = _
            rw [unhide HN]
            rfl
          · rw [unhide HK, unhide HV]
            exact .inr hbd2
        case measure => simp [intOf]; omega
      by_cases hb : (l[k]).toNat = 9
      · have hx : esc1 l[k] = [92, 48, 49, 49] := by
          unfold esc1
          rw [if_neg ha, if_pos hb]
        rw [hx] at hA hN hlenA
        have hb0 := byte_at E _ _ _ hA 0 (by simp) (by rw [← unhide HP]; omega)
        have hcut := cut_at E _ _ _ _ _ _ hA
        simp only [Nat.add_zero, ← unhide HP] at hb0 hcut hN
        have he : ((E[pos]'hps).toNat : Int) = 92 := by
          rw [show E[pos]'hps = (92 : UInt8) from hb0]
          rfl
        have hroom : (pos : Int) + 4 ≤ (E.size : Int) := by simp at hlenA; omega
        have HN := hide hN
        have HV : Hid ((l[k]).toNat = 9) := hb
        clear hx hA hN hlenA hb0 h1 hb ha
        go_wp2_with fail
        refine (p011 _).mono ?_
        rintro e w1 ⟨rfl, hb1⟩
        have hbd1 := isBuilder_later hbd hb1
        go_wp2_with fail
        refine (write _ _ _ _ _ hbd1 (by rw [unhide HCL]; omega) (by have := hb1.size; omega)).mono ?_
        rintro e w2 ⟨rfl, hbd2, hb2⟩
        go_wp2_with fail
        go_roundw
        case rel =>
          refine ⟨k + 1, pos + 4, by omega, by go_num, ?_, by omega, ?_, (hbel.trans (hb1.mono hsize)).trans hb2⟩
          · show pos + 4 = _
            rw [unhide HN]
            rfl
          · rw [unhide HK, unhide HV]
            exact .inr hbd2
        case measure => simp [intOf]; omega
      by_cases hc : (l[k]).toNat = 10
      · have hx : esc1 l[k] = [92, 48, 49, 50] := by
          unfold esc1
          rw [if_neg ha, if_neg hb, if_pos hc]
        rw [hx] at hA hN hlenA
        have hb0 := byte_at E _ _ _ hA 0 (by simp) (by rw [← unhide HP]; omega)
        have hcut := cut_at E _ _ _ _ _ _ hA
        simp only [Nat.add_zero, ← unhide HP] at hb0 hcut hN
        have he : ((E[pos]'hps).toNat : Int) = 92 := by
          rw [show E[pos]'hps = (92 : UInt8) from hb0]
          rfl
        have hroom : (pos : Int) + 4 ≤ (E.size : Int) := by simp at hlenA; omega
        have HN := hide hN
        have HV : Hid ((l[k]).toNat = 10) := hc
        clear hx hA hN hlenA hb0 h1 hc ha hb
        go_wp2_with fail
        refine (p012 _).mono ?_
        rintro e w1 ⟨rfl, hb1⟩
        have hbd1 := isBuilder_later hbd hb1
        go_wp2_with fail
        refine (write _ _ _ _ _ hbd1 (by rw [unhide HCL]; omega) (by have := hb1.size; omega)).mono ?_
        rintro e w2 ⟨rfl, hbd2, hb2⟩
        go_wp2_with fail
        go_roundw
        case rel =>
          refine ⟨k + 1, pos + 4, by omega, by go_num, ?_, by omega, ?_, (hbel.trans (hb1.mono hsize)).trans hb2⟩
          · show pos + 4 = _
            rw [unhide HN]
            rfl
          · rw [unhide HK, unhide HV]
            exact .inr hbd2
        case measure => simp [intOf]; omega
      by_cases hd : (l[k]).toNat = 92
      · have hx : esc1 l[k] = [92, 49, 51, 52] := by
          unfold esc1
          rw [if_neg ha, if_neg hb, if_neg hc, if_pos hd]
        rw [hx] at hA hN hlenA
        have hb0 := byte_at E _ _ _ hA 0 (by simp) (by rw [← unhide HP]; omega)
        have hcut := cut_at E _ _ _ _ _ _ hA
        simp only [Nat.add_zero, ← unhide HP] at hb0 hcut hN
        have he : ((E[pos]'hps).toNat : Int) = 92 := by
          rw [show E[pos]'hps = (92 : UInt8) from hb0]
          rfl
        have hroom : (pos : Int) + 4 ≤ (E.size : Int) := by simp at hlenA; omega
        have HN := hide hN
        have HV : Hid ((l[k]).toNat = 92) := hd
        clear hx hA hN hlenA hb0 h1 hd ha hb hc
        go_wp2_with fail
        refine (p134 _).mono ?_
        rintro e w1 ⟨rfl, hb1⟩
        have hbd1 := isBuilder_later hbd hb1
        go_wp2_with fail
        refine (write _ _ _ _ _ hbd1 (by rw [unhide HCL]; omega) (by have := hb1.size; omega)).mono ?_
        rintro e w2 ⟨rfl, hbd2, hb2⟩
        go_wp2_with fail
        go_roundw
        case rel =>
          refine ⟨k + 1, pos + 4, by omega, by go_num, ?_, by omega, ?_, (hbel.trans (hb1.mono hsize)).trans hb2⟩
          · show pos + 4 = _
            rw [unhide HN]
            rfl
          · rw [unhide HK, unhide HV]
            exact .inr hbd2
        case measure => simp [intOf]; omega
      have hx : esc1 l[k] = [l[k]] := by
        unfold esc1
        rw [if_neg ha, if_neg hb, if_neg hc, if_neg hd]
      rw [hx] at hA hN hlenA
      have hb0 := byte_at E _ _ _ hA 0 (by simp) (by rw [← unhide HP]; omega)
      simp only [Nat.add_zero, ← unhide HP] at hb0 hN
      have he : E[pos]'hps = l[k] := hb0
      have hne : (((l[k]).toNat : Int) == 92) = false := by rw [beq_eq_false_iff_ne]; omega
      have HN := hide hN
      clear hx hA hN hlenA hb0 h1 ha hb hc hd
      generalize l[k] = c at *
      go_wp2_with fail
      refine (write _ _ _ _ _ hbd (by rw [unhide HCL]; omega) (by omega)).mono ?_
      rintro e w2 ⟨rfl, hbd2, hb2⟩
      go_wp2_with fail
      go_roundw
      case rel =>
        refine ⟨k + 1, pos + 1, by omega, by go_num, ?_, by omega, ?_, hbel.trans hb2⟩
        · show pos + 1 = _
          rw [unhide HN]
          rfl
        · rw [unhide HK]
          exact .inr hbd2
      case measure => simp [intOf]; omega
    · have e : l.take k = l := List.take_of_length_le (by omega)
      rw [e] at HP hbd
      have hend : ¬ pos < E.size := by
        have := unhide HZ
        rw [← unhide HP] at this
        omega
      have hS := Tryd.Builder_String_any w'.heap.size w'.heap.size l wr hbd hbel.size
      have HS := hide hS
      clear hS hbd HP e
      go_wp2_with fail
      refine (unhide HS).mono ?_
      rintro e w2 ⟨rfl, hb2⟩
      go_wp2_with fail
      go_ret
      exact ⟨rfl, hbel.trans hb2⟩
end Go.Proofs.Qxb6601408aDoor

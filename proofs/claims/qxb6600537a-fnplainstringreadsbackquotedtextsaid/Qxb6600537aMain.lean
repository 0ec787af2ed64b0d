/-
  FnPlainStringReadsBackQuotedText: the walk.
-/
import Derived.Test.Qxb6600537aScan
set_option linter.unusedSimpArgs false
set_option linter.unusedVariables false
namespace Go.Proofs.Qxb6600537a
open Go.RowKit Pl

theorem Src.later {w w' : World} {ao : Option Addr} {cap : Nat} {zs : List Int} (h : Src w ao cap zs) (hb : Below w.heap.size w w') : Src w' ao cap zs :=
  ⟨h.1, h.2.1, fun ad had i hi => cell_later hb (h.2.2 ad had i hi)⟩
theorem Src.news {w : World} {ao : Option Addr} {cap : Nat} {zs : List Int} (h : Src w ao cap zs) : ∀ ad, ao = some ad → ∀ j u, (zs.map (Value.int .u8))[j]? = some u → w.cell? (ad.add j) = some u := by
  intro ad had j u hj
  have hl : j < zs.length := by
    have := (List.getElem?_eq_some_iff.1 hj).1
    simpa using this
  rw [h.2.2 ad had j hl, ← hj]
  simp [List.getD, hl]
theorem one_new (w : World) (v : Value) : ∀ ad, some (⟨w.heap.size, 0, none⟩ : Addr) = some ad → ∀ j u, [v][j]? = some u → (w.alloc (.cells #[v] 5)).cell? (ad.add j) = some u := by
  intro ad had j u hj
  obtain rfl := Option.some.inj had
  match j, hj with
  | 0, hj =>
    simp at hj
    subst hj
    simp [Addr.add]

set_option maxHeartbeats 400000 in
theorem long (a b c : Option Addr) (la lb lc ca cb cc : Nat) (w : World) (h : ¬ la + lb + lc ≤ 1048576) (ha : la ≤ maxLen) (hb : lb ≤ maxLen) (hc : lc ≤ maxLen) :
    Calls Try.prog 4 #[.slice a la ca, .slice b lb cb, .slice c lc cc] w fun e w' => e = .returned (.bool true) ∧ Below w.heap.size w w' := by
  unfold maxLen at *
  go_enter Try.func4, Try.ntmps4
  go_wp2_with (go_at_call 10; refine (bytes_no _ _ _ _ _ _ _ _ _ _ h ha hb hc).mono ?_; rintro e w' ⟨rfl, rfl⟩)
  go_ret
  exact ⟨rfl, Below.refl _ _⟩

set_option maxHeartbeats 400000 in
theorem quote (a b c : Option Addr) (la lc ca cb cc : Nat) (t : List Int) (w : World) (h : la + t.length + lc ≤ 1048576) (hs : Src w b cb t) (hm : mem t 34 = true) :
    Calls Try.prog 4 #[.slice a la ca, .slice b t.length cb, .slice c lc cc] w fun e w' => e = .returned (.bool true) ∧ Below w.heap.size w w' := by
  have HM := hide hm
  clear hm
  go_enter Try.func4, Try.ntmps4
  go_wp2_with fail
  refine (bytes_ok _ _ _ _ _ _ _ _ _ _ h).mono ?_
  rintro e w' ⟨rfl, rfl⟩
  go_wp2_with fail
  refine (has_any _ _ t 34 _ hs).mono ?_
  rintro e w' ⟨rfl, rfl⟩
  rw [unhide HM]
  go_wp2_with fail
  go_ret
  exact ⟨rfl, Below.refl _ _⟩

set_option maxHeartbeats 400000 in
theorem slash (a b c : Option Addr) (la lc ca cb cc : Nat) (t : List Int) (w : World) (h : la + t.length + lc ≤ 1048576) (hs : Src w b cb t) (hq : mem t 34 = false) (hm : mem t 92 = true) :
    Calls Try.prog 4 #[.slice a la ca, .slice b t.length cb, .slice c lc cc] w fun e w' => e = .returned (.bool true) ∧ Below w.heap.size w w' := by
  have HM := hide hm
  have HQ := hide hq
  clear hm hq
  go_enter Try.func4, Try.ntmps4
  go_wp2_with fail
  refine (bytes_ok _ _ _ _ _ _ _ _ _ _ h).mono ?_
  rintro e w' ⟨rfl, rfl⟩
  go_wp2_with fail
  refine (has_any _ _ t 34 _ hs).mono ?_
  rintro e w' ⟨rfl, rfl⟩
  rw [unhide HQ]
  go_wp2_with fail
  refine (has_any _ _ t 92 _ hs).mono ?_
  rintro e w' ⟨rfl, rfl⟩
  rw [unhide HM]
  go_wp2_with fail
  go_ret
  exact ⟨rfl, Below.refl _ _⟩

theorem row_cells {w : World} {g base N k : Nat} {p t r : List Int} (hown : w.ownsRow base 5 1 (.slice (some ⟨g, 0, none⟩) k N) k (p.map (Value.int .u8) ++ [Value.int .u8 34] ++ t.map (Value.int .u8) ++ [Value.int .u8 34] ++ r.map (Value.int .u8))) (hk : k = p.length + t.length + r.length + 2) :
    ∀ j, j < p.length + t.length + r.length + 2 → w.cell? ⟨g, j, none⟩ = some (.int .u8 ((p ++ 34 :: (t ++ 34 :: r)).getD j 0)) := by
  intro j hj
  rw [hown.cellAt j (by omega)]
  have e : p.map (Value.int .u8) ++ [Value.int .u8 34] ++ t.map (Value.int .u8) ++ [Value.int .u8 34] ++ r.map (Value.int .u8) = (p ++ 34 :: (t ++ 34 :: r)).map (Value.int .u8) := by simp
  rw [e]
  have hl : j < (p ++ 34 :: (t ++ 34 :: r)).length := by simp; omega
  simp only [List.getElem?_map, List.getElem?_eq_getElem hl, Option.map_some, List.getD, Option.getD_some]
theorem row_lt {w : World} {g base N k : Nat} {xs : List Value} (hown : w.ownsRow base 5 1 (.slice (some ⟨g, 0, none⟩) k N) k xs) (hp : 0 < k) : g < w.heap.size := by
  rcases hown.2 with ⟨h', _⟩ | ⟨g', cap', cur, h', _, hg, _, _, _, _⟩
  · cases h'
  · simp only [Value.slice.injEq, Option.some.injEq, Addr.mk.injEq, and_true, true_and] at h'
    obtain ⟨rfl, rfl⟩ := h'
    exact (Array.getElem?_eq_some_iff.1 hg).1
theorem one34 : ∀ u ∈ [Value.int .u8 34], u.oneCell' = true := by
  intro u hu
  simp at hu
  subst hu
  rfl

set_option maxHeartbeats 1000000 in
theorem main (a b c : Option Addr) (ca cb cc : Nat) (p t r : List Int) (w : World) (h : p.length + t.length + r.length ≤ 1048576) (sp : Src w a ca p) (st : Src w b cb t) (sr : Src w c cc r) (bt : Byt t) (hq : mem t 34 = false) (hm : mem t 92 = false) :
    Calls Try.prog 4 #[.slice a p.length ca, .slice b t.length cb, .slice c r.length cc] w fun e w' => e = .returned (.bool true) ∧ Below w.heap.size w w' := by
  have HM := hide hm
  have HQ := hide hq
  clear hm hq
  obtain ⟨i0, hi, hz0, hz1, hz2⟩ := info_parts Try.info5
  go_enter Try.func4, Try.ntmps4
  go_wp2_with fail
  refine (bytes_ok _ _ _ _ _ _ _ _ _ _ h).mono ?_
  rintro e w' ⟨rfl, rfl⟩
  go_wp2_with fail
  refine (has_any _ _ t 34 _ st).mono ?_
  rintro e w' ⟨rfl, rfl⟩
  rw [unhide HQ]
  go_wp2_with fail
  refine (has_any _ _ t 92 _ st).mono ?_
  rintro e w' ⟨rfl, rfl⟩
  rw [unhide HM]
  go_wp2_with fail
  refine (clone _ _ p _ sp).mono ?_
  rintro e w1 ⟨a1, ca1, rfl, sp1, hb1⟩
  have st1 := st.later hb1
  have sr1 := sr.later hb1
  go_wp2_with fail
  refine (clone _ _ t _ st1).mono ?_
  rintro e w2 ⟨b1, cb1, rfl, st2, hb2⟩
  have sr2 := sr1.later hb2
  have sp2 := sp1.later hb2
  go_wp2_with fail
  refine (clone _ _ r _ sr2).mono ?_
  rintro e w3 ⟨c1, cc1, rfl, sr3, hb3⟩
  have sp3 := sp2.later hb3
  have st3 := st2.later hb3
  have HB : Hid (Below w'.heap.size w' w3) := (hb1.trans (hb2.mono hb1.size)).trans (hb3.mono (Nat.le_trans hb1.size hb2.size))
  clear sp sp1 sp2 st st1 st2 sr sr1 sr2 hb1 hb2 hb3
  go_wp2_with (first
    | (at_make; refine wpList_make_own _ rfl _ _ 22 rfl w3.heap.size 5 i0 (.int .u8 0) 1 Try.underlying22 hi hz0 hz1 .i64 .i64 _ (p.length + t.length + r.length + 2) rfl rfl (by omega) (by rw [hz2]; omega) (by unfold maxLen; omega) (Nat.le_refl _) ?_; intro w4 hown4 hgrow4; have hb4 : Below w3.heap.size w3 w4 := (Below.refl _ _).grown hgrow4 (Nat.le_refl _) (fun k hk => by cases hk))
    | (at_builtin; refine wpList_append_fits_any _ rfl (.tmp 62) (.tmp 63) 22 rfl w3.heap.size 5 i0 1 Try.underlying22 hi hz1 w3.heap.size 0 (p.length + t.length + r.length + 2) [] rfl hown4 a1 p.length ca1 (p.map (Value.int .u8)) rfl (by simp) sp3.1 (sp3.later hb4).news (ints_oneCell _ _) (by omega) ?_; intro w5 hown5 hgrow5; simp only [Nat.zero_add, List.nil_append] at hown5; have hb5 : Below w3.heap.size w3 w5 := hb4.grown hgrow5 hb4.size (fun k hk => by cases hk; exact Nat.le_refl _))
    | (at_builtin; refine wpList_append_fits_any _ rfl (.tmp 65) (.tmp 66) 22 rfl w3.heap.size 5 i0 1 Try.underlying22 hi hz1 w3.heap.size p.length (p.length + t.length + r.length + 2) _ rfl (hown5.alloc _) (some ⟨w5.heap.size, 0, none⟩) 1 1 [Value.int .u8 34] rfl (by simp) (fun h => nomatch h) (one_new w5 _) one34 (by omega) ?_; intro w6 hown6 hgrow6; have hb6 : Below w3.heap.size w3 w6 := (hb5.alloc hb5.size _).grown hgrow6 (by have := hb5.size; simp; omega) (fun k hk => by cases hk; exact Nat.le_refl _))
    | (at_builtin; refine wpList_append_fits_any _ rfl (.tmp 68) (.tmp 69) 22 rfl w3.heap.size 5 i0 1 Try.underlying22 hi hz1 w3.heap.size (p.length + 1) (p.length + t.length + r.length + 2) _ rfl hown6 b1 t.length cb1 (t.map (Value.int .u8)) rfl (by simp) st3.1 (st3.later hb6).news (ints_oneCell _ _) (by omega) ?_; intro w7 hown7 hgrow7; have hb7 : Below w3.heap.size w3 w7 := hb6.grown hgrow7 hb6.size (fun k hk => by cases hk; exact Nat.le_refl _))
    | (at_builtin; refine wpList_append_fits_any _ rfl (.tmp 71) (.tmp 72) 22 rfl w3.heap.size 5 i0 1 Try.underlying22 hi hz1 w3.heap.size (p.length + 1 + t.length) (p.length + t.length + r.length + 2) _ rfl (hown7.alloc _) (some ⟨w7.heap.size, 0, none⟩) 1 1 [Value.int .u8 34] rfl (by simp) (fun h => nomatch h) (one_new w7 _) one34 (by omega) ?_; intro w8 hown8 hgrow8; have hb8 : Below w3.heap.size w3 w8 := (hb7.alloc hb7.size _).grown hgrow8 (by have := hb7.size; simp; omega) (fun k hk => by cases hk; exact Nat.le_refl _))
    | (at_builtin; refine wpList_append_fits_any _ rfl (.tmp 74) (.tmp 75) 22 rfl w3.heap.size 5 i0 1 Try.underlying22 hi hz1 w3.heap.size (p.length + 1 + t.length + 1) (p.length + t.length + r.length + 2) _ rfl hown8 c1 r.length cc1 (r.map (Value.int .u8)) rfl (by simp) sr3.1 (sr3.later hb8).news (ints_oneCell _ _) (by omega) ?_; intro w9 hown9 hgrow9; have hb9 : Below w3.heap.size w3 w9 := hb8.grown hgrow9 hb8.size (fun k hk => by cases hk; exact Nat.le_refl _)))
  have RC := hide (row_cells hown9 (by omega))
  have RL := row_lt hown9 (by omega)
  have ST := st3.later hb9
  have HB9 : Hid (Below w'.heap.size w' w9) := (unhide HB).trans (hb9.mono (unhide HB).size)
  clear hown4 hown5 hown6 hown7 hown8 hown9 hgrow4 hgrow5 hgrow6 hgrow7 hgrow8 hgrow9 hb4 hb5 hb6 hb7 hb8 hb9 HB sp3 st3 sr3
  rw [show p.length + 1 + t.length + 1 + r.length = p.length + t.length + r.length + 2 by omega]
  refine (zplain_row _ p t r _ h RL bt (unhide HQ) (unhide HM) (unhide RC)).mono ?_
  rintro e w10 ⟨rfl, hb10⟩
  have ST10 := ST.later hb10
  have SX : ∀ cap, Src w10 (some ⟨w3.heap.size, p.length + 1, none⟩) cap t := by
    intro cap
    refine ⟨(fun h => nomatch h), by omega, ?_⟩
    intro ad had i hi
    obtain rfl := Option.some.inj had
    refine cell_later hb10 ?_
    rw [Addr.add_lit, unhide RC _ (by omega)]
    simp only [List.getD]
    rw [List.getElem?_append_right (by omega), show p.length + 1 + i - p.length = i + 1 by omega, List.getElem?_cons_succ, List.getElem?_append_left hi]
  have HB10 : Hid (Below w'.heap.size w' w10) := (unhide HB9).trans (hb10.mono (unhide HB9).size)
  clear RC RL ST HB9 hb10
  have he : ((p.length : Int) + ((t.length : Int) + 2) == (p.length : Int) + (t.length : Int) + 2) = true := by
    rw [beq_iff_eq]; omega
  go_wp2_with fail
  refine (same _ _ _ _ t _ (SX _) ST10).mono ?_
  rintro e w11 ⟨rfl, n, rfl⟩
  go_wp2_with fail
  go_ret
  exact ⟨rfl, below_drewN (unhide HB10) n⟩

theorem byt_of_wf {zs : List Int} (h : ∀ n ∈ zs, (Lit.int .u8 n).wf = true) : Byt zs := fun z hz => bounds_u8 (h z hz)
end Go.Proofs.Qxb6600537a

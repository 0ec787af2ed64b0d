/-
  strings.Builder at this dump: copyCheck, WriteByte.
-/
import Derived.Test.Qxb6601408aDoorParse
import Derived.Lib.Builder
import Derived.Lib.Walk
import Derived.Laws.Externs
set_option linter.unusedSimpArgs false
set_option linter.unusedVariables false
namespace Go.Proofs.Qxb6601408aDoor
open Go.RowKit

theorem Tryd.info5 : (Tryd.prog.info? 5).map (fun i => (i.zero, i.size, i.bytes)) = some (some (.int .u8 0), 1, 1) := by kernel_rfl
theorem Tryd.size30 : (Tryd.prog.info? 30).map (·.size) = some 2 := by kernel_rfl

theorem bind_is {α β : Type} (x : Sem α) (f : α → Sem β) : x.bind f = x >>= f := rfl
theorem pure_is {α : Type} (x : α) : (Sem.pure x : Sem α) = pure x := rfl
theorem up (a : Addr) (w : World) {j : TypeInfo} {e : TypeId} {cells : Nat} (ht : Tryd.prog.info? 30 = some j) (hj : j.size ≠ 0) (hsh : w.shape? a.block = some (e, cells)) (hoff : a.off < cells) :
    (convert 28 46 (.pointer (some a))).run Tryd.prog w = .ok (.pointer (some a)) w := by
  simp [convert, run_underlying Tryd.underlying28, run_underlying Tryd.underlying46]
  conv =>
    lhs
    arg 2
    whnf
  simp [bind_is, pure_is, Sem.run, Tryd.underlying28, run_underlying Tryd.underlying46, Conv.seenAt, viewAt, cellsIn, hsh, sizeOf, typeInfo, ht, hj]
  intro h
  omega
theorem down (a : Addr) (w : World) {j : TypeInfo} {e : TypeId} {cells : Nat} (ht : Tryd.prog.info? 30 = some j) (hsh : w.shape? a.block = some (e, cells)) (hlies : liesAt Tryd.prog Tryd.prog.depth e (cells / Tryd.prog.cellsOf e) a.off 30 1 = true) :
    (convert 46 28 (.pointer (some a))).run Tryd.prog w = .ok (.pointer (some a)) w := by
  simp [convert, run_underlying Tryd.underlying28, run_underlying Tryd.underlying46]
  conv =>
    lhs
    arg 2
    whnf
  simp [bind_is, pure_is, Sem.run, Tryd.underlying46, run_underlying Tryd.underlying28, Conv.seenAt, viewAt, hsh, variablesAt, hlies, sizeOf, typeInfo, ht]

set_option maxHeartbeats 1000000 in
set_option maxRecDepth 100000 in
theorem check_used (b : Nat) (w : World) (h0 : w.cell? ⟨b, 0, none⟩ = some (.pointer (some ⟨b, 0, none⟩))) :
    Calls Tryd.prog 15 #[.pointer (some ⟨b, 0, none⟩)] w fun e w' => e = .returned (.tuple #[]) ∧ w' = w := by
  obtain ⟨j, hj, _⟩ := Option.map_eq_some_iff.1 Tryd.size30
  go_enter Tryd.func15, Tryd.ntmps15
  go_wp2
  rw [Lib.run_neq_ptr_same w _ Tryd.underlying28 hj]
  go_wp2
  go_end0
  exact ⟨rfl, rfl⟩

set_option maxHeartbeats 1000000 in
set_option maxRecDepth 100000 in
theorem check_fresh (b : Nat) (w : World) (h0 : w.cell? ⟨b, 0, none⟩ = some (.pointer none)) (hsh : w.shape? b = some (30, 2)) (hfz : w.frozen? ⟨b, 0, none⟩ = false) :
    Calls Tryd.prog 15 #[.pointer (some ⟨b, 0, none⟩)] w fun e w' => e = .returned (.tuple #[]) ∧ w' = w.setCell ⟨b, 0, none⟩ (.pointer (some ⟨b, 0, none⟩)) := by
  obtain ⟨j, hj, hjs⟩ := Option.map_eq_some_iff.1 Tryd.size30
  go_enter Tryd.func15, Tryd.ntmps15
  go_wp2
  rw [up ⟨b, 0, none⟩ w hj (by rw [hjs]; decide) hsh (Nat.zero_lt_succ 1)]
  simp only [Result.andThen]
  rw [Oper.upon_value]
  go_wp2
  rw [run_callFunc_extern Tryd.func23 (by kernel_rfl) (by kernel_rfl) (by kernel_rfl) (e := Extern.AbiNoEscape.same) (by kernel_rfl)]
  rw [Lib.run_noEscape]
  simp only [Result.andThen]
  rw [Oper.upon_value]
  go_wp2
  rw [down ⟨b, 0, none⟩ w hj hsh (by kernel_rfl)]
  simp only [Result.andThen]
  rw [Oper.upon_value]
  go_wp2
  go_end0
  exact ⟨rfl, rfl⟩

theorem check (B b : Nat) (bs : List Value) (w : World) (h : Lib.IsBuilder 30 5 B b bs w) :
    Calls Tryd.prog 15 #[.pointer (some ⟨b, 0, none⟩)] w fun e w' => e = .returned (.tuple #[]) ∧ (Lib.BuilderAt 30 5 B b (.pointer (some ⟨b, 0, none⟩)) bs w' ∧ Below B w w') := by
  rcases h with h | h
  · refine (check_fresh b w h.cell0 h.shape h.frozen0).mono ?_
    rintro e w' ⟨rfl, rfl⟩
    exact ⟨rfl, h.used _, (Below.refl B w).setCell (p := ⟨b, 0, none⟩) h.1 _⟩
  · refine (check_used b w h.cell0).mono ?_
    rintro e w' ⟨rfl, rfl⟩
    exact ⟨rfl, h, Below.refl B _⟩

set_option maxHeartbeats 2000000 in
set_option maxRecDepth 100000 in
/-- (*strings.Builder).WriteByte. -/
theorem write (B b : Nat) (bs : List Value) (c : Int) (w : World) (h : Lib.IsBuilder 30 5 B b bs w) (hlen : bs.length + 1 ≤ 140737488355328) (hBw : B ≤ w.heap.size) :
    Calls Tryd.prog 10 #[.pointer (some ⟨b, 0, none⟩), .int .u8 c] w fun e w' => e = .returned .nilIface ∧ (Lib.BuilderAt 30 5 B b (.pointer (some ⟨b, 0, none⟩)) (bs ++ [.int .u8 c]) w' ∧ Below B w w') := by
  obtain ⟨i0, hi, hz0, hz1, hz2⟩ := info_parts Tryd.info5
  go_enter Tryd.func10, Tryd.ntmps10
  go_wp2_with (go_at_call 15; refine (check B b bs _ h).mono ?_)
  rintro e w1 ⟨rfl, h1, hb1⟩
  obtain ⟨hB, v, hbk, hown, hne⟩ := h1
  have c0 : w1.cell? ⟨b, 0, none⟩ = some (.pointer (some ⟨b, 0, none⟩)) := by rw [Lib.cell_of_heap hbk]; rfl
  have c1 : w1.cell? ⟨b, 1, none⟩ = some v := by rw [Lib.cell_of_heap hbk]; rfl
  go_wp2_with (at_builtin; refine wpList_append_own _ rfl _ _ 23 rfl B 5 i0 (.int .u8 0) 1 1 Tryd.underlying23 hi hz0 hz1 hz2 rfl (by decide) _ _ _ rfl (hown.alloc _) ⟨w1.heap.size, 0, none⟩ 1 1 [.int .u8 c] rfl rfl ?c1 ?c2 ?c3 ?c4 ?c5 ?_)
  case c1 =>
    intro j u hj
    match j, hj with
    | 0, hj => simp at hj; subst hj; simp [Addr.add]
  case c2 => intro u hu; simp at hu; subst hu; rfl
  case c3 => unfold maxLen; omega
  case c4 => omega
  case c5 => have := hb1.size; simp; omega
  intro v' w2 hown' hgrow _
  have hlt : b < w1.heap.size := by
    rcases Nat.lt_or_ge b w1.heap.size with h' | h'
    · exact h'
    · simp [Array.getElem?_eq_none h'] at hbk
  have hb2 : w2.heap[b]? = some (.cells #[.pointer (some ⟨b, 0, none⟩), v] 30 (0, 0)) := by
    rw [hgrow.block b (by simp; omega) (fun e => hne e.symm), Lib.alloc_old w1 _ b hlt]
    exact hbk
  have d0 : w2.cell? ⟨b, 0, none⟩ = some (.pointer (some ⟨b, 0, none⟩)) := by rw [Lib.cell_of_heap hb2]; rfl
  have d1 : w2.cell? ⟨b, 1, none⟩ = some v := by rw [Lib.cell_of_heap hb2]; rfl
  have f1 : w2.frozen? ⟨b, 1, none⟩ = false := Lib.frozen_of_heap hb2 1
  obtain ⟨g, cap, rfl⟩ : ∃ g cap, v' = .slice (some ⟨g, 0, none⟩) (bs.length + 1) cap := by
    rcases hown'.2 with ⟨_, h0⟩ | ⟨g, cap, cur, hv, _⟩
    · omega
    · exact ⟨g, cap, hv⟩
  go_wp2
  go_ret
  refine ⟨rfl, ?_, ?_⟩
  · exact Lib.BuilderAt.put (T := 30) (e := 5) hB hb2 (bs' := bs ++ [.int .u8 c]) (by simpa using hown') (by decide)
  · exact ((hb1.alloc (by have := hb1.size; omega) _).grown hgrow (by have := hb1.size; simp; omega) (fun k hk => (hown.lt k hk).1)).setCell (p := ⟨b, 1, none⟩) hB _

/-- A builder stays what it is where whatever lay, lies. -/
theorem builder_later {B b : Nat} {p : Value} {bs : List Value} {w w' : World} (h : Lib.BuilderAt 30 5 B b p bs w) (hb : Below w.heap.size w w') : Lib.BuilderAt 30 5 B b p bs w' := by
  obtain ⟨hB, v, hbk, hown, hne⟩ := h
  refine ⟨hB, v, ?_, ⟨hown.1, ?_⟩, hne⟩
  · rw [hb.block b ((Array.getElem?_eq_some_iff.1 hbk).1)]
    exact hbk
  · rcases hown.2 with hn | ⟨g, cap, cur, hv, hg, hh, rest⟩
    · exact .inl hn
    · refine .inr ⟨g, cap, cur, hv, hg, ?_, rest⟩
      rw [hb.block g ((Array.getElem?_eq_some_iff.1 hh).1)]
      exact hh
theorem isBuilder_later {B b : Nat} {bs : List Value} {w w' : World} (h : Lib.IsBuilder 30 5 B b bs w) (hb : Below w.heap.size w w') : Lib.IsBuilder 30 5 B b bs w' := by
  rcases h with h | h
  · exact .inl (builder_later h hb)
  · exact .inr (builder_later h hb)
/-- var b strings.Builder. -/
theorem builder_new (w : World) : Lib.IsBuilder 30 5 w.heap.size w.heap.size [] (w.alloc (.cells #[.pointer none, .slice none 0 0] 30)) := by
  refine .inl ⟨Nat.le_refl _, .slice none 0 0, ?_, World.ownsRow_nil _ _ _ _, by simp [Value.ownBlock]⟩
  show (w.heap.push _)[w.heap.size]? = _
  simp
end Go.Proofs.Qxb6601408aDoor

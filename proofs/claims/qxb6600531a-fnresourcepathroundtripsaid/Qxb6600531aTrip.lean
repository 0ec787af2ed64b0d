/-
  FnResourcePathRoundTrip: the plain law and the walk.
-/
import Derived.Test.Qxb6600531aAgree
set_option linter.unusedSimpArgs false
set_option linter.unusedVariables false
namespace Go.Proofs.Qxb6600531a
open Go.RowKit Pl

namespace Pl
/-- What the law writes behind the namespace; behind the group. -/
def tl (r a s : List UInt8) : List UInt8 := r ++ ((if a = [] ∧ s = [] then [] else 47 :: a) ++ (if s = [] then [] else 47 :: s))
def tn (n r a s : List UInt8) : List UInt8 := if n = [] then tl r a s else nsp ++ (n ++ 47 :: tl r a s)

theorem tl_pre (r a s : List UInt8) (hr : has r = false) : pre (tl r a s) = r := by
  unfold tl
  by_cases hs : s = []
  · by_cases ha : a = []
    · simp [hs, ha, pre_none r hr]
    · simp only [hs, ha, false_and, if_false, if_true, List.append_nil]
      exact pre_app r a hr
  · simp only [hs, and_false, if_false]
    rw [List.cons_append]
    exact pre_app r _ hr
theorem tl_name (r a s : List UInt8) (hr : has r = false) (ha : has a = false) : pre (post (tl r a s)) = a := by
  unfold tl
  by_cases hs : s = []
  · by_cases ha' : a = []
    · simp only [hs, ha', true_and, if_true, List.append_nil, and_self]
      rw [post_none r hr]
      rfl
    · simp only [hs, ha', false_and, if_false, if_true, List.append_nil]
      rw [post_app r a hr, pre_none a ha]
  · simp only [hs, and_false, if_false]
    rw [List.cons_append, post_app r _ hr, pre_app a s ha]
theorem tl_sub (r a s : List UInt8) (hr : has r = false) (ha : has a = false) (hs : has s = false) : pre (post (post (tl r a s))) = s := by
  unfold tl
  by_cases hs' : s = []
  · by_cases ha' : a = []
    · simp only [hs', ha', true_and, if_true, List.append_nil, and_self]
      rw [post_none r hr]
      rfl
    · simp only [hs', ha', false_and, if_false, if_true, List.append_nil]
      rw [post_app r a hr, post_none a ha]
      rfl
  · simp only [hs', and_false, if_false]
    rw [List.cons_append, post_app r _ hr, post_app a s ha, pre_none s hs]

theorem nsp_is : nsp = nsw ++ [47] := rfl
theorem nsw_has : has nsw = false := rfl
theorem tl_no (r a s : List UInt8) (hr : has r = false) (h : r ≠ nsw) : nsp.isPrefixOf (tl r a s) = false := by
  cases e : nsp.isPrefixOf (tl r a s)
  · rfl
  · obtain ⟨t, ht⟩ := List.isPrefixOf_iff_prefix.1 e
    exfalso
    apply h
    have e1 := tl_pre r a s hr
    rw [← ht, nsp_is, List.append_assoc, List.singleton_append, pre_app nsw t nsw_has] at e1
    exact e1.symm
theorem tn_ns (n r a s : List UInt8) (hn : has n = false) (hr : has r = false) (h : ¬ (n = [] ∧ r = nsw)) : nsOf (tn n r a s) = n ∧ inOf (tn n r a s) = tl r a s := by
  unfold tn
  by_cases e : n = []
  · have p := tl_no r a s hr (fun hw => h ⟨e, hw⟩)
    simp only [e, if_true]
    simp [nsOf, inOf, p]
  · simp only [e, if_false]
    have p : nsp.isPrefixOf (nsp ++ (n ++ 47 :: tl r a s)) = true := List.isPrefixOf_iff_prefix.2 ⟨_, rfl⟩
    have d : (nsp ++ (n ++ 47 :: tl r a s)).drop 11 = n ++ 47 :: tl r a s := List.drop_left' rfl
    simp only [nsOf, inOf, p, if_true, d, has_app, pre_app n _ hn, post_app n _ hn, and_self]
theorem tl_len (r a s : List UInt8) : (tl r a s).length ≤ r.length + a.length + s.length + 2 := by
  unfold tl
  by_cases hs : s = [] <;> by_cases ha : a = [] <;> simp [hs, ha] <;> omega
theorem tn_len (n r a s : List UInt8) : (tn n r a s).length ≤ n.length + r.length + a.length + s.length + 14 := by
  have := tl_len r a s
  unfold tn
  by_cases hn : n = []
  · simp only [hn, if_true]; omega
  · simp only [hn, if_false, List.length_append, List.length_cons, show nsp.length = 11 from rfl]; omega
end Pl

theorem core9 (n r a s : List UInt8) (h : n.length + r.length + a.length + s.length ≤ 1048576) (hn : has n = false) (hr : has r = false) (ha : has a = false) (hs : has s = false) (r0 : r ≠ []) (nr : ¬ (n = [] ∧ r = nsw)) (w : World) :
    Calls Try.prog 9 #[.string (B (api ++ tn n r a s))] w fun e w' => e = .returned (.tuple #[attrs ⟨#[]⟩ (B n) (B r) (B a) (B s), .bool true]) ∧ ∃ c d n, w' = ((w.alloc (.cells c 25)).alloc (.cells d 25)).drewN n := by
  have c := rp_core (tn n r a s) w (by have := tn_len n r a s; omega)
  obtain ⟨e1, e2⟩ := tn_ns n r a s hn hr nr
  unfold resOf nameOf subOf at c
  rw [e1, e2, tl_pre r a s hr, tl_name r a s hr ha, tl_sub r a s hr ha hs] at c
  have e3 : (r != []) = true := by simpa using r0
  rw [e3] at c
  exact c
theorem group9 (g v n r a s : List UInt8) (h : g.length + v.length + n.length + r.length + a.length + s.length ≤ 1048576) (hg : has g = false) (hv : has v = false) (hn : has n = false) (hr : has r = false) (ha : has a = false) (hs : has s = false) (r0 : r ≠ []) (nr : ¬ (n = [] ∧ r = nsw)) (w : World) :
    Calls Try.prog 9 #[.string (B (apis ++ (g ++ 47 :: (v ++ 47 :: tn n r a s))))] w fun e w' => e = .returned (.tuple #[attrs (B g) (B n) (B r) (B a) (B s), .bool true]) ∧ ∃ c d n, w' = ((w.alloc (.cells c 25)).alloc (.cells d 25)).drewN n := by
  have c := rp_group (g ++ 47 :: (v ++ 47 :: tn n r a s)) (tn n r a s) w (by rw [post_app _ _ hg, post_app _ _ hv]) (by have := tn_len n r a s; simp; omega)
  obtain ⟨e1, e2⟩ := tn_ns n r a s hn hr nr
  unfold resOf nameOf subOf at c
  rw [e1, e2, tl_pre r a s hr, tl_name r a s hr ha, tl_sub r a s hr ha hs, pre_app _ _ hg] at c
  have e3 : (r != []) = true := by simpa using r0
  rw [e3] at c
  exact c

/-- The shim at a path that is spelt otherwise. -/
theorem shim_at (p q g n r a t : ByteArray) (w : World) (hp : p = q)
    (c : ∀ w, Calls Try.prog 9 #[.string q] w fun e w' => e = .returned (.tuple #[attrs g n r a t, .bool true]) ∧ ∃ c d n, w' = ((w.alloc (.cells c 25)).alloc (.cells d 25)).drewN n) :
    Calls Try.prog 7 #[.string p] w fun e w' => e = .returned (.tuple #[attrs g n r a t, .bool true]) ∧ ∃ b c d n, w' = (((w.alloc (.cells b 25)).alloc (.cells c 25)).alloc (.cells d 25)).drewN n := by
  rw [hp]
  exact shim q g n r a t true w c

theorem k47 : (⟨#[47]⟩ : ByteArray) = B [47] := rfl
theorem kapi : (⟨#[47, 97, 112, 105, 47, 118, 49, 47]⟩ : ByteArray) = B api := rfl
theorem kapis : (⟨#[47, 97, 112, 105, 115, 47]⟩ : ByteArray) = B apis := rfl
theorem knsp : (⟨#[110, 97, 109, 101, 115, 112, 97, 99, 101, 115, 47]⟩ : ByteArray) = B nsp := rfl
theorem isE1 {l : List UInt8} (h : (B l).toList.isEmpty = true) : l = [] := by rw [B_toList] at h; simpa using h
theorem isE0 {l : List UInt8} (h : (B l).toList.isEmpty = false) : l ≠ [] := by rw [B_toList] at h; simpa using h
theorem isE {l : List UInt8} {b : Bool} (h : (B l).toList.isEmpty = b) : l.isEmpty = b := by rw [B_toList] at h; exact h

section
attribute [local go_sem] alloc_drewN setCell_drewN
set_option maxHeartbeats 2000000 in
theorem trip_core (g v n r a s : List UInt8) (w : World) (h : g.length + v.length + n.length + r.length + a.length + s.length ≤ 1048576) (hg : has g = false) (hv : has v = false) (hn : has n = false) (hr : has r = false) (ha : has a = false) (hs : has s = false) (r0 : r ≠ []) (nr : ¬ (n = [] ∧ r = nsw)) :
    Calls Try.prog 3 #[.bool true, .string (B g), .string (B v), .string (B n), .string (B r), .string (B a), .string (B s)] w fun e w' => e = .returned (.bool true) ∧ Grown w w' := by
  have C := hide (core9 n r a s (by omega) hn hr ha hs r0 nr)
  have s1 := B_size g
  have s2 := B_size v
  have s3 := B_size n
  have s4 := B_size r
  have s5 := B_size a
  have s6 := B_size s
  have er : (B r).toList.isEmpty = false := by rw [B_toList]; simpa using r0
  have nr' : (B n).toList.isEmpty = true → ((B r).toList == [110, 97, 109, 101, 115, 112, 97, 99, 101, 115]) = false := by
    rw [B_toList, B_toList]
    intro e
    rw [beq_eq_false_iff_ne]
    exact fun hw => nr ⟨by simpa using e, hw⟩
  have HG := hide hg
  have HV := hide hv
  have HN := hide hn
  have HR := hide hr
  have HA := hide ha
  have HS := hide hs
  clear hg hv hn hr ha hs r0 nr
  go_enter Try.func3, Try.ntmps3
  go_wp2_with fail
  refine (bytes6_ok _ _ _ _ _ _ _ _ (by omega)).mono ?_
  rintro e w' ⟨rfl, rfl⟩
  go_wp2_with fail
  refine (slash (B g) _ (by omega)).mono ?_
  rintro e w' ⟨rfl, rfl⟩
  rw [B_data, unhide HG]
  go_wp2_with fail
  refine (slash (B v) _ (by omega)).mono ?_
  rintro e w' ⟨rfl, rfl⟩
  rw [B_data, unhide HV]
  go_wp2_with fail
  refine (slash (B n) _ (by omega)).mono ?_
  rintro e w' ⟨rfl, rfl⟩
  rw [B_data, unhide HN]
  go_wp2_with fail
  refine (slash (B r) _ (by omega)).mono ?_
  rintro e w' ⟨rfl, rfl⟩
  rw [B_data, unhide HR]
  go_wp2_with fail
  refine (slash (B a) _ (by omega)).mono ?_
  rintro e w' ⟨rfl, rfl⟩
  rw [B_data, unhide HA]
  go_wp2_with fail
  refine (slash (B s) _ (by omega)).mono ?_
  rintro e w' ⟨rfl, rfl⟩
  rw [B_data, unhide HS]
  clear HG HV HN HR HA HS
  cases en : (B n).toList.isEmpty <;> cases es : (B s).toList.isEmpty <;> cases ea : (B a).toList.isEmpty
  all_goals (simp only [en, true_implies, forall_const, Bool.false_eq_true, false_implies] at nr')
  all_goals go_wp2_with fail
  all_goals (refine (shim_at _ (B (api ++ tn n r a s)) _ _ _ _ _ _ (by
    first | have n0 := isE1 en | have n0 := isE0 en
    first | have a0 := isE1 ea | have a0 := isE0 ea
    first | have s0 := isE1 es | have s0 := isE0 es
    simp only [k47, kapi, kapis, knsp, B_add]
    simp [tn, tl, n0, a0, s0]) (unhide C)).mono ?_)
  all_goals (rintro e w1 ⟨rfl, p1, p2, p3, n1, rfl⟩)
  all_goals unfold attrs
  all_goals go_wp2_with fail
  all_goals go_ret
  all_goals (refine ⟨rfl, grown_drewN ?_ _⟩)
  all_goals (exact (((((Grown.refl _).alloc _ _).alloc _ _).alloc _ _).alloc _ _).alloc _ _)

set_option maxHeartbeats 2000000 in
theorem trip_group (g v n r a s : List UInt8) (w : World) (h : g.length + v.length + n.length + r.length + a.length + s.length ≤ 1048576) (hg : has g = false) (hv : has v = false) (hn : has n = false) (hr : has r = false) (ha : has a = false) (hs : has s = false) (r0 : r ≠ []) (nr : ¬ (n = [] ∧ r = nsw)) :
    Calls Try.prog 3 #[.bool false, .string (B g), .string (B v), .string (B n), .string (B r), .string (B a), .string (B s)] w fun e w' => e = .returned (.bool true) ∧ Grown w w' := by
  have C := hide (group9 g v n r a s h hg hv hn hr ha hs r0 nr)
  have s1 := B_size g
  have s2 := B_size v
  have s3 := B_size n
  have s4 := B_size r
  have s5 := B_size a
  have s6 := B_size s
  have er : (B r).toList.isEmpty = false := by rw [B_toList]; simpa using r0
  have nr' : (B n).toList.isEmpty = true → ((B r).toList == [110, 97, 109, 101, 115, 112, 97, 99, 101, 115]) = false := by
    rw [B_toList, B_toList]
    intro e
    rw [beq_eq_false_iff_ne]
    exact fun hw => nr ⟨by simpa using e, hw⟩
  have HG := hide hg
  have HV := hide hv
  have HN := hide hn
  have HR := hide hr
  have HA := hide ha
  have HS := hide hs
  clear hg hv hn hr ha hs r0 nr
  go_enter Try.func3, Try.ntmps3
  go_wp2_with fail
  refine (bytes6_ok _ _ _ _ _ _ _ _ (by omega)).mono ?_
  rintro e w' ⟨rfl, rfl⟩
  go_wp2_with fail
  refine (slash (B g) _ (by omega)).mono ?_
  rintro e w' ⟨rfl, rfl⟩
  rw [B_data, unhide HG]
  go_wp2_with fail
  refine (slash (B v) _ (by omega)).mono ?_
  rintro e w' ⟨rfl, rfl⟩
  rw [B_data, unhide HV]
  go_wp2_with fail
  refine (slash (B n) _ (by omega)).mono ?_
  rintro e w' ⟨rfl, rfl⟩
  rw [B_data, unhide HN]
  go_wp2_with fail
  refine (slash (B r) _ (by omega)).mono ?_
  rintro e w' ⟨rfl, rfl⟩
  rw [B_data, unhide HR]
  go_wp2_with fail
  refine (slash (B a) _ (by omega)).mono ?_
  rintro e w' ⟨rfl, rfl⟩
  rw [B_data, unhide HA]
  go_wp2_with fail
  refine (slash (B s) _ (by omega)).mono ?_
  rintro e w' ⟨rfl, rfl⟩
  rw [B_data, unhide HS]
  clear HG HV HN HR HA HS
  cases en : (B n).toList.isEmpty <;> cases es : (B s).toList.isEmpty <;> cases ea : (B a).toList.isEmpty
  all_goals (simp only [en, true_implies, forall_const, Bool.false_eq_true, false_implies] at nr')
  all_goals go_wp2_with fail
  all_goals (refine (shim_at _ (B (apis ++ (g ++ 47 :: (v ++ 47 :: tn n r a s)))) _ _ _ _ _ _ (by
    first | have n0 := isE1 en | have n0 := isE0 en
    first | have a0 := isE1 ea | have a0 := isE0 ea
    first | have s0 := isE1 es | have s0 := isE0 es
    simp only [k47, kapi, kapis, knsp, B_add]
    simp [tn, tl, n0, a0, s0]) (unhide C)).mono ?_)
  all_goals (rintro e w1 ⟨rfl, p1, p2, p3, n1, rfl⟩)
  all_goals unfold attrs
  all_goals go_wp2_with fail
  all_goals go_ret
  all_goals (refine ⟨rfl, grown_drewN ?_ _⟩)
  all_goals (exact (((((Grown.refl _).alloc _ _).alloc _ _).alloc _ _).alloc _ _).alloc _ _)

end
end Go.Proofs.Qxb6600531a

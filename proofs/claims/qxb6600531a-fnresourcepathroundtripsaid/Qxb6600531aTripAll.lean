/-
  FnResourcePathRoundTrip: the ways on which the law answers true by its own guards; the walk whole.
-/
import Derived.Test.Qxb6600531aTrip
set_option linter.unusedSimpArgs false
set_option linter.unusedVariables false
namespace Go.Proofs.Qxb6600531a
open Go.RowKit Pl

set_option maxHeartbeats 400000 in
theorem trip_long (x : Bool) (a b c d e f : ByteArray) (w : World) (h : ¬ a.size + b.size + c.size + d.size + e.size + f.size ≤ 1048576) (ha : a.size ≤ maxLen) (hb : b.size ≤ maxLen) (hc : c.size ≤ maxLen) (hd : d.size ≤ maxLen) (he : e.size ≤ maxLen) (hf : f.size ≤ maxLen) :
    Calls Try.prog 3 #[.bool x, .string a, .string b, .string c, .string d, .string e, .string f] w fun e w' => e = .returned (.bool true) ∧ Grown w w' := by
  unfold maxLen at *
  go_enter Try.func3, Try.ntmps3
  go_wp2_with (go_at_call 5; refine (bytes6_no _ _ _ _ _ _ _ _ h ha hb hc hd he hf).mono ?_; rintro e w' ⟨rfl, rfl⟩)
  go_ret
  exact ⟨rfl, Grown.refl _⟩

set_option maxHeartbeats 400000 in
theorem trip_slash0 (x : Bool) (g v n r a s : List UInt8) (w : World) (h : g.length + v.length + n.length + r.length + a.length + s.length ≤ 1048576) (hg : has g = true) :
    Calls Try.prog 3 #[.bool x, .string (B g), .string (B v), .string (B n), .string (B r), .string (B a), .string (B s)] w fun e w' => e = .returned (.bool true) ∧ Grown w w' := by
  have s1 := B_size g
  have s2 := B_size v
  have s3 := B_size n
  have s4 := B_size r
  have s5 := B_size a
  have s6 := B_size s
  have Hg := hide hg
  clear hg
  go_enter Try.func3, Try.ntmps3
  go_wp2_with fail
  refine (bytes6_ok _ _ _ _ _ _ _ _ (by omega)).mono ?_
  rintro e w' ⟨rfl, rfl⟩
  go_wp2_with fail
  refine (slash (B g) _ (by omega)).mono ?_
  rintro e w' ⟨rfl, rfl⟩
  rw [B_data, unhide Hg]
  go_wp2_with fail
  go_ret
  exact ⟨rfl, Grown.refl _⟩

set_option maxHeartbeats 400000 in
theorem trip_slash1 (x : Bool) (g v n r a s : List UInt8) (w : World) (h : g.length + v.length + n.length + r.length + a.length + s.length ≤ 1048576) (hg : has g = false) (hv : has v = true) :
    Calls Try.prog 3 #[.bool x, .string (B g), .string (B v), .string (B n), .string (B r), .string (B a), .string (B s)] w fun e w' => e = .returned (.bool true) ∧ Grown w w' := by
  have s1 := B_size g
  have s2 := B_size v
  have s3 := B_size n
  have s4 := B_size r
  have s5 := B_size a
  have s6 := B_size s
  have Hg := hide hg
  have Hv := hide hv
  clear hg hv
  go_enter Try.func3, Try.ntmps3
  go_wp2_with fail
  refine (bytes6_ok _ _ _ _ _ _ _ _ (by omega)).mono ?_
  rintro e w' ⟨rfl, rfl⟩
  go_wp2_with fail
  refine (slash (B g) _ (by omega)).mono ?_
  rintro e w' ⟨rfl, rfl⟩
  rw [B_data, unhide Hg]
  go_wp2_with fail
  refine (slash (B v) _ (by omega)).mono ?_
  rintro e w' ⟨rfl, rfl⟩
  rw [B_data, unhide Hv]
  go_wp2_with fail
  go_ret
  exact ⟨rfl, Grown.refl _⟩

set_option maxHeartbeats 400000 in
theorem trip_slash2 (x : Bool) (g v n r a s : List UInt8) (w : World) (h : g.length + v.length + n.length + r.length + a.length + s.length ≤ 1048576) (hg : has g = false) (hv : has v = false) (hn : has n = true) :
    Calls Try.prog 3 #[.bool x, .string (B g), .string (B v), .string (B n), .string (B r), .string (B a), .string (B s)] w fun e w' => e = .returned (.bool true) ∧ Grown w w' := by
  have s1 := B_size g
  have s2 := B_size v
  have s3 := B_size n
  have s4 := B_size r
  have s5 := B_size a
  have s6 := B_size s
  have Hg := hide hg
  have Hv := hide hv
  have Hn := hide hn
  clear hg hv hn
  go_enter Try.func3, Try.ntmps3
  go_wp2_with fail
  refine (bytes6_ok _ _ _ _ _ _ _ _ (by omega)).mono ?_
  rintro e w' ⟨rfl, rfl⟩
  go_wp2_with fail
  refine (slash (B g) _ (by omega)).mono ?_
  rintro e w' ⟨rfl, rfl⟩
  rw [B_data, unhide Hg]
  go_wp2_with fail
  refine (slash (B v) _ (by omega)).mono ?_
  rintro e w' ⟨rfl, rfl⟩
  rw [B_data, unhide Hv]
  go_wp2_with fail
  refine (slash (B n) _ (by omega)).mono ?_
  rintro e w' ⟨rfl, rfl⟩
  rw [B_data, unhide Hn]
  go_wp2_with fail
  go_ret
  exact ⟨rfl, Grown.refl _⟩

set_option maxHeartbeats 400000 in
theorem trip_slash3 (x : Bool) (g v n r a s : List UInt8) (w : World) (h : g.length + v.length + n.length + r.length + a.length + s.length ≤ 1048576) (hg : has g = false) (hv : has v = false) (hn : has n = false) (hr : has r = true) :
    Calls Try.prog 3 #[.bool x, .string (B g), .string (B v), .string (B n), .string (B r), .string (B a), .string (B s)] w fun e w' => e = .returned (.bool true) ∧ Grown w w' := by
  have s1 := B_size g
  have s2 := B_size v
  have s3 := B_size n
  have s4 := B_size r
  have s5 := B_size a
  have s6 := B_size s
  have Hg := hide hg
  have Hv := hide hv
  have Hn := hide hn
  have Hr := hide hr
  clear hg hv hn hr
  go_enter Try.func3, Try.ntmps3
  go_wp2_with fail
  refine (bytes6_ok _ _ _ _ _ _ _ _ (by omega)).mono ?_
  rintro e w' ⟨rfl, rfl⟩
  go_wp2_with fail
  refine (slash (B g) _ (by omega)).mono ?_
  rintro e w' ⟨rfl, rfl⟩
  rw [B_data, unhide Hg]
  go_wp2_with fail
  refine (slash (B v) _ (by omega)).mono ?_
  rintro e w' ⟨rfl, rfl⟩
  rw [B_data, unhide Hv]
  go_wp2_with fail
  refine (slash (B n) _ (by omega)).mono ?_
  rintro e w' ⟨rfl, rfl⟩
  rw [B_data, unhide Hn]
  go_wp2_with fail
  refine (slash (B r) _ (by omega)).mono ?_
  rintro e w' ⟨rfl, rfl⟩
  rw [B_data, unhide Hr]
  go_wp2_with fail
  go_ret
  exact ⟨rfl, Grown.refl _⟩

set_option maxHeartbeats 400000 in
theorem trip_slash4 (x : Bool) (g v n r a s : List UInt8) (w : World) (h : g.length + v.length + n.length + r.length + a.length + s.length ≤ 1048576) (hg : has g = false) (hv : has v = false) (hn : has n = false) (hr : has r = false) (ha : has a = true) :
    Calls Try.prog 3 #[.bool x, .string (B g), .string (B v), .string (B n), .string (B r), .string (B a), .string (B s)] w fun e w' => e = .returned (.bool true) ∧ Grown w w' := by
  have s1 := B_size g
  have s2 := B_size v
  have s3 := B_size n
  have s4 := B_size r
  have s5 := B_size a
  have s6 := B_size s
  have Hg := hide hg
  have Hv := hide hv
  have Hn := hide hn
  have Hr := hide hr
  have Ha := hide ha
  clear hg hv hn hr ha
  go_enter Try.func3, Try.ntmps3
  go_wp2_with fail
  refine (bytes6_ok _ _ _ _ _ _ _ _ (by omega)).mono ?_
  rintro e w' ⟨rfl, rfl⟩
  go_wp2_with fail
  refine (slash (B g) _ (by omega)).mono ?_
  rintro e w' ⟨rfl, rfl⟩
  rw [B_data, unhide Hg]
  go_wp2_with fail
  refine (slash (B v) _ (by omega)).mono ?_
  rintro e w' ⟨rfl, rfl⟩
  rw [B_data, unhide Hv]
  go_wp2_with fail
  refine (slash (B n) _ (by omega)).mono ?_
  rintro e w' ⟨rfl, rfl⟩
  rw [B_data, unhide Hn]
  go_wp2_with fail
  refine (slash (B r) _ (by omega)).mono ?_
  rintro e w' ⟨rfl, rfl⟩
  rw [B_data, unhide Hr]
  go_wp2_with fail
  refine (slash (B a) _ (by omega)).mono ?_
  rintro e w' ⟨rfl, rfl⟩
  rw [B_data, unhide Ha]
  go_wp2_with fail
  go_ret
  exact ⟨rfl, Grown.refl _⟩

set_option maxHeartbeats 400000 in
theorem trip_slash5 (x : Bool) (g v n r a s : List UInt8) (w : World) (h : g.length + v.length + n.length + r.length + a.length + s.length ≤ 1048576) (hg : has g = false) (hv : has v = false) (hn : has n = false) (hr : has r = false) (ha : has a = false) (hs : has s = true) :
    Calls Try.prog 3 #[.bool x, .string (B g), .string (B v), .string (B n), .string (B r), .string (B a), .string (B s)] w fun e w' => e = .returned (.bool true) ∧ Grown w w' := by
  have s1 := B_size g
  have s2 := B_size v
  have s3 := B_size n
  have s4 := B_size r
  have s5 := B_size a
  have s6 := B_size s
  have Hg := hide hg
  have Hv := hide hv
  have Hn := hide hn
  have Hr := hide hr
  have Ha := hide ha
  have Hs := hide hs
  clear hg hv hn hr ha hs
  go_enter Try.func3, Try.ntmps3
  go_wp2_with fail
  refine (bytes6_ok _ _ _ _ _ _ _ _ (by omega)).mono ?_
  rintro e w' ⟨rfl, rfl⟩
  go_wp2_with fail
  refine (slash (B g) _ (by omega)).mono ?_
  rintro e w' ⟨rfl, rfl⟩
  rw [B_data, unhide Hg]
  go_wp2_with fail
  refine (slash (B v) _ (by omega)).mono ?_
  rintro e w' ⟨rfl, rfl⟩
  rw [B_data, unhide Hv]
  go_wp2_with fail
  refine (slash (B n) _ (by omega)).mono ?_
  rintro e w' ⟨rfl, rfl⟩
  rw [B_data, unhide Hn]
  go_wp2_with fail
  refine (slash (B r) _ (by omega)).mono ?_
  rintro e w' ⟨rfl, rfl⟩
  rw [B_data, unhide Hr]
  go_wp2_with fail
  refine (slash (B a) _ (by omega)).mono ?_
  rintro e w' ⟨rfl, rfl⟩
  rw [B_data, unhide Ha]
  go_wp2_with fail
  refine (slash (B s) _ (by omega)).mono ?_
  rintro e w' ⟨rfl, rfl⟩
  rw [B_data, unhide Hs]
  go_wp2_with fail
  go_ret
  exact ⟨rfl, Grown.refl _⟩

set_option maxHeartbeats 400000 in
theorem trip_empty (x : Bool) (g v n r a s : List UInt8) (w : World) (h : g.length + v.length + n.length + r.length + a.length + s.length ≤ 1048576) (hg : has g = false) (hv : has v = false) (hn : has n = false) (hr : has r = false) (ha : has a = false) (hs : has s = false) (r0 : r = []) :
    Calls Try.prog 3 #[.bool x, .string (B g), .string (B v), .string (B n), .string (B r), .string (B a), .string (B s)] w fun e w' => e = .returned (.bool true) ∧ Grown w w' := by
  have s1 := B_size g
  have s2 := B_size v
  have s3 := B_size n
  have s4 := B_size r
  have s5 := B_size a
  have s6 := B_size s
  have er : (B r).toList.isEmpty = true := by rw [B_toList, r0]; rfl
  clear r0
  have Hg := hide hg
  have Hv := hide hv
  have Hn := hide hn
  have Hr := hide hr
  have Ha := hide ha
  have Hs := hide hs
  clear hg hv hn hr ha hs
  go_enter Try.func3, Try.ntmps3
  go_wp2_with fail
  refine (bytes6_ok _ _ _ _ _ _ _ _ (by omega)).mono ?_
  rintro e w' ⟨rfl, rfl⟩
  go_wp2_with fail
  refine (slash (B g) _ (by omega)).mono ?_
  rintro e w' ⟨rfl, rfl⟩
  rw [B_data, unhide Hg]
  go_wp2_with fail
  refine (slash (B v) _ (by omega)).mono ?_
  rintro e w' ⟨rfl, rfl⟩
  rw [B_data, unhide Hv]
  go_wp2_with fail
  refine (slash (B n) _ (by omega)).mono ?_
  rintro e w' ⟨rfl, rfl⟩
  rw [B_data, unhide Hn]
  go_wp2_with fail
  refine (slash (B r) _ (by omega)).mono ?_
  rintro e w' ⟨rfl, rfl⟩
  rw [B_data, unhide Hr]
  go_wp2_with fail
  refine (slash (B a) _ (by omega)).mono ?_
  rintro e w' ⟨rfl, rfl⟩
  rw [B_data, unhide Ha]
  go_wp2_with fail
  refine (slash (B s) _ (by omega)).mono ?_
  rintro e w' ⟨rfl, rfl⟩
  rw [B_data, unhide Hs]
  go_wp2_with fail
  go_ret
  exact ⟨rfl, Grown.refl _⟩

set_option maxHeartbeats 400000 in
theorem trip_names (x : Bool) (g v n r a s : List UInt8) (w : World) (h : g.length + v.length + n.length + r.length + a.length + s.length ≤ 1048576) (hg : has g = false) (hv : has v = false) (hn : has n = false) (hr : has r = false) (ha : has a = false) (hs : has s = false) (n0 : n = []) (r0 : r = nsw) :
    Calls Try.prog 3 #[.bool x, .string (B g), .string (B v), .string (B n), .string (B r), .string (B a), .string (B s)] w fun e w' => e = .returned (.bool true) ∧ Grown w w' := by
  have s1 := B_size g
  have s2 := B_size v
  have s3 := B_size n
  have s4 := B_size r
  have s5 := B_size a
  have s6 := B_size s
  have er : (B r).toList.isEmpty = false := by rw [B_toList, r0]; rfl
  have en : (B n).toList.isEmpty = true := by rw [B_toList, n0]; rfl
  have ew : ((B r).toList == [110, 97, 109, 101, 115, 112, 97, 99, 101, 115]) = true := by rw [B_toList, r0]; rfl
  clear r0 n0
  have Hg := hide hg
  have Hv := hide hv
  have Hn := hide hn
  have Hr := hide hr
  have Ha := hide ha
  have Hs := hide hs
  clear hg hv hn hr ha hs
  go_enter Try.func3, Try.ntmps3
  go_wp2_with fail
  refine (bytes6_ok _ _ _ _ _ _ _ _ (by omega)).mono ?_
  rintro e w' ⟨rfl, rfl⟩
  go_wp2_with fail
  refine (slash (B g) _ (by omega)).mono ?_
  rintro e w' ⟨rfl, rfl⟩
  rw [B_data, unhide Hg]
  go_wp2_with fail
  refine (slash (B v) _ (by omega)).mono ?_
  rintro e w' ⟨rfl, rfl⟩
  rw [B_data, unhide Hv]
  go_wp2_with fail
  refine (slash (B n) _ (by omega)).mono ?_
  rintro e w' ⟨rfl, rfl⟩
  rw [B_data, unhide Hn]
  go_wp2_with fail
  refine (slash (B r) _ (by omega)).mono ?_
  rintro e w' ⟨rfl, rfl⟩
  rw [B_data, unhide Hr]
  go_wp2_with fail
  refine (slash (B a) _ (by omega)).mono ?_
  rintro e w' ⟨rfl, rfl⟩
  rw [B_data, unhide Ha]
  go_wp2_with fail
  refine (slash (B s) _ (by omega)).mono ?_
  rintro e w' ⟨rfl, rfl⟩
  rw [B_data, unhide Hs]
  go_wp2_with fail
  go_ret
  exact ⟨rfl, Grown.refl _⟩

theorem trip_lists (x : Bool) (g v n r a s : List UInt8) (w : World) (h : g.length + v.length + n.length + r.length + a.length + s.length ≤ 1048576) :
    Calls Try.prog 3 #[.bool x, .string (B g), .string (B v), .string (B n), .string (B r), .string (B a), .string (B s)] w fun e w' => e = .returned (.bool true) ∧ Grown w w' := by
  cases hg : has g
  case true => exact trip_slash0 x g v n r a s w h hg
  cases hv : has v
  case true => exact trip_slash1 x g v n r a s w h hg hv
  cases hn : has n
  case true => exact trip_slash2 x g v n r a s w h hg hv hn
  cases hr : has r
  case true => exact trip_slash3 x g v n r a s w h hg hv hn hr
  cases ha : has a
  case true => exact trip_slash4 x g v n r a s w h hg hv hn hr ha
  cases hs : has s
  case true => exact trip_slash5 x g v n r a s w h hg hv hn hr ha hs
  by_cases r0 : r = []
  · exact trip_empty x g v n r a s w h hg hv hn hr ha hs r0
  · by_cases nr : n = [] ∧ r = nsw
    · exact trip_names x g v n r a s w h hg hv hn hr ha hs nr.1 nr.2
    · cases x
      · exact trip_group g v n r a s w h hg hv hn hr ha hs r0 nr
      · exact trip_core g v n r a s w h hg hv hn hr ha hs r0 nr

/-- THE WALK. -/
theorem trip (x : Bool) (a b c d e f : ByteArray) (ha : a.size ≤ maxLen) (hb : b.size ≤ maxLen) (hc : c.size ≤ maxLen) (hd : d.size ≤ maxLen) (he : e.size ≤ maxLen) (hf : f.size ≤ maxLen) (w : World) :
    Calls Try.prog 3 #[.bool x, .string a, .string b, .string c, .string d, .string e, .string f] w fun e w' => e = .returned (.bool true) ∧ Grown w w' := by
  by_cases h : a.size + b.size + c.size + d.size + e.size + f.size ≤ 1048576
  · have m := trip_lists x a.data.toList b.data.toList c.data.toList d.data.toList e.data.toList f.data.toList w (by rw [← Lib.size_eq, ← Lib.size_eq, ← Lib.size_eq, ← Lib.size_eq, ← Lib.size_eq, ← Lib.size_eq]; exact h)
    rw [← B_of, ← B_of, ← B_of, ← B_of, ← B_of, ← B_of] at m
    exact m
  · exact trip_long x a b c d e f w h ha hb hc hd he hf
end Go.Proofs.Qxb6600531a

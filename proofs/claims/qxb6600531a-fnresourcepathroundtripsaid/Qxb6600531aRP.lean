/-
  resourcePath, at the paths that the two laws hand it.
-/
import Derived.Test.Qxb6600531aLibs
import Derived.Handy
set_option linter.unusedSimpArgs false
set_option linter.unusedVariables false
namespace Go.Proofs.Qxb6600531a
open Go.RowKit Pl

theorem cp_api (r : List UInt8) (w : World) :
    Calls Try.prog 10 #[.string (B (api ++ r)), .string ⟨#[47, 97, 112, 105, 47, 118, 49, 47]⟩] w fun e w' => e = .returned (.tuple #[.string (B r), .bool true]) ∧ w' = w := cpl_hit api r w
theorem cp_api_no (r : List UInt8) (w : World) :
    Calls Try.prog 10 #[.string (B (apis ++ r)), .string ⟨#[47, 97, 112, 105, 47, 118, 49, 47]⟩] w fun e w' => e = .returned (.tuple #[.string (B (apis ++ r)), .bool false]) ∧ w' = w :=
  cpl_miss api (apis ++ r) w (by simp [api, apis, List.isPrefixOf])
theorem cp_apis (r : List UInt8) (w : World) :
    Calls Try.prog 10 #[.string (B (apis ++ r)), .string ⟨#[47, 97, 112, 105, 115, 47]⟩] w fun e w' => e = .returned (.tuple #[.string (B r), .bool true]) ∧ w' = w := cpl_hit apis r w
theorem cp_ns (r : List UInt8) (w : World) :
    Calls Try.prog 10 #[.string (B (nsp ++ r)), .string ⟨#[110, 97, 109, 101, 115, 112, 97, 99, 101, 115, 47]⟩] w fun e w' => e = .returned (.tuple #[.string (B r), .bool true]) ∧ w' = w := cpl_hit nsp r w
theorem cp_ns_no (r : List UInt8) (w : World) (h : nsp.isPrefixOf r = false) :
    Calls Try.prog 10 #[.string (B r), .string ⟨#[110, 97, 109, 101, 115, 112, 97, 99, 101, 115, 47]⟩] w fun e w' => e = .returned (.tuple #[.string (B r), .bool false]) ∧ w' = w := cpl_miss nsp r w h

theorem alloc_drewN (w : World) (n : Nat) (o : Obj) : (w.drewN n).alloc o = (w.alloc o).drewN n := rfl
theorem setCell_drewN (w : World) (n : Nat) (a : Addr) (v : Value) : (w.drewN n).setCell a v = (w.setCell a v).drewN n := rfl
theorem grown_drewN {W w : World} (h : Grown W w) (n : Nat) : Grown W (w.drewN n) := h
theorem ne_nil (l : List UInt8) : (!(B l).toList.isEmpty) = (l != []) := by
  rw [B_toList]
  cases l <;> rfl

/-- What resourcePath hands back. -/
def attrs (g n r a s : ByteArray) : Value := .agg #[.string ⟨#[]⟩, .string ⟨#[]⟩, .bool false, .string g, .string n, .string r, .string a, .string s]

section
attribute [local go_sem] alloc_drewN setCell_drewN

set_option maxHeartbeats 800000 in
theorem rp_core_no (q : List UInt8) (w : World) (h : nsp.isPrefixOf q = false) (hm : q.length ≤ 9223372036854775807) :
    Calls Try.prog 9 #[.string (B (api ++ q))] w fun e w' => e = .returned (.tuple #[attrs ⟨#[]⟩ ⟨#[]⟩ (B (pre q)) (B (pre (post q))) (B (pre (post (post q)))), .bool (pre q != [])]) ∧ ∃ c d n, w' = ((w.alloc (.cells c 25)).alloc (.cells d 25)).drewN n := by
  have h1 := post_le q
  have h2 := post_le (post q)
  have H := hide h
  clear h
  have b0 : q.length ≤ 9223372036854775807 := by omega
  have b1 : q.length ≤ 9223372036854775807 := by omega
  have b2 : (post q).length ≤ 9223372036854775807 := by omega
  have b3 : (post (post q)).length ≤ 9223372036854775807 := by omega
  have B0 := hide b0
  have B1 := hide b1
  have B2 := hide b2
  have B3 := hide b3
  clear b0 b1 b2 b3 h1 h2 hm
  go_enter Try.func9, Try.ntmps9
  go_wp2_with fail
  refine (cp_api q _).mono ?_
  rintro e w1 ⟨rfl, rfl⟩
  go_wp2_with fail
  refine (cp_ns_no q _ (unhide H)).mono ?_
  rintro e w1 ⟨rfl, rfl⟩
  go_wp2_with fail
  refine (cut q _ (unhide B1)).mono ?_
  rintro e w1 ⟨rfl, n1, rfl⟩
  go_wp2_with fail
  refine (cut (post q) _ (unhide B2)).mono ?_
  rintro e w1 ⟨rfl, n2, rfl⟩
  go_wp2_with fail
  refine (cut (post (post q)) _ (unhide B3)).mono ?_
  rintro e w1 ⟨rfl, n3, rfl⟩
  go_wp2
  go_region
  all_goals go_wp2
  all_goals (refine bodyPost_ret (v := .tuple #[attrs ⟨#[]⟩ ⟨#[]⟩ (B (pre q)) (B (pre (post q))) (B (pre (post (post q)))), .bool (pre q != [])]) (by simp [results, Try.results9, go_sem, attrs, ne_nil]) rfl ⟨rfl, ?_⟩)
  all_goals exact ⟨_, _, _, rfl⟩

set_option maxHeartbeats 800000 in
theorem rp_core_in (t : List UInt8) (w : World) (h : has t = true) (hm : (nsp ++ t).length ≤ 9223372036854775807) :
    Calls Try.prog 9 #[.string (B (api ++ (nsp ++ t)))] w fun e w' => e = .returned (.tuple #[attrs ⟨#[]⟩ (B (pre t)) (B (pre (post t))) (B (pre (post (post t)))) (B (pre (post (post (post t))))), .bool (pre (post t) != [])]) ∧ ∃ c d n, w' = ((w.alloc (.cells c 25)).alloc (.cells d 25)).drewN n := by
  have h1 := post_le (post t)
  have h2 := post_le (post (post t))
  have h3 := post_le t
  have h4 : t.length ≤ (nsp ++ t).length := by simp
  have H := hide h
  clear h
  have b0 : (nsp ++ t).length ≤ 9223372036854775807 := by omega
  have b1 : (post t).length ≤ 9223372036854775807 := by omega
  have b2 : (post (post t)).length ≤ 9223372036854775807 := by omega
  have b3 : (post (post (post t))).length ≤ 9223372036854775807 := by omega
  have b4 : t.length ≤ 9223372036854775807 := by omega
  have B0 := hide b0
  have B1 := hide b1
  have B2 := hide b2
  have B3 := hide b3
  have B4 := hide b4
  clear b0 b1 b2 b3 b4 h1 h2 hm h3 h4
  go_enter Try.func9, Try.ntmps9
  go_wp2_with fail
  refine (cp_api (nsp ++ t) _).mono ?_
  rintro e w1 ⟨rfl, rfl⟩
  go_wp2_with fail
  refine (cp_ns t _).mono ?_
  rintro e w1 ⟨rfl, rfl⟩
  go_wp2_with fail
  refine (cut t _ (unhide B4)).mono ?_
  rintro e w1 ⟨rfl, n1, rfl⟩
  rw [unhide H]
  go_wp2_with fail
  refine (cut (post t) _ (unhide B1)).mono ?_
  rintro e w1 ⟨rfl, n2, rfl⟩
  go_wp2_with fail
  refine (cut (post (post t)) _ (unhide B2)).mono ?_
  rintro e w1 ⟨rfl, n3, rfl⟩
  go_wp2_with fail
  refine (cut (post (post (post t))) _ (unhide B3)).mono ?_
  rintro e w1 ⟨rfl, n4, rfl⟩
  go_wp2
  go_region
  all_goals go_wp2
  all_goals (refine bodyPost_ret (v := .tuple #[attrs ⟨#[]⟩ (B (pre t)) (B (pre (post t))) (B (pre (post (post t)))) (B (pre (post (post (post t))))), .bool (pre (post t) != [])]) (by simp [results, Try.results9, go_sem, attrs, ne_nil]) rfl ⟨rfl, ?_⟩)
  all_goals exact ⟨_, _, _, rfl⟩

set_option maxHeartbeats 800000 in
theorem rp_core_end (t : List UInt8) (w : World) (h : has t = false) (hm : (nsp ++ t).length ≤ 9223372036854775807) :
    Calls Try.prog 9 #[.string (B (api ++ (nsp ++ t)))] w fun e w' => e = .returned (.tuple #[attrs ⟨#[]⟩ (B (pre t)) (B (pre (nsp ++ t))) (B (pre (post (nsp ++ t)))) (B (pre (post (post (nsp ++ t))))), .bool (pre (nsp ++ t) != [])]) ∧ ∃ c d n, w' = ((w.alloc (.cells c 25)).alloc (.cells d 25)).drewN n := by
  have h1 := post_le (nsp ++ t)
  have h2 := post_le (post (nsp ++ t))
  have h3 := post_le t
  have h4 : t.length ≤ (nsp ++ t).length := by simp
  have H := hide h
  clear h
  have b0 : (nsp ++ t).length ≤ 9223372036854775807 := by omega
  have b1 : (nsp ++ t).length ≤ 9223372036854775807 := by omega
  have b2 : (post (nsp ++ t)).length ≤ 9223372036854775807 := by omega
  have b3 : (post (post (nsp ++ t))).length ≤ 9223372036854775807 := by omega
  have b4 : t.length ≤ 9223372036854775807 := by omega
  have B0 := hide b0
  have B1 := hide b1
  have B2 := hide b2
  have B3 := hide b3
  have B4 := hide b4
  clear b0 b1 b2 b3 b4 h1 h2 hm h3 h4
  go_enter Try.func9, Try.ntmps9
  go_wp2_with fail
  refine (cp_api (nsp ++ t) _).mono ?_
  rintro e w1 ⟨rfl, rfl⟩
  go_wp2_with fail
  refine (cp_ns t _).mono ?_
  rintro e w1 ⟨rfl, rfl⟩
  go_wp2_with fail
  refine (cut t _ (unhide B4)).mono ?_
  rintro e w1 ⟨rfl, n1, rfl⟩
  rw [unhide H]
  go_wp2_with fail
  refine (cut (nsp ++ t) _ (unhide B1)).mono ?_
  rintro e w1 ⟨rfl, n2, rfl⟩
  go_wp2_with fail
  refine (cut (post (nsp ++ t)) _ (unhide B2)).mono ?_
  rintro e w1 ⟨rfl, n3, rfl⟩
  go_wp2_with fail
  refine (cut (post (post (nsp ++ t))) _ (unhide B3)).mono ?_
  rintro e w1 ⟨rfl, n4, rfl⟩
  go_wp2
  go_region
  all_goals go_wp2
  all_goals (refine bodyPost_ret (v := .tuple #[attrs ⟨#[]⟩ (B (pre t)) (B (pre (nsp ++ t))) (B (pre (post (nsp ++ t)))) (B (pre (post (post (nsp ++ t))))), .bool (pre (nsp ++ t) != [])]) (by simp [results, Try.results9, go_sem, attrs, ne_nil]) rfl ⟨rfl, ?_⟩)
  all_goals exact ⟨_, _, _, rfl⟩

set_option maxHeartbeats 800000 in
theorem rp_group_no (r q : List UInt8) (w : World) (hr : post (post r) = q) (h : nsp.isPrefixOf q = false) (hm : r.length ≤ 9223372036854775807) :
    Calls Try.prog 9 #[.string (B (apis ++ r))] w fun e w' => e = .returned (.tuple #[attrs (B (pre r)) ⟨#[]⟩ (B (pre q)) (B (pre (post q))) (B (pre (post (post q)))), .bool (pre q != [])]) ∧ ∃ c d n, w' = ((w.alloc (.cells c 25)).alloc (.cells d 25)).drewN n := by
  have g1 := post_le r
  have g2 := post_le (post r)
  rw [hr] at g2
  have h1 := post_le q
  have h2 := post_le (post q)
  have HR := hide hr
  clear hr
  have H := hide h
  clear h
  have b0 : q.length ≤ 9223372036854775807 := by omega
  have b1 : q.length ≤ 9223372036854775807 := by omega
  have b2 : (post q).length ≤ 9223372036854775807 := by omega
  have b3 : (post (post q)).length ≤ 9223372036854775807 := by omega
  have b5 : (post r).length ≤ 9223372036854775807 := by omega
  have B0 := hide b0
  have B1 := hide b1
  have B2 := hide b2
  have B3 := hide b3
  have B5 := hide b5
  have BM := hide hm
  clear b0 b1 b2 b3 b5 h1 h2 hm g1 g2
  go_enter Try.func9, Try.ntmps9
  go_wp2_with fail
  refine (cp_api_no r _).mono ?_
  rintro e w1 ⟨rfl, rfl⟩
  go_wp2_with fail
  refine (cp_apis r _).mono ?_
  rintro e w1 ⟨rfl, rfl⟩
  go_wp2_with fail
  refine (cut r _ (unhide BM)).mono ?_
  rintro e w1 ⟨rfl, n1, rfl⟩
  go_wp2_with fail
  refine (cut (post r) _ (unhide B5)).mono ?_
  rintro e w1 ⟨rfl, n2, rfl⟩
  rw [unhide HR]
  go_wp2_with fail
  refine (cp_ns_no q _ (unhide H)).mono ?_
  rintro e w1 ⟨rfl, rfl⟩
  go_wp2_with fail
  refine (cut q _ (unhide B1)).mono ?_
  rintro e w1 ⟨rfl, n3, rfl⟩
  go_wp2_with fail
  refine (cut (post q) _ (unhide B2)).mono ?_
  rintro e w1 ⟨rfl, n4, rfl⟩
  go_wp2_with fail
  refine (cut (post (post q)) _ (unhide B3)).mono ?_
  rintro e w1 ⟨rfl, n5, rfl⟩
  go_wp2
  go_region
  all_goals go_wp2
  all_goals (refine bodyPost_ret (v := .tuple #[attrs (B (pre r)) ⟨#[]⟩ (B (pre q)) (B (pre (post q))) (B (pre (post (post q)))), .bool (pre q != [])]) (by simp [results, Try.results9, go_sem, attrs, ne_nil]) rfl ⟨rfl, ?_⟩)
  all_goals exact ⟨_, _, _, rfl⟩

set_option maxHeartbeats 800000 in
theorem rp_group_in (r t : List UInt8) (w : World) (hr : post (post r) = (nsp ++ t)) (h : has t = true) (hm : r.length ≤ 9223372036854775807) :
    Calls Try.prog 9 #[.string (B (apis ++ r))] w fun e w' => e = .returned (.tuple #[attrs (B (pre r)) (B (pre t)) (B (pre (post t))) (B (pre (post (post t)))) (B (pre (post (post (post t))))), .bool (pre (post t) != [])]) ∧ ∃ c d n, w' = ((w.alloc (.cells c 25)).alloc (.cells d 25)).drewN n := by
  have g1 := post_le r
  have g2 := post_le (post r)
  rw [hr] at g2
  have h1 := post_le (post t)
  have h2 := post_le (post (post t))
  have h3 := post_le t
  have h4 : t.length ≤ (nsp ++ t).length := by simp
  have HR := hide hr
  clear hr
  have H := hide h
  clear h
  have b0 : (nsp ++ t).length ≤ 9223372036854775807 := by omega
  have b1 : (post t).length ≤ 9223372036854775807 := by omega
  have b2 : (post (post t)).length ≤ 9223372036854775807 := by omega
  have b3 : (post (post (post t))).length ≤ 9223372036854775807 := by omega
  have b4 : t.length ≤ 9223372036854775807 := by omega
  have b5 : (post r).length ≤ 9223372036854775807 := by omega
  have B0 := hide b0
  have B1 := hide b1
  have B2 := hide b2
  have B3 := hide b3
  have B4 := hide b4
  have B5 := hide b5
  have BM := hide hm
  clear b0 b1 b2 b3 b4 b5 h1 h2 hm g1 g2 h3 h4
  go_enter Try.func9, Try.ntmps9
  go_wp2_with fail
  refine (cp_api_no r _).mono ?_
  rintro e w1 ⟨rfl, rfl⟩
  go_wp2_with fail
  refine (cp_apis r _).mono ?_
  rintro e w1 ⟨rfl, rfl⟩
  go_wp2_with fail
  refine (cut r _ (unhide BM)).mono ?_
  rintro e w1 ⟨rfl, n1, rfl⟩
  go_wp2_with fail
  refine (cut (post r) _ (unhide B5)).mono ?_
  rintro e w1 ⟨rfl, n2, rfl⟩
  rw [unhide HR]
  go_wp2_with fail
  refine (cp_ns t _).mono ?_
  rintro e w1 ⟨rfl, rfl⟩
  go_wp2_with fail
  refine (cut t _ (unhide B4)).mono ?_
  rintro e w1 ⟨rfl, n3, rfl⟩
  rw [unhide H]
  go_wp2_with fail
  refine (cut (post t) _ (unhide B1)).mono ?_
  rintro e w1 ⟨rfl, n4, rfl⟩
  go_wp2_with fail
  refine (cut (post (post t)) _ (unhide B2)).mono ?_
  rintro e w1 ⟨rfl, n5, rfl⟩
  go_wp2_with fail
  refine (cut (post (post (post t))) _ (unhide B3)).mono ?_
  rintro e w1 ⟨rfl, n6, rfl⟩
  go_wp2
  go_region
  all_goals go_wp2
  all_goals (refine bodyPost_ret (v := .tuple #[attrs (B (pre r)) (B (pre t)) (B (pre (post t))) (B (pre (post (post t)))) (B (pre (post (post (post t))))), .bool (pre (post t) != [])]) (by simp [results, Try.results9, go_sem, attrs, ne_nil]) rfl ⟨rfl, ?_⟩)
  all_goals exact ⟨_, _, _, rfl⟩

set_option maxHeartbeats 800000 in
theorem rp_group_end (r t : List UInt8) (w : World) (hr : post (post r) = (nsp ++ t)) (h : has t = false) (hm : r.length ≤ 9223372036854775807) :
    Calls Try.prog 9 #[.string (B (apis ++ r))] w fun e w' => e = .returned (.tuple #[attrs (B (pre r)) (B (pre t)) (B (pre (nsp ++ t))) (B (pre (post (nsp ++ t)))) (B (pre (post (post (nsp ++ t))))), .bool (pre (nsp ++ t) != [])]) ∧ ∃ c d n, w' = ((w.alloc (.cells c 25)).alloc (.cells d 25)).drewN n := by
  have g1 := post_le r
  have g2 := post_le (post r)
  rw [hr] at g2
  have h1 := post_le (nsp ++ t)
  have h2 := post_le (post (nsp ++ t))
  have h3 := post_le t
  have h4 : t.length ≤ (nsp ++ t).length := by simp
  have HR := hide hr
  clear hr
  have H := hide h
  clear h
  have b0 : (nsp ++ t).length ≤ 9223372036854775807 := by omega
  have b1 : (nsp ++ t).length ≤ 9223372036854775807 := by omega
  have b2 : (post (nsp ++ t)).length ≤ 9223372036854775807 := by omega
  have b3 : (post (post (nsp ++ t))).length ≤ 9223372036854775807 := by omega
  have b4 : t.length ≤ 9223372036854775807 := by omega
  have b5 : (post r).length ≤ 9223372036854775807 := by omega
  have B0 := hide b0
  have B1 := hide b1
  have B2 := hide b2
  have B3 := hide b3
  have B4 := hide b4
  have B5 := hide b5
  have BM := hide hm
  clear b0 b1 b2 b3 b4 b5 h1 h2 hm g1 g2 h3 h4
  go_enter Try.func9, Try.ntmps9
  go_wp2_with fail
  refine (cp_api_no r _).mono ?_
  rintro e w1 ⟨rfl, rfl⟩
  go_wp2_with fail
  refine (cp_apis r _).mono ?_
  rintro e w1 ⟨rfl, rfl⟩
  go_wp2_with fail
  refine (cut r _ (unhide BM)).mono ?_
  rintro e w1 ⟨rfl, n1, rfl⟩
  go_wp2_with fail
  refine (cut (post r) _ (unhide B5)).mono ?_
  rintro e w1 ⟨rfl, n2, rfl⟩
  rw [unhide HR]
  go_wp2_with fail
  refine (cp_ns t _).mono ?_
  rintro e w1 ⟨rfl, rfl⟩
  go_wp2_with fail
  refine (cut t _ (unhide B4)).mono ?_
  rintro e w1 ⟨rfl, n3, rfl⟩
  rw [unhide H]
  go_wp2_with fail
  refine (cut (nsp ++ t) _ (unhide B1)).mono ?_
  rintro e w1 ⟨rfl, n4, rfl⟩
  go_wp2_with fail
  refine (cut (post (nsp ++ t)) _ (unhide B2)).mono ?_
  rintro e w1 ⟨rfl, n5, rfl⟩
  go_wp2_with fail
  refine (cut (post (post (nsp ++ t))) _ (unhide B3)).mono ?_
  rintro e w1 ⟨rfl, n6, rfl⟩
  go_wp2
  go_region
  all_goals go_wp2
  all_goals (refine bodyPost_ret (v := .tuple #[attrs (B (pre r)) (B (pre t)) (B (pre (nsp ++ t))) (B (pre (post (nsp ++ t)))) (B (pre (post (post (nsp ++ t))))), .bool (pre (nsp ++ t) != [])]) (by simp [results, Try.results9, go_sem, attrs, ne_nil]) rfl ⟨rfl, ?_⟩)
  all_goals exact ⟨_, _, _, rfl⟩

end

/-- resourcePath below /api/v1/. -/
theorem rp_core (r : List UInt8) (w : World) (hm : r.length ≤ 9223372036854775807) :
    Calls Try.prog 9 #[.string (B (api ++ r))] w fun e w' => e = .returned (.tuple #[attrs ⟨#[]⟩ (B (nsOf r)) (B (resOf r)) (B (nameOf r)) (B (subOf r)), .bool (resOf r != [])]) ∧ ∃ c d n, w' = ((w.alloc (.cells c 25)).alloc (.cells d 25)).drewN n := by
  unfold nameOf subOf resOf
  cases h : nsp.isPrefixOf r
  · rw [show nsOf r = [] by simp [nsOf, h], show inOf r = r by simp [inOf, h]]
    exact rp_core_no r w h hm
  · have e := isPre h
    rw [show nsp.length = 11 from rfl] at e
    cases h2 : has (r.drop 11)
    · rw [show nsOf r = pre (r.drop 11) by simp [nsOf, h], show inOf r = nsp ++ r.drop 11 by rw [← e]; simp [inOf, h, h2]]
      have c := rp_core_end (r.drop 11) w h2 (by rw [← e]; exact hm)
      rw [← e] at c ⊢
      exact c
    · rw [show nsOf r = pre (r.drop 11) by simp [nsOf, h], show inOf r = post (r.drop 11) by simp [inOf, h, h2]]
      have c := rp_core_in (r.drop 11) w h2 (by rw [← e]; exact hm)
      rw [← e] at c
      exact c

/-- resourcePath below /apis/. -/
theorem rp_group (p r : List UInt8) (w : World) (hr : post (post p) = r) (hm : p.length ≤ 9223372036854775807) :
    Calls Try.prog 9 #[.string (B (apis ++ p))] w fun e w' => e = .returned (.tuple #[attrs (B (pre p)) (B (nsOf r)) (B (resOf r)) (B (nameOf r)) (B (subOf r)), .bool (resOf r != [])]) ∧ ∃ c d n, w' = ((w.alloc (.cells c 25)).alloc (.cells d 25)).drewN n := by
  unfold nameOf subOf resOf
  cases h : nsp.isPrefixOf r
  · rw [show nsOf r = [] by simp [nsOf, h], show inOf r = r by simp [inOf, h]]
    exact rp_group_no p r w hr h hm
  · have e := isPre h
    rw [show nsp.length = 11 from rfl] at e
    cases h2 : has (r.drop 11)
    · rw [show nsOf r = pre (r.drop 11) by simp [nsOf, h], show inOf r = nsp ++ r.drop 11 by rw [← e]; simp [inOf, h, h2]]
      exact rp_group_end p (r.drop 11) w (by rw [hr]; exact e) h2 hm
    · rw [show nsOf r = pre (r.drop 11) by simp [nsOf, h], show inOf r = post (r.drop 11) by simp [inOf, h, h2]]
      exact rp_group_in p (r.drop 11) w (by rw [hr]; exact e) h2 hm
end Go.Proofs.Qxb6600531a

/-
  PLAIN: what strings.CutPrefix and strings.Cut at a slash do, on lists of bytes; what resourcePath reads off a path.
-/
import Derived.Lib.Strings
set_option linter.unusedSimpArgs false
set_option linter.unusedVariables false
namespace Go.Proofs.Qxb6600531a.Pl

/-- A list of bytes as a string. -/
def B (l : List UInt8) : ByteArray := ⟨l.toArray⟩
theorem B_data (l : List UInt8) : (B l).data.toList = l := rfl
theorem B_toList (l : List UInt8) : (B l).toList = l := by rw [Go.Lib.toList_data]; rfl
theorem B_size (l : List UInt8) : (B l).size = l.length := by
  show (l.toArray).size = l.length
  simp
theorem B_of (s : ByteArray) : s = B s.data.toList := by
  obtain ⟨⟨l⟩⟩ := s
  rfl
theorem B_inj {a b : List UInt8} (h : B a = B b) : a = b := by
  have := congrArg (fun s : ByteArray => s.data.toList) h
  simpa [B_data] using this

/-- What lies before the first slash; what lies behind it; whether there is one. -/
def pre (l : List UInt8) : List UInt8 := l.takeWhile (fun b => b != 47)
def post (l : List UInt8) : List UInt8 := (l.dropWhile (fun b => b != 47)).drop 1
def has (l : List UInt8) : Bool := l.any (fun b => b == 47)

theorem has_nil : has [] = false := rfl
theorem has_cons (b : UInt8) (l : List UInt8) : has (b :: l) = (b == 47 || has l) := rfl

theorem pre_app (a b : List UInt8) (h : has a = false) : pre (a ++ 47 :: b) = a := by
  induction a with
  | nil => simp [pre]
  | cons c a ih =>
    rw [has_cons] at h
    simp only [Bool.or_eq_false_iff] at h
    have hc : (c != 47) = true := by simp [bne, h.1]
    have ih' : List.takeWhile (fun b => b != 47) (a ++ 47 :: b) = a := ih h.2
    simp [pre, List.takeWhile_cons, hc, ih']
theorem post_app (a b : List UInt8) (h : has a = false) : post (a ++ 47 :: b) = b := by
  induction a with
  | nil => simp [post]
  | cons c a ih =>
    rw [has_cons] at h
    simp only [Bool.or_eq_false_iff] at h
    have hc : (c != 47) = true := by simp [bne, h.1]
    have ih' : (List.dropWhile (fun b => b != 47) (a ++ 47 :: b)).drop 1 = b := ih h.2
    simp only [post, List.cons_append, List.dropWhile_cons, hc, if_true]
    exact ih'
theorem has_app (a b : List UInt8) : has (a ++ 47 :: b) = true := by simp [has]
theorem pre_none (a : List UInt8) (h : has a = false) : pre a = a := by
  induction a with
  | nil => rfl
  | cons c a ih =>
    rw [has_cons] at h
    simp only [Bool.or_eq_false_iff] at h
    have hc : (c != 47) = true := by simp [bne, h.1]
    have ih' : List.takeWhile (fun b => b != 47) a = a := ih h.2
    simp [pre, List.takeWhile_cons, hc, ih']
theorem post_none (a : List UInt8) (h : has a = false) : post a = [] := by
  induction a with
  | nil => rfl
  | cons c a ih =>
    rw [has_cons] at h
    simp only [Bool.or_eq_false_iff] at h
    have hc : (c != 47) = true := by simp [bne, h.1]
    have ih' : (List.dropWhile (fun b => b != 47) a).drop 1 = [] := ih h.2
    simp only [post, List.dropWhile_cons, hc, if_true]
    exact ih'
/-- With a slash, the text is what lies before it, the slash, what lies behind it. -/
theorem split_has (l : List UInt8) (h : has l = true) : l = pre l ++ 47 :: post l ∧ has (pre l) = false := by
  induction l with
  | nil => cases h
  | cons c l ih =>
    by_cases hc : c = 47
    · subst hc
      simp [pre, post, has]
    · have hc1 : (c == 47) = false := by simpa using hc
      have hc2 : (c != 47) = true := by simp [bne, hc1]
      rw [has_cons, hc1, Bool.false_or] at h
      have i := ih h
      have e1 : pre (c :: l) = c :: pre l := by simp [pre, List.takeWhile_cons, hc2]
      have e2 : post (c :: l) = post l := by simp only [post, List.dropWhile_cons, hc2, if_true]
      rw [e1, e2, has_cons, hc1, Bool.false_or]
      exact ⟨by rw [List.cons_append, ← i.1], i.2⟩
theorem pre_le (l : List UInt8) : (pre l).length ≤ l.length := by
  cases h : has l
  · rw [pre_none l h]; exact Nat.le_refl _
  · have := congrArg List.length (split_has l h).1
    simp at this; omega
theorem post_le (l : List UInt8) : (post l).length ≤ l.length := by
  cases h : has l
  · rw [post_none l h]; simp
  · have := congrArg List.length (split_has l h).1
    simp at this; omega

/-- "namespaces/" -/
def nsp : List UInt8 := [110, 97, 109, 101, 115, 112, 97, 99, 101, 115, 47]
/-- "namespaces" -/
def nsw : List UInt8 := [110, 97, 109, 101, 115, 112, 97, 99, 101, 115]
/-- "/api/v1/", "/apis/" -/
def api : List UInt8 := [47, 97, 112, 105, 47, 118, 49, 47]
def apis : List UInt8 := [47, 97, 112, 105, 115, 47]

/-- The namespace that a tail names; what is left of it behind that. -/
def nsOf (r : List UInt8) : List UInt8 := if nsp.isPrefixOf r then pre (r.drop 11) else []
def inOf (r : List UInt8) : List UInt8 := if nsp.isPrefixOf r then (if has (r.drop 11) then post (r.drop 11) else r) else r
def resOf (r : List UInt8) : List UInt8 := pre (inOf r)
def nameOf (r : List UInt8) : List UInt8 := pre (post (inOf r))
def subOf (r : List UInt8) : List UInt8 := pre (post (post (inOf r)))

theorem has_append (a b : List UInt8) : has (a ++ b) = (has a || has b) := by simp [has]
end Go.Proofs.Qxb6600531a.Pl

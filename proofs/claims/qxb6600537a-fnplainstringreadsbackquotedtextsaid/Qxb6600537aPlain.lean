/-
  PLAIN: rows of bytes as numbers: where a byte is found; a copy half made.
-/
import Derived.Lib.BytesEntry
import Derived.Laws.MakeOwn
set_option linter.unusedSimpArgs false
set_option linter.unusedVariables false
namespace Go.Proofs.Qxb6600537a.Pl
open Go

/-- Every number of the list is a byte. -/
def Byt (zs : List Int) : Prop := ∀ z ∈ zs, 0 ≤ z ∧ z ≤ 255
theorem Byt.tail {z : Int} {zs : List Int} (h : Byt (z :: zs)) : Byt zs := fun x hx => h x (List.mem_cons_of_mem _ hx)
theorem Byt.head {z : Int} {zs : List Int} (h : Byt (z :: zs)) : 0 ≤ z ∧ z ≤ 255 := h z (List.mem_cons_self ..)
theorem Byt.take {zs : List Int} (h : Byt zs) (n : Nat) : Byt (zs.take n) := fun x hx => h x (List.mem_of_mem_take hx)

theorem byte_ne {z c : Int} (h0 : 0 ≤ z) (h1 : z ≤ 255) (c0 : 0 ≤ c) (c1 : c ≤ 255) (h : z ≠ c) : (UInt8.ofNat z.toNat == UInt8.ofNat c.toNat) = false := by
  rw [beq_eq_false_iff_ne]
  intro e
  have := congrArg UInt8.toNat e
  simp only [UInt8.toNat_ofNat'] at this
  omega

/-- Is the byte c among them? -/
def mem (zs : List Int) (c : Int) : Bool := zs.any (fun z => z == c)
theorem mem_cons (z : Int) (zs : List Int) (c : Int) : mem (z :: zs) c = (z == c || mem zs c) := rfl
theorem mem_app (a b : List Int) (c : Int) : mem (a ++ b) c = (mem a c || mem b c) := by simp [mem]

theorem ix_miss (zs : List Int) (c : Int) (c0 : 0 ≤ c) (c1 : c ≤ 255) (hb : Byt zs) (h : mem zs c = false) : Lib.indexByte (Lib.bytesOf zs) (UInt8.ofNat c.toNat) = -1 := by
  induction zs with
  | nil => rfl
  | cons z zs ih =>
    rw [mem_cons] at h
    simp only [Bool.or_eq_false_iff] at h
    have i := ih hb.tail h.2
    have e : (UInt8.ofNat z.toNat == UInt8.ofNat c.toNat) = false := byte_ne hb.head.1 hb.head.2 c0 c1 (by simpa using h.1)
    show Lib.indexByte (UInt8.ofNat z.toNat :: Lib.bytesOf zs) _ = -1
    unfold Lib.indexByte
    rw [e, i]
    rfl
theorem ix_hit (a b : List Int) (c : Int) (c0 : 0 ≤ c) (c1 : c ≤ 255) (hb : Byt a) (h : mem a c = false) : Lib.indexByte (Lib.bytesOf (a ++ c :: b)) (UInt8.ofNat c.toNat) = a.length := by
  induction a with
  | nil =>
    show Lib.indexByte (UInt8.ofNat c.toNat :: Lib.bytesOf b) _ = _
    unfold Lib.indexByte
    simp
  | cons z zs ih =>
    rw [mem_cons] at h
    simp only [Bool.or_eq_false_iff] at h
    have i := ih hb.tail h.2
    have e : (UInt8.ofNat z.toNat == UInt8.ofNat c.toNat) = false := byte_ne hb.head.1 hb.head.2 c0 c1 (by simpa using h.1)
    show Lib.indexByte (UInt8.ofNat z.toNat :: Lib.bytesOf (zs ++ c :: b)) _ = _
    unfold Lib.indexByte
    rw [e, i]
    have hne : (((zs.length : Nat) : Int) == -1) = false := by
      rw [beq_eq_false_iff_ne]; omega
    rw [hne]
    simp

/-- A copy of zs, its first k bytes made, the rest zero. -/
def cp (zs : List Int) (k : Nat) : Array Value := ((zs.take k).map (Value.int .u8) ++ List.replicate (zs.length - k) (Value.int .u8 0)).toArray
theorem cp_size (zs : List Int) (k : Nat) (h : k ≤ zs.length) : (cp zs k).size = zs.length := by
  simp [cp]; omega
theorem cp_at (zs : List Int) (k : Nat) (h : k < zs.length) : (cp zs k)[k]? = some (.int .u8 0) := by
  simp only [cp, List.getElem?_toArray]
  rw [List.getElem?_append_right (by simp; omega)]
  simp [List.getElem?_replicate]
  omega
theorem cp_step (zs : List Int) (k : Nat) (h : k < zs.length) : (cp zs k).setIfInBounds k (.int .u8 (zs.getD k 0)) = cp zs (k + 1) := by
  apply Array.toList_inj.1
  simp only [cp, Array.toList_setIfInBounds]
  have e1 : List.replicate (zs.length - k) (Value.int .u8 0) = Value.int .u8 0 :: List.replicate (zs.length - (k + 1)) (Value.int .u8 0) := by
    rw [show zs.length - k = (zs.length - (k + 1)) + 1 by omega, List.replicate_succ]
  rw [e1, List.set_append_right _ _ (by simp; omega)]
  have e2 : zs.take (k + 1) = zs.take k ++ [zs.getD k 0] := by
    rw [List.take_succ_eq_append_getElem h]
    simp [List.getD, h]
  rw [e2]
  simp only [List.length_map, List.length_take, List.map_append, List.map_cons, List.map_nil, List.append_assoc, List.singleton_append]
  rw [show k - min k zs.length = 0 by omega, List.set_cons_zero]
theorem cp_zero (zs : List Int) : madeCells #[Value.int .u8 0] zs.length = cp zs 0 := by
  apply Array.toList_inj.1
  simp only [cp, madeCells, List.take_zero, List.map_nil, List.nil_append, Nat.sub_zero]
  apply List.ext_getElem?
  intro i
  by_cases hi : i < zs.length
  · simp [List.getElem?_replicate, hi, Nat.mod_one]
  · simp [List.getElem?_replicate, hi]
theorem cp_whole (zs : List Int) (i : Nat) (h : i < zs.length) : (cp zs zs.length)[i]? = some (.int .u8 (zs.getD i 0)) := by
  simp [cp, List.getD, h]
end Go.Proofs.Qxb6600537a.Pl

/-
  Plain facts on two strings' bytes: no Go in sight.
-/
import Derived.WalkKit
namespace Go.Proofs.Yoecdw

/-- Two strings hold the same bytes. -/
def eqB (s t : ByteArray) : Bool := s.toList == t.toList

/-- .. up to place k. -/
def agreeTo (s t : ByteArray) (k : Nat) : Prop := s.data.toList.take k = t.data.toList.take k

theorem eqB_iff (s t : ByteArray) : eqB s t = true ↔ s.data.toList = t.data.toList := by
  unfold eqB
  rw [ByteArray.toList_eq, ByteArray.toList_eq]
  simp

theorem eqB_len {s t : ByteArray} (h : ¬ s.size = t.size) : eqB s t = false := by
  cases e : eqB s t with
  | false => rfl
  | true =>
    have := congrArg List.length ((eqB_iff s t).1 e)
    exact absurd (by simpa using this) h

theorem take_snoc (s : ByteArray) (k : Nat) (h : k < s.size) : s.data.toList.take (k + 1) = s.data.toList.take k ++ [s[k]] := by
  rw [List.take_succ_eq_append_getElem (by simpa using h)]
  rfl

theorem agree_step {s t : ByteArray} {k : Nat} (hs : k < s.size) (ht : k < t.size) (h : agreeTo s t k) (e : ((s[k].toNat : Int) != (t[k].toNat : Int)) = false) : agreeTo s t (k + 1) := by
  unfold agreeTo at h ⊢
  have e0 : (s[k].toNat : Int) = (t[k].toNat : Int) := by simpa using e
  have e' : s[k] = t[k] := UInt8.toNat_inj.1 (by omega)
  rw [take_snoc s k hs, take_snoc t k ht, h, e']

theorem agree_not {s t : ByteArray} {k : Nat} (hs : k < s.size) (ht : k < t.size) (e : ((s[k].toNat : Int) != (t[k].toNat : Int)) = true) : eqB s t = false := by
  cases q : eqB s t with
  | false => rfl
  | true =>
    have hd := (eqB_iff s t).1 q
    have h1 := take_snoc s k hs
    have h2 := take_snoc t k ht
    rw [hd, h2] at h1
    have h3 : t[k] = s[k] := by simpa using h1
    rw [h3] at e
    simp at e

theorem agree_end {s t : ByteArray} {k : Nat} (hs : s.size ≤ k) (ht : t.size ≤ k) (h : agreeTo s t k) : eqB s t = true := by
  unfold agreeTo at h
  rw [List.take_of_length_le (by simpa using hs), List.take_of_length_le (by simpa using ht)] at h
  exact (eqB_iff s t).2 h

end Go.Proofs.Yoecdw

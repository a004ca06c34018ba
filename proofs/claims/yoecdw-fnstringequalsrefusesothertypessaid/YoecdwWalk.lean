/-
  The walk of FnStringEqualsRefusesOtherTypes (4): it returns true; nothing that was there has turned.
-/
import Derived.Test.YoecdwEquals
import Derived.Test.YoecdwItoa
import Derived.WalkSmall
namespace Go.Proofs.Yoecdw
open Go.RowKit

/-- '[]byte(s)': some new block; nothing old has turned. -/
theorem bytes_of (s : ByteArray) (W : World) : ∃ (a : Option Addr) (l c : Nat) (W1 : World), (convert 9 43 (.string s)).run Ecdg.prog W = .ok (.slice a l c) W1 ∧ Below W.heap.size W W1 :=
  ⟨_, _, _, _, run_bytes_of_string W 9 43 5 s Ecdg.underlying9 Ecdg.underlying43 Ecdg.underlying5, (Below.refl _ _).drew.alloc (Nat.le_refl _) _⟩

/-- Three new blocks, and whatever came behind them. -/
theorem over3 {W W' : World} {a b c : Obj} (h : Below (((W.alloc a).alloc b).alloc c).heap.size (((W.alloc a).alloc b).alloc c) W') : Below W.heap.size W W' ∧ W.heap.size + 3 ≤ W'.heap.size := by
  refine ⟨((((Below.refl _ _).alloc (Nat.le_refl _) _).alloc (by simp) _).alloc (by simp; omega) _).trans (h.mono (by simp; omega)), ?_⟩
  have := h.size
  simp at this
  omega

/-- The first of the three blocks reads as it was laid. -/
theorem over3_cell {W W' : World} {cs : Array Value} {t : TypeId} {b c : Obj} (h : Below (((W.alloc (.cells cs t)).alloc b).alloc c).heap.size (((W.alloc (.cells cs t)).alloc b).alloc c) W') (i : Nat) : W'.cell? ⟨W.heap.size, i, none⟩ = cs[i]? := by
  rw [h.cell (p := ⟨W.heap.size, i, none⟩) (by simp; omega), World.cell?_alloc_past _ _ _ (by simp; omega), World.cell?_alloc_past _ _ _ (by simp), World.cell?_alloc_new]

set_option maxHeartbeats 400000 in
theorem walk_long (s : ByteArray) (n r : Int) (w : World) (hs : 1048576 < s.size) (hm : s.size ≤ maxLen) :
    Calls Ecdg.prog 4 #[.string s, .int .i64 n, .int .i32 r] w fun e w' => e = .returned (.bool true) ∧ Below w.heap.size w w' := by
  go_enter Ecdg.func4, Ecdg.ntmps4
  go_wp2_with (go_at_call 9; refine (short_no _ _ _ _ hs hm).mono ?_; rintro e w' ⟨rfl, rfl⟩)
  go_ret
  exact ⟨rfl, Below.refl _ _⟩

set_option maxHeartbeats 800000 in
theorem walk_short (s : ByteArray) (n r : Int) (w : World) (hs : s.size ≤ 1048576) (h1 : -9223372036854775808 ≤ n) (h2 : n ≤ 9223372036854775807) :
    Calls Ecdg.prog 4 #[.string s, .int .i64 n, .int .i32 r] w fun e w' => e = .returned (.bool true) ∧ Below w.heap.size w w' := by
  go_enter Ecdg.func4, Ecdg.ntmps4
  go_wp2_with fail
  refine (short_yes _ _ _ _ hs).mono ?_
  rintro e w ⟨rfl, rfl⟩
  go_wp2_with fail
  refine (equals_nil _ _).mono ?_
  rintro e _ ⟨rfl, rfl⟩
  go_wp2_with fail
  refine (equals_other _ 36 _ (by decide) _).mono ?_
  rintro e _ ⟨rfl, rfl⟩
  go_wp2_with fail
  refine (equals_other _ 39 _ (by decide) _).mono ?_
  rintro e _ ⟨rfl, rfl⟩
  obtain ⟨pa, pl, pc, W1, hrun, hb1⟩ := bytes_of s (((w.alloc (Obj.cells #[Value.string s, Value.slice none 0 0] 28)).alloc (Obj.cells #[Value.int IntKind.i64 n] 38)).alloc (Obj.cells #[Value.int IntKind.i32 r] 41))
  have hc1 : W1.cell? ⟨w.heap.size, 0, none⟩ = some (.string s) := over3_cell hb1 0
  obtain ⟨hB1, hz1⟩ := over3 hb1
  clear hb1
  go_wp2_with fail
  refine (equals_other _ 42 _ (by decide) _).mono ?_
  rintro e _ ⟨rfl, rfl⟩
  clear hrun
  go_wp2_with fail
  refine (equals_other _ 46 _ (by decide) _).mono ?_
  rintro e _ ⟨rfl, rfl⟩
  go_wp2_with fail
  refine (itoa_any n _ h1 h2).mono ?_
  rintro e w3 ⟨d, hd, rfl, hb3⟩
  obtain ⟨hB3, hz3⟩ := over3 hb3
  have hc3 : w3.cell? ⟨w.heap.size, 0, none⟩ = some (.string s) := by
    rw [hB3.cell (p := ⟨w.heap.size, 0, none⟩) (by show w.heap.size < W1.heap.size; omega)]
    exact hc1
  have hB : Below w.heap.size w w3 := hB1.trans (hB3.mono (by omega))
  have hz : w.heap.size < w3.heap.size := by omega
  clear hb3 hB3 hB1 hz1 hz3 hc1
  go_wp2_with fail
  refine (equals_same w.heap.size w3.heap.size s d _ (by rw [World.cell?_alloc_past _ _ _ hz]; exact hc3) (by rw [World.cell?_alloc_new]; rfl)).mono ?_
  rintro e w4 ⟨rfl, n4, rfl⟩
  go_wp2_with fail
  refine (bytesEq_any s d _ (by unfold maxLen; omega)).mono ?_
  rintro e w5 ⟨rfl, n5, rfl⟩
  go_wp2
  go_ret
  exact ⟨rfl, below_drewN (hB.alloc (by omega) _) (n4 + n5)⟩

/-- Whatever the input. -/
theorem walk_any (s : ByteArray) (n r : Int) (w : World) (hm : s.size ≤ maxLen) (h1 : -9223372036854775808 ≤ n) (h2 : n ≤ 9223372036854775807) :
    Calls Ecdg.prog 4 #[.string s, .int .i64 n, .int .i32 r] w fun e w' => e = .returned (.bool true) ∧ Below w.heap.size w w' := by
  by_cases hs : s.size ≤ 1048576
  · exact walk_short s n r w hs h1 h2
  · exact walk_long s n r w (by omega) hm

end Go.Proofs.Yoecdw

/-
  zzItoa (10): it returns some string of at most 21 bytes and writes to memory of its own alone. WHICH string is of no matter to the law: both sides of its last test read the same one.
-/
import Derived.Test.YoecdwRows
import Derived.WalkKit
import Derived.WalkSpells
namespace Go.Proofs.Yoecdw
open Go.RowKit

/-- U has at most k decimal digits. -/
def fitsIn (U : Int) (k : Nat) : Prop := U < 10 ^ k

theorem fitsIn_start {U : Int} (h : U ≤ 18446744073709551615) : fitsIn U (19 + 1) := by
  unfold fitsIn
  have : (10 : Int) ^ (19 + 1) = 100000000000000000000 := by decide
  omega

/-- A digit less: there is still a place for the next. -/
theorem fitsIn_step {U : Int} {k : Nat} (h : fitsIn U (k + 1)) (h0 : 0 ≤ U) (hn : (U / 10 == 0) = false) : ∃ m, k = m + 1 ∧ fitsIn (U / 10) (m + 1) := by
  have hn' : ¬ U / 10 = 0 := by simpa using hn
  unfold fitsIn at h ⊢
  cases k with
  | zero => simp at h; omega
  | succ m =>
    refine ⟨m, rfl, ?_⟩
    rw [Int.pow_succ] at h
    generalize (10 : Int) ^ (m + 1) = P at h ⊢
    omega

/-- Block B holds twenty bytes that may be written. -/
def Buf (B : Nat) (l : List Int) (w : World) : Prop :=
  l.length = 20 ∧ (∀ j, j < 20 → w.cell? ⟨B, j, none⟩ = some (.int .u8 (l[j]?.getD 0))) ∧ (∀ j, w.frozen? ⟨B, j, none⟩ = false)

theorem Buf.set {B : Nat} {l : List Int} {w : World} (h : Buf B l w) (k : Nat) (hk : k < 20) (c : Int) : Buf B (l.set k c) (w.setCell ⟨B, k, none⟩ (.int .u8 c)) := by
  obtain ⟨h1, h2, h3⟩ := h
  refine ⟨by simpa using h1, fun j hj => ?_, fun j => ?_⟩
  · by_cases e : j = k
    · subst e
      rw [World.cell?_setCell_same _ _ _ (h2 j hj)]
      simp [h1, hj]
    · rw [World.cell?_setCell_other _ _ _ _ (by simp), h2 j hj]
      rw [List.getElem?_set_ne (fun q => e q.symm)]
  · simpa using h3 j

theorem Buf.fresh (w : World) (t : TypeId) : Buf w.heap.size (List.replicate 20 0) (w.alloc (.cells (Array.replicate 20 (.int .u8 0)) t)) := by
  refine ⟨by simp, fun j hj => ?_, fun j => World.frozen?_alloc_new _ _ _ _⟩
  rw [World.cell?_alloc_new, Array.getElem?_replicate, if_pos hj, List.getElem?_replicate, if_pos hj, Option.getD_some]

/-- 'buf[k:]'. -/
theorem slice_buf (B k : Nat) (hk : k < 20) (w : World) :
    (Instr.sliceAt 52 (.pointer (some ⟨B, 0, none⟩)) (some (.int .i64 k)) none none).run Ecdg.prog w = .ok (.slice (some ⟨B, k, none⟩) (20 - k) (20 - k)) w := by
  have ha : Ecdg.prog.arrayLen 52 = 20 := by kernel_rfl
  have he : Ecdg.prog.elem 52 = 5 := by kernel_rfl
  have hz : (sizeOf 5).run Ecdg.prog w = .ok 1 w := by kernel_rfl
  have hu : Ecdg.prog.underlying 52 = some (.array (Ecdg.prog.arrayLen 52) (Ecdg.prog.elem 52)) := by rw [ha, he]; exact Ecdg.underlying52
  rw [run_sliceAt_array_l w 52 ⟨B, 0, none⟩ hu .i64 k (by omega) (by rw [ha]; omega), ha, he, hz]
  simp only [Result.andThen, slicedAt, Int.toNat_natCast]
  rw [if_neg (by omega)]
  simp [Addr.add]
  omega

theorem size_pushes (ns : List Int) : ∀ s : ByteArray, (ns.foldl (fun r n => r.push (UInt8.ofNat n.toNat)) s).size = s.size + ns.length := by
  induction ns with
  | nil => intro s; simp
  | cons n ns ih =>
    intro s
    rw [List.foldl_cons, ih, ByteArray.size_push, List.length_cons]
    omega

/-- 'string(buf[k:])': some string of at most twenty bytes. -/
theorem string_buf {B : Nat} {l : List Int} {w : World} (h : Buf B l w) (k : Nat) :
    ∃ d : ByteArray, d.size ≤ 20 ∧ (convert 43 9 (.slice (some ⟨B, k, none⟩) (20 - k) (20 - k))).run Ecdg.prog w = .ok (.string d) w := by
  obtain ⟨h1, h2, _⟩ := h
  have hl := run_loadCells_list (P := Ecdg.prog) w ⟨B, k, none⟩ ((l.drop k).map (Value.int .u8)) (fun j v hj => by
    rw [List.getElem?_map, List.getElem?_drop] at hj
    have hlt : k + j < l.length := by
      rcases Nat.lt_or_ge (k + j) l.length with q | q
      · exact q
      · rw [List.getElem?_eq_none q] at hj
        cases hj
    have hc := h2 (k + j) (by omega)
    rw [List.getElem?_eq_getElem hlt] at hj hc
    simp only [Option.map_some, Option.some.injEq] at hj
    simp only [Option.getD_some] at hc
    rw [← hj, Go.WideShapes.add_plain]
    exact hc)
  have hlen : ((l.drop k).map (Value.int .u8)).length = 20 - k := by simp [h1]
  rw [hlen] at hl
  refine ⟨(l.drop k).foldl (fun r n => r.push (UInt8.ofNat n.toNat)) ByteArray.empty, ?_, ?_⟩
  · rw [size_pushes]
    simp [h1]
  · rw [run_convert_bytes_string w 43 9 5 _ _ _ Ecdg.underlying43 Ecdg.underlying5 Ecdg.underlying9, run_bytesToString w ⟨B, k, none⟩ (20 - k) (20 - k) (l.drop k) hl]

set_option maxHeartbeats 400000 in
theorem itoa_any (n : Int) (w : World) (h1 : -9223372036854775808 ≤ n) (h2 : n ≤ 9223372036854775807) :
    Calls Ecdg.prog 10 #[.int .i64 n] w fun e w' => ∃ d : ByteArray, d.size ≤ 21 ∧ e = .returned (.string d) ∧ Below w.heap.size w w' := by
  by_cases h0 : n < 0
  all_goals
    go_enter Ecdg.func10, Ecdg.ntmps10
    go_wp2
    go_loopw [3, 6] (fun u i wr => ∃ (U : Int) (k : Nat), 0 ≤ U ∧ U ≤ 18446744073709551615 ∧ fitsIn U (k + 1) ∧ k < 20 ∧ u = .int .u64 U ∧ i = .int .i64 (k + 1) ∧ (∃ l, Buf w.heap.size l wr) ∧ Below w.heap.size w wr)
      (fun _ i _ => (intOf i).toNat)
    case atStart => exact ⟨_, 19, by omega, by omega, fitsIn_start (by omega), by omega, rfl, rfl, ⟨_, Buf.fresh w 52⟩, (Below.refl _ _).alloc (Nat.le_refl _) _⟩
    case round =>
      obtain ⟨U, k, hU0, hU1, hfit, hk, rfl, rfl, ⟨l, hbuf⟩, hbel⟩ := hrel
      have hc : wr.cell? ⟨w.heap.size, k, none⟩ = some (.int .u8 (l[k]?.getD 0)) := hbuf.2.1 k hk
      have hf : wr.frozen? ⟨w.heap.size, k, none⟩ = false := hbuf.2.2 k
      have hki : (k : Int) < 20 := by omega
      have hbuf' := hbuf.set k hk (48 + U % 10)
      have hsl := slice_buf w.heap.size k hk
      obtain ⟨d, hd, hst⟩ := string_buf hbuf' k
      have hadd : ∀ W : World, (Op.stringOp .add ⟨#[45]⟩ d).run Ecdg.prog W = .ok (.string (⟨#[45]⟩ ++ d)) W := fun W => run_string_add_sum W _ _ (by show 1 + d.size ≤ _; omega)
      have hsz : (ByteArray.mk #[45] ++ d).size ≤ 21 := by rw [ByteArray.size_append]; show 1 + d.size ≤ 21; omega
      go_wp2
      · go_ret
        exact ⟨_, by first | exact hsz | omega, rfl, hbel.setCell (Nat.le_refl _) _⟩
      · have hne : (U / 10 == 0) = false := by assumption
        obtain ⟨m, rfl, hm⟩ := fitsIn_step hfit hU0 hne
        go_roundw
        case rel => exact ⟨U / 10, m, by omega, by omega, hm, by omega, rfl, by go_num, ⟨_, hbuf'⟩, hbel.setCell (Nat.le_refl _) _⟩
        case measure => simp [intOf]; omega

end Go.Proofs.Yoecdw

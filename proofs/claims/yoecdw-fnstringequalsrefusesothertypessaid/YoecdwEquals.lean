/-
  (*String).Equals (7) against a *String, and the byte-wise comparison zzBytesEq (11): both answer 'eqB s t'; the world only draws.
-/
import Derived.Test.YoecdwPlain
import Derived.Test.YoecdwCallees
namespace Go.Proofs.Yoecdw
open Go.RowKit

set_option maxHeartbeats 400000 in
theorem equals_same (b c : Nat) (s t : ByteArray) (w : World) (h1 : w.cell? ⟨b, 0, none⟩ = some (.string s)) (h2 : w.cell? ⟨c, 0, none⟩ = some (.string t)) :
    Calls Ecdg.prog 7 #[.pointer (some ⟨b, 0, none⟩), .iface 23 (.pointer (some ⟨c, 0, none⟩))] w fun e w' => e = .returned (.bool (eqB s t)) ∧ ∃ n, w' = w.drewN n := by
  have ha := assert_same (.pointer (some ⟨c, 0, none⟩))
  go_enter Ecdg.func7, Ecdg.ntmps7
  go_wp2
  go_quiet (fail)
  go_wp2
  go_ret
  exact ⟨rfl, _, rfl⟩

theorem ret_bool {a b : Bool} (h : a = b) : Ending.returned (.bool a) = .returned (.bool b) := by rw [h]

set_option maxHeartbeats 400000 in
theorem bytesEq_len (s t : ByteArray) (w : World) (h : ¬ s.size = t.size) :
    Calls Ecdg.prog 11 #[.string s, .string t] w fun e w' => e = .returned (.bool false) ∧ w' = w := by
  go_enter Ecdg.func11, Ecdg.ntmps11
  go_wp2
  go_ret
  exact ⟨rfl, rfl⟩

set_option maxHeartbeats 400000 in
theorem bytesEq_all (s t : ByteArray) (w : World) (hs : s.size ≤ maxLen) (h : s.size = t.size) :
    Calls Ecdg.prog 11 #[.string s, .string t] w fun e w' => e = .returned (.bool (eqB s t)) ∧ ∃ n, w' = w.drewN n := by
  unfold maxLen at hs
  have h1 : s.size ≤ t.size := by omega
  have h2 : t.size ≤ s.size := by omega
  clear h
  go_enter Ecdg.func11, Ecdg.ntmps11
  go_wp2
  go_loopw [5] (fun i wr => ∃ k : Nat, k ≤ s.size ∧ i = .int .i64 k ∧ agreeTo s t k ∧ ∃ n, wr = w.drewN n) (fun i _ => s.size - (intOf i).toNat)
  case atStart => exact ⟨0, Nat.zero_le _, rfl, rfl, 0, rfl⟩
  case round =>
    obtain ⟨k, hk, rfl, hag, n, rfl⟩ := hrel
    by_cases hlt : k < s.size
    · have hlt2 : k < t.size := by omega
      have hs1 : (k : Int) < (s.size : Int) := by omega
      have hs2 : (k : Int) < (t.size : Int) := by omega
      go_wp2_with fail
      go_quiet (fail)
      go_wp2
      · have hne : ((s[k].toNat : Int) != (t[k].toNat : Int)) = true := by assumption
        go_ret
        exact ⟨ret_bool (agree_not hlt hlt2 hne).symm, n + nq, by simp⟩
      · have he : ((s[k].toNat : Int) != (t[k].toNat : Int)) = false := by assumption
        go_roundw
        case rel => exact ⟨k + 1, by omega, by go_num, agree_step hlt hlt2 hag he, _, rfl⟩
        case measure => simp [intOf]; omega
    · go_wp2
      go_ret
      exact ⟨ret_bool (agree_end (by omega) (by omega) hag).symm, _, rfl⟩

/-- zzBytesEq, of whatever two strings. -/
theorem bytesEq_any (s t : ByteArray) (w : World) (hs : s.size ≤ maxLen) :
    Calls Ecdg.prog 11 #[.string s, .string t] w fun e w' => e = .returned (.bool (eqB s t)) ∧ ∃ n, w' = w.drewN n := by
  by_cases h : s.size = t.size
  · exact bytesEq_all s t w hs h
  · refine (bytesEq_len s t w h).mono fun e w' ⟨he, hw⟩ => ⟨by rw [he, eqB_len h], 0, by rw [hw]; rfl⟩

end Go.Proofs.Yoecdw

/-
  UTF16 and the check of the sizes of names.
-/
import Derived.Test.YtfpepghmbeoanaaDoorWkQ
namespace Go.Proofs.YtfpepghmbeoanaaDoor
open Go.RowKit

theorem maxLen_i64 : (maxLen : Int) < 9223372036854775808 := by decide

set_option maxHeartbeats 800000 in
theorem fits_any (b o n c : Nat) (ls : List ByteArray) (w : World) (hc : ∀ j, j < n → w.cell? ⟨b, o + j, none⟩ = some (.string (ls.getD j ByteArray.empty))) (hn : n ≤ 2147483647) (hz : ∀ j, (ls.getD j ByteArray.empty).size ≤ maxLen) :
    Calls Tryd.prog 10 #[.slice (some ⟨b, o, none⟩) n c] w fun e w' => ∃ r : Bool, e = .returned (.bool r) ∧ (r = true → ∀ j, j < n → (ls.getD j ByteArray.empty).size ≤ 2147483647) ∧ w' = w := by
  have hn1 : (n : Int) ≤ 2147483647 := by omega
  have HC := hid hc
  have HZ := hid hz
  clear hc hz
  go_enter Tryd.func10, Tryd.ntmps10
  go_wp2_with fail
  go_loopw [10] (fun i wr => ∃ k : Nat, k ≤ n ∧ i = .int .i64 k ∧ Hid (∀ j, j < k → (ls.getD j ByteArray.empty).size ≤ 2147483647) ∧ wr = w) (fun i _ => n - (intOf i).toNat)
  case atStart => exact ⟨0, Nat.zero_le _, rfl, fun j hj => by omega, rfl⟩
  case round =>
    obtain ⟨k, hk, rfl, HG, rfl⟩ := hrel
    by_cases hlt : k < n
    · have hcell := HC.out k hlt
      have hkn : (k : Int) < n := by omega
      have hk0 : (0 : Int) ≤ k := by omega
      have hzz := HZ.out k
      obtain ⟨s, hs⟩ : ∃ s, s = ls.getD k ByteArray.empty := ⟨_, rfl⟩
      rw [← hs] at hcell hzz
      have HS := hid hs
      clear hs
      have hz2 : (s.size : Int) < 9223372036854775808 := by have := maxLen_i64; omega
      have hz3 : (0 : Int) ≤ s.size := by omega
      clear hzz
      by_cases hbig : 2147483647 < s.size
      · have hb1 : (2147483647 : Int) < s.size := by omega
        clear hbig
        go_wp2_with fail
        go_ret
        exact ⟨false, rfl, (fun h => by cases h), rfl⟩
      · have hb1 : ¬ (2147483647 : Int) < s.size := by omega
        have HN : Hid (∀ j, j < k + 1 → (ls.getD j ByteArray.empty).size ≤ 2147483647) := fun j hj => by
          rcases Nat.lt_or_ge j k with h | h
          · exact HG.out j h
          · obtain rfl : j = k := by omega
            rw [← HS.out]; omega
        clear hbig
        go_wp2_with fail
        go_roundw
        case rel => exact ⟨k + 1, hlt, by go_num, HN, trivial⟩
        case measure => simp [intOf]; omega
    · obtain rfl : k = n := by omega
      clear hlt hk
      go_wp2_with fail
      go_ret
      exact ⟨true, rfl, fun _ => HG.out, rfl⟩

set_option maxHeartbeats 800000 in
theorem utf16_any (s : ByteArray) (w : World) (hs : s.size ≤ 50) :
    Calls Tryd.prog 11 #[.string s] w fun e w' => ∃ G cap : Nat, e = .returned (.slice (some ⟨G, 0, none⟩) (2 * s.size + 2) cap) ∧ Own w' w.heap.size 5 G cap (u8s (dat (nums s ++ [0]))) ∧ Below w.heap.size w w' := by
  have hs1 : (s.size : Int) ≤ 50 := by omega
  go_enter Tryd.func11, Tryd.ntmps11
  go_wp2_with fail
  go_loopw [3, 8] (fun v i wr => ∃ k G cap : Nat, k ≤ s.size ∧ i = .int .i64 k ∧ v = .slice (some ⟨G, 0, none⟩) (2 * k) cap ∧ Own wr w.heap.size 5 G cap (u8s (dat ((nums s).take k))) ∧ Below w.heap.size w wr) (fun _ i _ => s.size - (intOf i).toNat)
  case atStart => exact ⟨0, w.heap.size, 0, Nat.zero_le _, rfl, rfl, Own.new w #[] 5 (by simp [maxLen]), (Below.refl _ _).alloc (Nat.le_refl _) _⟩
  case round =>
    obtain ⟨k, G, cap, hk, rfl, rfl, hown, hB⟩ := hrel
    by_cases hlt : k < s.size
    · have hkn : (k : Int) < s.size := by omega
      have hk0 : (0 : Int) ≤ k := by omega
      have hget := nums_get s k hlt
      have hlen : (u8s (dat ((nums s).take k))).length = 2 * k := by
        rw [u8s_length, dat_length, List.length_take, nums_length]; omega
      have HLEN := hid hlen
      have HGET := hid hget
      clear hget hlen
      go_wp2_with (first | (at_builtin; refine wpl_app _ rfl _ _ 23 rfl 5 Tryd.underlying23 (.int .u8 0) 1 Tryd.info5 rfl w.heap.size G (2 * k) cap (u8s (dat ((nums s).take k))) rfl HLEN.out (hown.alloc _) (some ⟨wr.heap.size, 0, none⟩) 2 2 (u8s [((s[k]'hlt).toNat : Int), 0]) rfl ?c1 ?c2 ?c3 ?c4 ?c5 ?_))
      case c1 => exact (Own.new wr #[.int .u8 ((s[k]'hlt).toNat : Int), .int .u8 0] 5 (by simp [maxLen])).src
      case c2 => exact u8s_one _
      case c3 => omega
      case c4 => omega
      case c5 => have := hB.size; simp; omega
      intro G2 cap2 w2 hown2 hg2 hat2
      have hown3 : Own w2 w.heap.size 5 G2 cap2 (u8s (dat ((nums s).take (k + 1)))) := by
        rw [List.take_add_one, HGET.out, dat_append, ← u8s_append]
        exact hown2
      have hGe := hown.ge
      have hB3 : Below w.heap.size w w2 := (hB.alloc hB.size _).grown hg2 (by have := hB.size; simp; omega) (fun j hj => by injection hj with hj; omega)
      clear hown2 hg2 hat2 hown hB
      go_wp2_with fail
      go_roundw
      case rel => exact ⟨k + 1, G2, cap2, hlt, by go_num, rfl, hown3, hB3⟩
      case measure => simp [intOf]; omega
    · obtain rfl : k = s.size := by omega
      have htake : (nums s).take s.size = nums s := by rw [List.take_of_length_le]; rw [nums_length]; exact Nat.le_refl _
      rw [htake] at hown
      have hlen : (u8s (dat (nums s))).length = 2 * s.size := by
        rw [u8s_length, dat_length, nums_length]
      have HLEN := hid hlen
      clear hlen htake hlt
      go_wp2_with (first | (at_builtin; refine wpl_app _ rfl _ _ 23 rfl 5 Tryd.underlying23 (.int .u8 0) 1 Tryd.info5 rfl w.heap.size G (2 * s.size) cap (u8s (dat (nums s))) rfl HLEN.out (hown.alloc _) (some ⟨wr.heap.size, 0, none⟩) 2 2 (u8s [0, 0]) rfl ?c1 ?c2 ?c3 ?c4 ?c5 ?_))
      case c1 => exact (Own.new wr #[.int .u8 0, .int .u8 0] 5 (by simp [maxLen])).src
      case c2 => exact u8s_one _
      case c3 => omega
      case c4 => omega
      case c5 => have := hB.size; simp; omega
      intro G2 cap2 w2 hown2 hg2 hat2
      have hown3 : Own w2 w.heap.size 5 G2 cap2 (u8s (dat (nums s ++ [0]))) := by
        rw [dat_append, ← u8s_append]
        exact hown2
      have hGe := hown.ge
      have hB3 : Below w.heap.size w w2 := (hB.alloc hB.size _).grown hg2 (by have := hB.size; simp; omega) (fun j hj => by injection hj with hj; omega)
      clear hown2 hg2 hat2 hown hB
      go_wp2_with fail
      go_ret
      exact ⟨G2, cap2, rfl, hown3, hB3⟩
end Go.Proofs.YtfpepghmbeoanaaDoor

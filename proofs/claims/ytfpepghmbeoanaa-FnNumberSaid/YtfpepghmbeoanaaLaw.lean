/-
  The plain law: the bytes of a number give the number back.
-/
import Derived.Test.YtfpepghmbeoanaaWkB
namespace Go.Proofs.Ytfpepghmbeoanaa
open Go.RowKit

theorem or_step (t X n j : Nat) (hj : j < n) : (t * 2 ^ (8 * n) + X % 2 ^ (8 * j)) ||| (X / 2 ^ (8 * j) % 256 * 2 ^ (8 * j)) = t * 2 ^ (8 * n) + X % 2 ^ (8 * (j + 1)) := by
  have hA : (t * 2 ^ (8 * n)) % 2 ^ (8 * j + 8) = 0 := Nat.mod_eq_zero_of_dvd (Nat.dvd_trans (Nat.pow_dvd_pow 2 (by omega)) (Nat.dvd_mul_left _ _))
  have hA' : (t * 2 ^ (8 * n)) % 2 ^ (8 * j) = 0 := Nat.mod_eq_zero_of_dvd (Nat.dvd_trans (Nat.pow_dvd_pow 2 (by omega)) (Nat.dvd_mul_left _ _))
  have hlow : X % 2 ^ (8 * j) < 2 ^ (8 * j) := Nat.mod_lt _ (Nat.pow_pos (by omega))
  have hD : X / 2 ^ (8 * j) % 256 * 2 ^ (8 * j) < 2 ^ (8 * j + 8) := by
    rw [Nat.pow_add, Nat.mul_comm (2 ^ (8 * j))]
    exact Nat.mul_lt_mul_of_pos_right (Nat.mod_lt _ (by omega)) (Nat.pow_pos (by omega))
  have hs : X % 2 ^ (8 * (j + 1)) = X % 2 ^ (8 * j) + 2 ^ (8 * j) * (X / 2 ^ (8 * j) % 256) := by
    rw [show 8 * (j + 1) = 8 * j + 8 from by omega, Nat.pow_add, Nat.mod_mul]
  have hB : (t * 2 ^ (8 * n) + X / 2 ^ (8 * j) % 256 * 2 ^ (8 * j)) % 2 ^ (8 * j) = 0 := by
    rw [Nat.add_mod, hA', Nat.mul_mod_left]; simp
  rw [← nat_join (8 * j) _ _ hA' hlow, Nat.or_assoc, Nat.or_comm (X % 2 ^ (8 * j)), ← Nat.or_assoc, nat_join (8 * j + 8) _ _ hA hD, nat_join (8 * j) _ _ hB hlow, hs, Nat.mul_comm (2 ^ (8 * j))]
  omega

/-- What the first byte bears, for each count of further bytes. -/
theorem head (n : Nat) (hn : n < 8) (t : Nat) (ht : t < 2 ^ (7 - n)) : ∃ b : Nat, b < 256 ∧ bits BinOp.or IntKind.u8 ((t : Int) % 256) (bits BinOp.xor IntKind.u8 IntKind.u8.max (255 / 2 ^ n)) = b ∧
    8 - len8 (255 - b) = n ∧ (n < 7 → bits BinOp.and IntKind.u8 b ((2 ^ (8 - n) - 1) % 256) = t) := by
  have key : ∀ n < 8, ∀ t < 2 ^ (7 - n), t + (256 - 2 ^ (8 - n)) < 256 ∧ bits BinOp.or IntKind.u8 (((t : Nat) : Int) % 256) (bits BinOp.xor IntKind.u8 IntKind.u8.max (255 / 2 ^ n)) = ((t + (256 - 2 ^ (8 - n)) : Nat) : Int) ∧
      8 - len8 (255 - (t + (256 - 2 ^ (8 - n)))) = n ∧ (n < 7 → bits BinOp.and IntKind.u8 ((t + (256 - 2 ^ (8 - n)) : Nat) : Int) ((2 ^ (8 - n) - 1) % 256) = t) := by decide +kernel
  exact ⟨_, key n hn t ht⟩

theorem wrap_u64 (a : Nat) (h : a < 18446744073709551616) : IntKind.u64.wrap (a : Int) = a := by
  simp only [IntKind.wrap, IntKind.bits, IntKind.signed]
  simp
  omega

theorem dec (X n : Nat) (hX : X < 18446744073709551616) (hf : Fits X n) : ∃ b : Nat, b < 256 ∧ fst X n = b ∧ 8 - len8 (255 - b) = n ∧
    ∀ l : List Int, (∀ i, i < n → l.getD (i + 1) 0 = ((X / 2 ^ (8 * i) % 256 : Nat) : Int)) → acc b n l n = X := by
  have fin : ∀ b : Nat, acc0 b n = ((X / 2 ^ (8 * n) * 2 ^ (8 * n) : Nat) : Int) → ∀ l : List Int, (∀ i, i < n → l.getD (i + 1) 0 = ((X / 2 ^ (8 * i) % 256 : Nat) : Int)) → acc b n l n = X := by
    intro b h0 l hl
    have all : ∀ j, j ≤ n → acc b n l j = ((X / 2 ^ (8 * n) * 2 ^ (8 * n) + X % 2 ^ (8 * j) : Nat) : Int) := by
      intro j
      induction j with
      | zero => intro _; simpa [acc, Nat.mod_one] using h0
      | succ j ih =>
        intro hj
        have hle : X / 2 ^ (8 * n) * 2 ^ (8 * n) ≤ X := Nat.div_mul_le_self _ _
        have hjj : ∀ i, i ≤ n → X / 2 ^ (8 * n) * 2 ^ (8 * n) + X % 2 ^ (8 * i) ≤ X := by
          intro i hi
          have h1 : X % 2 ^ (8 * i) ≤ X % 2 ^ (8 * n) := by
            have : X % 2 ^ (8 * i) = X % 2 ^ (8 * n) % 2 ^ (8 * i) := (Nat.mod_mod_of_dvd _ (Nat.pow_dvd_pow 2 (by omega))).symm
            rw [this]
            exact Nat.mod_le _ _
          have h2 := Nat.div_add_mod' X (2 ^ (8 * n))
          omega
        have hd : X / 2 ^ (8 * j) % 256 * 2 ^ (8 * j) ≤ X := Nat.le_trans (Nat.mul_le_mul_right _ (Nat.mod_le _ _)) (Nat.div_mul_le_self _ _)
        have hd2 : X / 2 ^ (8 * j) % 256 < 18446744073709551616 := by omega
        show bits BinOp.or IntKind.u64 (acc b n l j) (IntKind.u64.wrap (IntKind.u64.wrap (l.getD (j + 1) 0) * 2 ^ (8 * j))) = _
        rw [ih (by omega), hl j (by omega), wrap_u64 _ hd2]
        have e1 : ((X / 2 ^ (8 * j) % 256 : Nat) : Int) * 2 ^ (8 * j) = ((X / 2 ^ (8 * j) % 256 * 2 ^ (8 * j) : Nat) : Int) := by
          rw [Int.natCast_mul, Int.natCast_pow]; rfl
        rw [e1, wrap_u64 _ (by omega), u64_or_nat _ _ (by have := hjj j (by omega); omega) (by omega), or_step _ _ _ _ (by omega)]
    rw [all n (Nat.le_refl _)]
    have h2 := Nat.div_add_mod' X (2 ^ (8 * n))
    omega
  have e0 : ((X : Int) / 2 ^ (8 * n) % 256) = ((X / 2 ^ (8 * n) : Nat) : Int) % 256 := by
    rw [Int.natCast_ediv, Int.natCast_pow]; rfl
  by_cases hn : n = 8
  · subst hn
    have ht : X / 2 ^ (8 * 8) = 0 := Nat.div_eq_of_lt (by omega)
    refine ⟨255, by omega, fst_eight _ (by omega) (by omega), by decide, fin 255 ?_⟩
    rw [ht]; rfl
  · have hn8 : n < 8 := by have := hf.1; omega
    have hx : (X : Int) < 2 ^ (7 * n + 7) := by rcases hf.2 with h | h; exact absurd h hn; exact h
    have hx' : X < 2 ^ (7 * n + 7) := by
      have : ((2 ^ (7 * n + 7) : Nat) : Int) = 2 ^ (7 * n + 7) := by rw [Int.natCast_pow]; rfl
      omega
    have ht : X / 2 ^ (8 * n) < 2 ^ (7 - n) := by
      rw [Nat.div_lt_iff_lt_mul (Nat.pow_pos (by omega)), ← Nat.pow_add, show 7 - n + 8 * n = 7 * n + 7 from by omega]
      exact hx'
    obtain ⟨b, hb, hfst, hlen, hand⟩ := head n hn8 _ ht
    refine ⟨b, hb, by unfold fst; rw [e0]; exact hfst, hlen, fin b ?_⟩
    have hle : X / 2 ^ (8 * n) * 2 ^ (8 * n) ≤ X := Nat.div_mul_le_self _ _
    have hle2 : X / 2 ^ (8 * n) ≤ X := Nat.div_le_self _ _
    unfold acc0
    by_cases h7 : n < 7
    · rw [if_pos h7, hand h7, wrap_u64 _ (by omega)]
      have e1 : ((X / 2 ^ (8 * n) : Nat) : Int) * 2 ^ (8 * n) = ((X / 2 ^ (8 * n) * 2 ^ (8 * n) : Nat) : Int) := by
        rw [Int.natCast_mul, Int.natCast_pow]; rfl
      rw [e1, wrap_u64 _ (by omega)]
      have := u64_or_nat 0 (X / 2 ^ (8 * n) * 2 ^ (8 * n)) (by omega) (by omega)
      rw [Nat.zero_or] at this
      exact this
    · rw [if_neg h7]
      have h0 : X / 2 ^ (8 * n) = 0 := by
        have : 7 - n = 0 := by omega
        rw [this, Nat.pow_zero] at ht
        exact Nat.lt_one_iff.1 ht
      rw [h0]; simp

set_option maxHeartbeats 800000 in
theorem impl_any (h c m : Nat) (l : List Int) (b k : Nat) (w : World) (B : Nat) (hown : Own w B 5 h c (u8s l)) (hl : l.length = m) (hu : l[0]? = some (b : Int)) (hn : m ≤ 1000) (hb : b < 256)
    (hk : 8 - len8 (255 - b) = k) (hkn : k < m) :
    Calls Try.prog 6 #[.slice (some ⟨h, 0, none⟩) m c] w fun e w' => e = .returned (.tuple #[.int .u64 (acc b k l k), .int .i64 (k + 1), .bool true]) ∧ Below w.heap.size w w' := by
  have HL := hid hl
  have HK := hid hk
  have HU := hid hu
  clear hl hk hu
  go_enter Try.func6, Try.ntmps6
  go_wp2_with fail
  refine (clone_any h c m l _ B HL.out hown hn).mono ?_
  rintro e w1 ⟨g, cap, rfl, hown1, hb1⟩
  go_wp2_with fail
  refine (zz_any g cap m l b k _ _ hown1 HL.out HU.out hn hb HK.out hkn).mono ?_
  rintro e w2 ⟨rfl, hb2⟩
  have hB := hb1.trans (hb2.mono hb1.size)
  go_wp2
  go_ret3
  exact ⟨rfl, hB⟩


set_option maxHeartbeats 800000 in
theorem top_any (x : Int) (A : Option Addr) (m c : Nat) (z : List Int) (w : World) (h0 : 0 ≤ x) (h1 : x < 18446744073709551616) (hS : Src w A m (u8s z)) (hz : z.length = m) (hm : m ≤ 20) :
    Calls Try.prog 3 #[.int .u64 x, .slice A m c] w fun e w' => e = .returned (.bool true) ∧ Below w.heap.size w w' := by
  have HZ := hid hz
  clear hz
  have hm1 : (m : Int) ≤ 20 := by omega
  go_enter Try.func3, Try.ntmps3
  go_wp2_with fail
  refine (number_any x _ h0 h1).mono ?_
  rintro e w1 ⟨g, cap, n, hf, rfl, hown, hb⟩
  obtain ⟨X, rfl⟩ := Int.eq_ofNat_of_zero_le h0
  obtain ⟨b, hb8, hfst, hlen, hacc⟩ := dec X n (by omega) hf
  have hn8 : n ≤ 8 := hf.1
  have HF := hid hfst
  have HN := hid hlen
  have HA := hid hacc
  clear hfst hlen hacc
  have hS0 := hown.src
  rw [u8s_length, num_length] at hS0
  have hl0 : (u8s ([] : List Int)).length = 0 := rfl
  go_wp2_with (first | (at_builtin; refine wpl_app _ rfl (.tmp 18) (.tmp 19) 23 rfl 5 Try.underlying23 (.int .u8 0) 1 Try.info5 rfl w1.heap.size w1.heap.size 0 0 (u8s []) rfl rfl (Own.new w1 #[] 5 (by simp [maxLen])) (some ⟨g, 0, none⟩) (n + 1) cap (u8s (num X n)) rfl (hS0.alloc _) (u8s_one _) (by omega) (by omega) (by simp) ?_))
  intro g2 cap2 w2 hown2 hg2 hat2
  have e2 : u8s [] ++ u8s (num X n) = u8s (num X n) := rfl
  rw [e2] at hown2
  clear e2
  have hBa : Below w1.heap.size w1 w2 := ((Below.refl _ _).alloc (Nat.le_refl _) _).grown hg2 (by simp) (fun j hj => by injection hj with hj; omega)
  have hB2 : Below w.heap.size w w2 := hb.trans (hBa.mono hb.size)
  have hS2 : Src w2 A m (u8s z) := hS.below hB2
  have hl2 : (u8s (num X n)).length = n + 1 := by rw [u8s_length, num_length]
  have Hl2 := hid hl2
  clear hl2 hg2 hat2 hS0 hown
  have hsz2 := hBa.size
  go_wp2_with (first | (at_builtin; refine wpl_app _ rfl (.tmp 20) (.tmp 21) 23 rfl 5 Try.underlying23 (.int .u8 0) 1 Try.info5 rfl w1.heap.size g2 (n + 1) cap2 (u8s (num X n)) rfl Hl2.out hown2 A m c (u8s z) rfl hS2 (u8s_one _) (by omega) (by omega) hsz2 ?_))
  intro g3 cap3 w3 hown3 hg3 hat3
  rw [u8s_append] at hown3
  have hB3 : Below w.heap.size w w3 := hB2.grown hg3 hB2.size (fun j hj => by injection hj with hj; have := hown2.ge; have := hb.size; omega)
  have hl3 : Hid ((num X n ++ z).length = n + 1 + m) := by show _ = _; rw [List.length_append, num_length, HZ.out]
  have hu3 : Hid ((num X n ++ z)[0]? = some (b : Int)) := by show _ = _; rw [← HF.out]; rfl
  have hget : ∀ i, i < n → (num X n ++ z).getD (i + 1) 0 = ((X / 2 ^ (8 * i) % 256 : Nat) : Int) := by
    intro i hi
    have h1 : i < (lit X n).length := by rw [lit_length]; exact hi
    have e1 : (num X n ++ z)[i + 1]? = (lit X n)[i]? := by
      show (fst X n :: (lit X n ++ z))[i + 1]? = _
      rw [List.getElem?_cons_succ, List.getElem?_append_left h1]
    rw [List.getD_eq_getElem?_getD, e1]
    simp only [lit, List.getElem?_map, List.getElem?_range hi, Option.map_some, Option.getD_some]
    rw [Int.natCast_emod, Int.natCast_ediv, Int.natCast_pow]; rfl
  have hacc := hid (HA.out _ hget)
  clear hget hS2 hB2 hg3 hat3 hown2 hBa
  go_wp2_with fail
  refine (impl_any g3 cap3 (n + 1 + m) (num X n ++ z) b n _ _ hown3 hl3.out hu3.out (by omega) hb8 HN.out (by omega)).mono ?_
  rw [hacc.out]
  rintro e w4 ⟨rfl, hb4⟩
  have hB4 := hB3.trans (hb4.mono hB3.size)
  have t1 : ((X : Int) == X) = true := beq_iff_eq.2 rfl
  have t2 : ((n : Int) + 1 == n + 1) = true := beq_iff_eq.2 rfl
  go_wp2
  go_ret
  exact ⟨rfl, hB4⟩
end Go.Proofs.Ytfpepghmbeoanaa

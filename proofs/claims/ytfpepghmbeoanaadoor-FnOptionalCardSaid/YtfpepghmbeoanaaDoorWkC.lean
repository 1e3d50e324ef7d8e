/-
  spec.Bits, and the plain law of bits: what is told is what is read.
-/
import Derived.Test.YtfpepghmbeoanaaDoorWkB
namespace Go.Proofs.YtfpepghmbeoanaaDoor
open Go.RowKit

/-- Eight truths as a byte, the highest bit first. -/
def by8 (a b c d e f g h : Bool) : Nat := (if a then 128 else 0) + (if b then 64 else 0) + (if c then 32 else 0) + (if d then 16 else 0) + (if e then 8 else 0) + (if f then 4 else 0) + (if g then 2 else 0) + (if h then 1 else 0)
theorem or8_0 : ∀ b c d e f g h : Bool, bits BinOp.or IntKind.u8 (by8 false b c d e f g h : Nat) (128 / 2 ^ 0) = (by8 true b c d e f g h : Nat) := by decide +kernel
theorem or8_1 : ∀ a c d e f g h : Bool, bits BinOp.or IntKind.u8 (by8 a false c d e f g h : Nat) (128 / 2 ^ 1) = (by8 a true c d e f g h : Nat) := by decide +kernel
theorem or8_2 : ∀ a b d e f g h : Bool, bits BinOp.or IntKind.u8 (by8 a b false d e f g h : Nat) (128 / 2 ^ 2) = (by8 a b true d e f g h : Nat) := by decide +kernel
theorem or8_3 : ∀ a b c e f g h : Bool, bits BinOp.or IntKind.u8 (by8 a b c false e f g h : Nat) (128 / 2 ^ 3) = (by8 a b c true e f g h : Nat) := by decide +kernel
theorem or8_4 : ∀ a b c d f g h : Bool, bits BinOp.or IntKind.u8 (by8 a b c d false f g h : Nat) (128 / 2 ^ 4) = (by8 a b c d true f g h : Nat) := by decide +kernel
theorem or8_5 : ∀ a b c d e g h : Bool, bits BinOp.or IntKind.u8 (by8 a b c d e false g h : Nat) (128 / 2 ^ 5) = (by8 a b c d e true g h : Nat) := by decide +kernel
theorem or8_6 : ∀ a b c d e f h : Bool, bits BinOp.or IntKind.u8 (by8 a b c d e f false h : Nat) (128 / 2 ^ 6) = (by8 a b c d e f true h : Nat) := by decide +kernel
theorem or8_7 : ∀ a b c d e f g : Bool, bits BinOp.or IntKind.u8 (by8 a b c d e f g false : Nat) (128 / 2 ^ 7) = (by8 a b c d e f g true : Nat) := by decide +kernel
theorem and8_0 : ∀ a b c d e f g h : Bool, (bits BinOp.and IntKind.u8 (by8 a b c d e f g h : Nat) (128 / 2 ^ 0) != 0) = a := by decide +kernel
theorem and8_1 : ∀ a b c d e f g h : Bool, (bits BinOp.and IntKind.u8 (by8 a b c d e f g h : Nat) (128 / 2 ^ 1) != 0) = b := by decide +kernel
theorem and8_2 : ∀ a b c d e f g h : Bool, (bits BinOp.and IntKind.u8 (by8 a b c d e f g h : Nat) (128 / 2 ^ 2) != 0) = c := by decide +kernel
theorem and8_3 : ∀ a b c d e f g h : Bool, (bits BinOp.and IntKind.u8 (by8 a b c d e f g h : Nat) (128 / 2 ^ 3) != 0) = d := by decide +kernel
theorem and8_4 : ∀ a b c d e f g h : Bool, (bits BinOp.and IntKind.u8 (by8 a b c d e f g h : Nat) (128 / 2 ^ 4) != 0) = e := by decide +kernel
theorem and8_5 : ∀ a b c d e f g h : Bool, (bits BinOp.and IntKind.u8 (by8 a b c d e f g h : Nat) (128 / 2 ^ 5) != 0) = f := by decide +kernel
theorem and8_6 : ∀ a b c d e f g h : Bool, (bits BinOp.and IntKind.u8 (by8 a b c d e f g h : Nat) (128 / 2 ^ 6) != 0) = g := by decide +kernel
theorem and8_7 : ∀ a b c d e f g h : Bool, (bits BinOp.and IntKind.u8 (by8 a b c d e f g h : Nat) (128 / 2 ^ 7) != 0) = h := by decide +kernel
def byF (f : Nat → Bool) : Nat := by8 (f 0) (f 1) (f 2) (f 3) (f 4) (f 5) (f 6) (f 7)
theorem or8 (f f' : Nat → Bool) (r : Nat) (hr : r < 8) (h0 : f r = false) (h1 : f' r = true) (hs : ∀ i, i ≠ r → f' i = f i) : bits BinOp.or IntKind.u8 (byF f : Nat) (128 / 2 ^ r) = (byF f' : Nat) := by
  unfold byF
  match r, hr with
  | 0, _ => rw [h0, h1, hs 1 (by omega), hs 2 (by omega), hs 3 (by omega), hs 4 (by omega), hs 5 (by omega), hs 6 (by omega), hs 7 (by omega)]; exact or8_0 _ _ _ _ _ _ _
  | 1, _ => rw [h0, h1, hs 0 (by omega), hs 2 (by omega), hs 3 (by omega), hs 4 (by omega), hs 5 (by omega), hs 6 (by omega), hs 7 (by omega)]; exact or8_1 _ _ _ _ _ _ _
  | 2, _ => rw [h0, h1, hs 0 (by omega), hs 1 (by omega), hs 3 (by omega), hs 4 (by omega), hs 5 (by omega), hs 6 (by omega), hs 7 (by omega)]; exact or8_2 _ _ _ _ _ _ _
  | 3, _ => rw [h0, h1, hs 0 (by omega), hs 1 (by omega), hs 2 (by omega), hs 4 (by omega), hs 5 (by omega), hs 6 (by omega), hs 7 (by omega)]; exact or8_3 _ _ _ _ _ _ _
  | 4, _ => rw [h0, h1, hs 0 (by omega), hs 1 (by omega), hs 2 (by omega), hs 3 (by omega), hs 5 (by omega), hs 6 (by omega), hs 7 (by omega)]; exact or8_4 _ _ _ _ _ _ _
  | 5, _ => rw [h0, h1, hs 0 (by omega), hs 1 (by omega), hs 2 (by omega), hs 3 (by omega), hs 4 (by omega), hs 6 (by omega), hs 7 (by omega)]; exact or8_5 _ _ _ _ _ _ _
  | 6, _ => rw [h0, h1, hs 0 (by omega), hs 1 (by omega), hs 2 (by omega), hs 3 (by omega), hs 4 (by omega), hs 5 (by omega), hs 7 (by omega)]; exact or8_6 _ _ _ _ _ _ _
  | 7, _ => rw [h0, h1, hs 0 (by omega), hs 1 (by omega), hs 2 (by omega), hs 3 (by omega), hs 4 (by omega), hs 5 (by omega), hs 6 (by omega)]; exact or8_7 _ _ _ _ _ _ _
theorem and8 (f : Nat → Bool) (r : Nat) (hr : r < 8) : (bits BinOp.and IntKind.u8 (byF f : Nat) (128 / 2 ^ r) != 0) = f r := by
  unfold byF
  match r, hr with
  | 0, _ => exact and8_0 _ _ _ _ _ _ _ _
  | 1, _ => exact and8_1 _ _ _ _ _ _ _ _
  | 2, _ => exact and8_2 _ _ _ _ _ _ _ _
  | 3, _ => exact and8_3 _ _ _ _ _ _ _ _
  | 4, _ => exact and8_4 _ _ _ _ _ _ _ _
  | 5, _ => exact and8_5 _ _ _ _ _ _ _ _
  | 6, _ => exact and8_6 _ _ _ _ _ _ _ _
  | 7, _ => exact and8_7 _ _ _ _ _ _ _ _

/-- Bit r of byte q of the first k truths. -/
def bitAt (l : List Bool) (k q r : Nat) : Bool := decide (8 * q + r < k) && l.getD (8 * q + r) false
/-- Byte q of the first k truths of l. -/
def byteK (l : List Bool) (k q : Nat) : Int := (byF (bitAt l k q) : Nat)
def bitsK (l : List Bool) (N k : Nat) : List Int := (List.range N).map (byteK l k)
theorem bitsK_length (l : List Bool) (N k : Nat) : (bitsK l N k).length = N := by simp [bitsK]
theorem bitAt_other (l : List Bool) (k q r : Nat) (h : 8 * q + r ≠ k) : bitAt l (k + 1) q r = bitAt l k q r := by
  unfold bitAt
  rw [show decide (8 * q + r < k + 1) = decide (8 * q + r < k) from decide_eq_decide.2 (by omega)]
theorem byteK_other (l : List Bool) (k q : Nat) (h : ∀ r, r < 8 → 8 * q + r ≠ k) : byteK l (k + 1) q = byteK l k q := by
  unfold byteK byF
  rw [bitAt_other _ _ _ _ (h 0 (by omega)), bitAt_other _ _ _ _ (h 1 (by omega)), bitAt_other _ _ _ _ (h 2 (by omega)), bitAt_other _ _ _ _ (h 3 (by omega)), bitAt_other _ _ _ _ (h 4 (by omega)), bitAt_other _ _ _ _ (h 5 (by omega)), bitAt_other _ _ _ _ (h 6 (by omega)), bitAt_other _ _ _ _ (h 7 (by omega))]
theorem byteK_no (l : List Bool) (k q : Nat) (hl : l.getD k false = false) : byteK l (k + 1) q = byteK l k q := by
  have h : ∀ r, bitAt l (k + 1) q r = bitAt l k q r := fun r => by
    by_cases e : 8 * q + r = k
    · unfold bitAt; rw [e, hl]; simp
    · exact bitAt_other _ _ _ _ e
  unfold byteK byF
  rw [h, h, h, h, h, h, h, h]
theorem byteK_yes (l : List Bool) (k : Nat) (hl : l.getD k false = true) : bits BinOp.or IntKind.u8 (byteK l k (k / 8)) (128 / 2 ^ (k % 8)) = byteK l (k + 1) (k / 8) := by
  have e : 8 * (k / 8) + k % 8 = k := by omega
  refine or8 _ _ _ (by omega) ?_ ?_ (fun i hi => bitAt_other _ _ _ _ (by omega))
  · unfold bitAt; rw [e]; simp
  · unfold bitAt; rw [e, hl]; simp
theorem bitsK_no (l : List Bool) (N k : Nat) (hl : l.getD k false = false) : bitsK l N (k + 1) = bitsK l N k := by
  unfold bitsK
  exact List.map_congr_left fun q _ => byteK_no l k q hl
theorem bitsK_yes (l : List Bool) (N k : Nat) (hl : l.getD k false = true) (hk : k / 8 < N) : (bitsK l N k).set (k / 8) (bits BinOp.or IntKind.u8 (byteK l k (k / 8)) (128 / 2 ^ (k % 8))) = bitsK l N (k + 1) := by
  rw [byteK_yes l k hl]
  apply List.ext_getElem?
  intro q
  rw [List.getElem?_set]
  unfold bitsK
  by_cases hq : q < N
  · rw [List.getElem?_map, List.getElem?_map, List.getElem?_range hq]
    by_cases e : k / 8 = q
    · subst e
      rw [if_pos rfl, if_pos (by simpa using hk)]; rfl
    · rw [if_neg e]
      show some (byteK l k q) = some (byteK l (k + 1) q)
      rw [byteK_other l k q (fun r hr => by omega)]
  · rw [if_neg (by omega), List.getElem?_eq_none (by simpa using hq), List.getElem?_eq_none (by simpa using hq)]
theorem bitsK_zero (l : List Bool) (N : Nat) : bitsK l N 0 = List.replicate N 0 := by
  apply List.ext_getElem?
  intro q
  unfold bitsK
  by_cases hq : q < N
  · rw [List.getElem?_map, List.getElem?_range hq, List.getElem?_replicate, if_pos hq]
    have : ∀ r, bitAt l 0 q r = false := fun r => by unfold bitAt; simp
    show some (byteK l 0 q) = _
    unfold byteK byF
    rw [this, this, this, this, this, this, this, this]; rfl
  · rw [List.getElem?_eq_none (by simpa using hq), List.getElem?_eq_none (by simpa using hq)]
/-- What was told is what is read. -/
theorem rdb_bits (l : List Bool) (n : Nat) (pre more : List Int) (j : Nat) (hj : j < n) : rdb (pre ++ bitsK l ((n + 7) / 8) n ++ more) pre.length j = l.getD j false := by
  have hq : j / 8 < (n + 7) / 8 := by omega
  have e : (pre ++ bitsK l ((n + 7) / 8) n ++ more).getD (pre.length + j / 8) 0 = byteK l n (j / 8) := by
    rw [List.append_assoc, List.getD_eq_getElem?_getD, List.getElem?_append_right (by omega), Nat.add_sub_cancel_left, List.getElem?_append_left (by rw [bitsK_length]; exact hq), bitsK, List.getElem?_map, List.getElem?_range hq]; rfl
  unfold rdb umask
  rw [e]
  refine (and8 (bitAt l n (j / 8)) (j % 8) (by omega)).trans ?_
  unfold bitAt
  rw [show 8 * (j / 8) + j % 8 = j from by omega]
  simp [hj]
theorem rds_bits (l : List Bool) (n : Nat) (hl : l.length = n) (pre more : List Int) : rds (pre ++ bitsK l ((n + 7) / 8) n ++ more) pre.length n = l := by
  apply List.ext_getElem?
  intro j
  unfold rds
  by_cases hj : j < n
  · rw [List.getElem?_map, List.getElem?_range hj]
    show some (rdb _ _ j) = _
    rw [rdb_bits l n pre more j hj, List.getD_eq_getElem?_getD, List.getElem?_eq_getElem (by omega)]; rfl
  · rw [List.getElem?_eq_none (by simpa using hj), List.getElem?_eq_none (by omega)]

set_option maxHeartbeats 800000 in
theorem bits_any (b o n c : Nat) (l : List Bool) (w : World) (hl : l.length = n) (hc : ∀ j, j < n → w.cell? ⟨b, o + j, none⟩ = some (.bool (l.getD j false))) (hb : b < w.heap.size) (h0 : 0 < n) (h1 : n ≤ 1000) :
    Calls Tryd.prog 6 #[.slice (some ⟨b, o, none⟩) n c] w fun e w' => ∃ G : Nat, e = .returned (.slice (some ⟨G, 0, none⟩) ((n + 7) / 8) ((n + 7) / 8)) ∧
      Own w' w.heap.size 5 G ((n + 7) / 8) (u8s (bitsK l ((n + 7) / 8) n)) ∧ Below w.heap.size w w' := by
  obtain ⟨N, hN⟩ : ∃ N : Nat, Hid (N = (n + 7) / 8) := ⟨_, rfl⟩
  have hNle : N ≤ 1000 := by have := hN.out; omega
  rw [← hN.out]
  go_enter Tryd.func6, Tryd.ntmps6
  go_wp2_with (first | (at_make; refine wpl_make _ rfl _ _ 23 rfl 5 Tryd.underlying23 (.int .u8 0) 1 Tryd.info5 rfl .i64 .i64 _ _ N N rfl rfl ?_ ?_ ?_ ?_ ?_ ?_))
  · have := hN.out; omega
  · have := hN.out; omega
  · omega
  · omega
  · omega
  intro w1 hown1 hb1
  go_wp2_with fail
  go_loopw [13] (fun i wr => ∃ (k : Nat), k ≤ n ∧ i = .int .i64 k ∧ Own wr w.heap.size 5 w.heap.size N (u8s (bitsK l N k)) ∧ Below w.heap.size w wr) (fun i _ => n - (intOf i).toNat)
  case atStart => exact ⟨0, Nat.zero_le _, rfl, by rw [bitsK_zero]; simpa [u8s] using hown1, hb1⟩
  case round =>
    clear hown1 hb1
    obtain ⟨k, hk, rfl, hown, hbl⟩ := hrel
    by_cases hlt : k < n
    · have hcx : wr.cell? ⟨b, o + k, none⟩ = some (.bool (l.getD k false)) := (hbl.cell (p := ⟨b, o + k, none⟩) hb).trans (hc k hlt)
      have hkn : (k : Int) < n := by omega
      have hk0 : (0 : Int) ≤ k := by omega
      have hqN : k / 8 < N := by have := hN.out; omega
      obtain ⟨y, hy⟩ : ∃ y : Int, Hid (y = byteK l k (k / 8)) := ⟨_, rfl⟩
      have hlx : (u8s (bitsK l N k)).length = N := by rw [u8s_length, bitsK_length]
      have hcy : wr.cell? ⟨w.heap.size, k / 8, none⟩ = some (.int .u8 y) := by
        rw [hown.cell (by rw [hlx]; exact hqN), u8s_get, bitsK, List.getElem?_map, List.getElem?_range hqN, hy.out]; rfl
      have hfz : wr.frozen? ⟨w.heap.size, k / 8, none⟩ = false := hown.frozen _
      clear hlx
      cases hx : l.getD k false with
      | false =>
        have HX := hid (bitsK_no l N k hx)
        rw [hx] at hcx
        clear hx hcy hfz
        go_wp2
        go_roundw
        case rel => exact ⟨k + 1, hlt, by go_num, by rw [HX.out]; exact hown, hbl⟩
        case measure => simp [intOf]; omega
      | true =>
        have HX := hid (bitsK_yes l N k hx hqN)
        have hown2 : Own (wr.setCell ⟨w.heap.size, k / 8, none⟩ (.int .u8 (bits BinOp.or IntKind.u8 y (128 / 2 ^ (k % 8))))) w.heap.size 5 w.heap.size N (u8s (bitsK l N (k + 1))) := by
          rw [← HX.out, ← hy.out]
          have := hown.set (k / 8) (.int .u8 (bits BinOp.or IntKind.u8 y (128 / 2 ^ (k % 8))))
          unfold u8s at this ⊢
          rw [List.map_set]
          exact this
        rw [hx] at hcx
        have hq0 : (0 : Int) ≤ (k : Int) / 8 := by omega
        have hq1 : (k : Int) / 8 < N := by omega
        clear hx
        go_wp2
        go_region
        all_goals go_wp2
        all_goals go_roundw
        case rel => exact ⟨k + 1, hlt, by go_num, hown2.drew, (hbl.setCell (p := ⟨w.heap.size, k / 8, none⟩) (Nat.le_refl _) _).drew⟩
        case measure => simp [intOf]; omega
    · obtain rfl : k = n := by omega
      go_wp2
      go_ret
      exact ⟨w.heap.size, rfl, hown, hbl⟩
end Go.Proofs.YtfpepghmbeoanaaDoor

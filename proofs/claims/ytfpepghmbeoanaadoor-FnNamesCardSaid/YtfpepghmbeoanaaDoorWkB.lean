/-
  The walks of readBool and of truths: the bits of bytes, one by one, and two lists of truths held against each other.
-/
import Derived.Test.YtfpepghmbeoanaaDoorWkA
namespace Go.Proofs.YtfpepghmbeoanaaDoor
open Go.RowKit

theorem method_rb (a : Addr) (w : World) : (method 190 45 (.pointer (some a)) "ReadByte").run Tryd.prog w = .ok (44, .pointer (some a)) w := by kernel_rfl

/-- The mask with which bit i is read; the mask that lies there before bit i (nought: a byte is wanted). -/
def umask (i : Nat) : Int := 128 / 2 ^ (i % 8)
def msk (i : Nat) : Int := if i % 8 = 0 then 0 else umask i
/-- Bit i behind place p of the bytes l. -/
def rdb (l : List Int) (p i : Nat) : Bool := bits BinOp.and IntKind.u8 (l.getD (p + i / 8) 0) (umask i) != 0
def rds (l : List Int) (p k : Nat) : List Bool := (List.range k).map (rdb l p)
theorem rds_length (l : List Int) (p k : Nat) : (rds l p k).length = k := by simp [rds]
theorem rds_succ (l : List Int) (p k : Nat) : rds l p (k + 1) = rds l p k ++ [rdb l p k] := by simp [rds, List.range_succ]
/-- What slot 8 holds ahead of bit k. -/
def Held (l : List Int) (p k : Nat) (b : Int) : Prop := k % 8 ≠ 0 → b = l.getD (p + k / 8) 0

theorem msk_next (k : Nat) : umask k / 2 = msk (k + 1) := by
  have key : ∀ r < 8, (128 / 2 ^ r / 2 : Int) = if (r + 1) % 8 = 0 then 0 else 128 / 2 ^ ((r + 1) % 8) := by decide +kernel
  have h := key (k % 8) (Nat.mod_lt _ (by omega))
  have e : (k % 8 + 1) % 8 = (k + 1) % 8 := by omega
  unfold msk umask
  rw [e] at h
  exact h
theorem umask_first (k : Nat) (h : k % 8 = 0) : umask k = 128 := by unfold umask; rw [h]; rfl
theorem msk_in (k : Nat) (h : k % 8 ≠ 0) : msk k = umask k := if_neg h
theorem umask_pos (k : Nat) : (umask k == 0) = false ∧ 0 ≤ umask k ∧ umask k < 256 := by
  have key : ∀ r < 8, ((128 / 2 ^ r : Int) == 0) = false ∧ 0 ≤ (128 / 2 ^ r : Int) ∧ (128 / 2 ^ r : Int) < 256 := by decide +kernel
  exact key (k % 8) (Nat.mod_lt _ (by omega))
theorem Rdr.ne {w : World} {g f n c i : Nat} {l : List Int} {B e G cap : Nat} {xs : List Value} (hr : Rdr w g f n c i l) (ho : Own w B e G cap xs) (he : e ≠ 52) : G ≠ g := by
  obtain ⟨⟨p, hb⟩, _⟩ := hr
  exact ho.ne hb he

set_option maxHeartbeats 800000 in
theorem readb_any (g f c n p m : Nat) (l : List Int) (w : World) (hr : Rdr w g f n c p l) (hn : n ≤ 100000) (h0 : 0 < m) (h1 : m ≤ 1000) (hpm : p + (m + 7) / 8 ≤ n) :
    Calls Tryd.prog 20 #[.iface 45 (.pointer (some ⟨g, 0, none⟩)), .int .u64 m] w fun e w' => ∃ G cap : Nat, e = .returned (.tuple #[.slice (some ⟨G, 0, none⟩) m cap, .nilIface]) ∧
      Own w' w.heap.size 4 G cap (bls (rds l p m)) ∧ Rdr w' g f n c (p + (m + 7) / 8) l ∧ w.grownBy w' (some g) := by
  have hm := fun w => method_rb ⟨g, 0, none⟩ w
  have hgf := hr.lt
  go_enter Tryd.func20, Tryd.ntmps20
  go_wp2_with fail
  refine (check_any m _ h0 (by omega)).mono ?_
  rintro e w' ⟨rfl, rfl⟩
  go_wp2_with (first | (at_make; refine wpl_make _ rfl _ _ 22 rfl 4 Tryd.underlying22 (.bool false) 1 Tryd.info4 rfl .i64 .u64 _ _ 0 m rfl rfl rfl rfl ?_ ?_ ?_ ?_))
  · omega
  · omega
  · omega
  intro w1 hown1 hb1
  have hr1 : Rdr w1 g f n c p l := hr.below hb1 hgf.1 hgf.2
  have hg1 : w.grownBy w1 (some g) := ⟨hb1.os, hb1.tape, hb1.output, hb1.size, fun k hk _ => hb1.block k hk⟩
  clear hr hb1
  go_wp2_with fail
  go_loopw [7, 8, 9, 20] (fun v b mk i wr => ∃ (k G cap : Nat) (b' : Int), k ≤ m ∧ i = .int .u64 k ∧ v = .slice (some ⟨G, 0, none⟩) k cap ∧ b = .int .u8 b' ∧ Held l p k b' ∧ mk = .int .u8 (msk k) ∧
      Own wr w.heap.size 4 G cap (bls (rds l p k)) ∧ Rdr wr g f n c (p + (k + 7) / 8) l ∧ w.grownBy wr (some g)) (fun _ _ _ i _ => m - (intOf i).toNat)
  case atStart => exact ⟨0, w.heap.size, m, 0, Nat.zero_le _, rfl, rfl, rfl, fun h => absurd rfl h, rfl, hown1, hr1, hg1⟩
  case round =>
    clear hown1 hr1 hg1
    obtain ⟨k, G, cap, b', hk, rfl, rfl, rfl, hb, rfl, hown, hrr, hg⟩ := hrel
    by_cases hlt : k < m
    · have hl : (bls (rds l p k)).length = k := by rw [bls_length, rds_length]
      have hL := hid hl
      clear hl
      have hGg : G ≠ g := hrr.ne hown (by decide)
      have hsz := hg.size
      have hnx := hid (msk_next k)
      obtain ⟨u, hu⟩ : ∃ u : Int, Hid (u = l.getD (p + k / 8) 0) := ⟨_, rfl⟩
      have hbit : Hid (rds l p (k + 1) = rds l p k ++ [bits BinOp.and IntKind.u8 u (umask k) != 0]) := by rw [hu.out]; exact rds_succ l p k
      by_cases hk8 : k % 8 = 0
      · have hum := umask_first k hk8
        have HB : Hid (Held l p (k + 1) u) := fun _ => by rw [hu.out, show (k + 1) / 8 = k / 8 from by omega]
        have hE : Hid (p + (k + 7) / 8 + 1 = p + (k + 1 + 7) / 8) := by show _ = _; omega
        have hul : l[p + (k + 7) / 8]? = some u := by
          have h3 := hrr.2.1
          have h2 : p + (k + 7) / 8 < l.length := by rw [h3]; omega
          rw [hu.out, show (k + 7) / 8 = k / 8 from by omega, List.getD_eq_getElem?_getD, List.getElem?_eq_getElem (by omega)]; rfl
        rw [show msk k = 0 from if_pos hk8]
        rw [hum] at hbit hnx
        clear hum hk8
        go_wp2_with fail
        refine (rb_any g f c n (p + (k + 7) / 8) l u _ hrr hul hn).mono ?_
        rintro e w2 ⟨rfl, hr2, hg2⟩
        have hown2 := hown.grown hg2 (fun e => hGg (by injection e))
        have hgw := grown_trans hg hg2
        have hsz2 := hgw.size
        clear hrr hg2 hul hown hg
        go_wp2_with (first | (at_builtin; refine wpl_app _ rfl _ _ 22 rfl 4 Tryd.underlying22 (.bool false) 1 Tryd.info4 rfl w.heap.size G k cap (bls (rds l p k)) rfl hL.out (hown2.alloc _) (some ⟨w2.heap.size, 0, none⟩) 1 1 (bls [bits BinOp.and IntKind.u8 u 128 != 0]) rfl ?_ ?_ ?_ ?_ ?_ ?_))
        · exact Src.one (Bk.new _ _ _)
        · exact bls_one _
        · omega
        · omega
        · simp; omega
        intro G' cap' w3 hown3 hg3 hat
        rw [bls_append, ← hbit.out] at hown3
        have hr3 : Rdr w3 g f n c (p + (k + 1 + 7) / 8) l := by
          rw [← hE.out]
          refine (hr2.below ((Below.refl w2.heap.size w2).alloc (Nat.le_refl _) _) hr2.lt.1 hr2.lt.2).keep hg3 (fun e => hGg (by injection e with e; exact e.symm)) ?_
          intro e
          injection e with e
          have := hr2.2.2.2
          obtain ⟨cur, hbk, _⟩ := this.blk
          subst e
          exact (hown2.ne hbk (by decide)) rfl
        have hgw3 : w.grownBy w3 (some g) := by
          refine ⟨hg3.os.trans hgw.os, hg3.tape.trans hgw.tape, hg3.output.trans hgw.output, Nat.le_trans hsz2 (Nat.le_trans (by simp) hg3.size), fun q hq hne => ?_⟩
          have hG := hown2.ge
          rw [hg3.block q (by simp; omega) (fun e => by injection e with e; omega), Below.heap_alloc _ _ _ (by omega)]
          exact hgw.block q hq hne
        clear hr2 hg3 hgw hown2 hat
        go_wp2
        go_roundw
        case rel => exact ⟨k + 1, G', cap', u, hlt, by go_num, rfl, rfl, HB.out, by rw [← hnx.out]; rfl, hown3, hr3, hgw3⟩
        case measure => simp [intOf]; omega
      · have hbe : b' = u := (hb hk8).trans hu.out.symm
        subst hbe
        have HB : Hid (Held l p (k + 1) b') := fun h8 => by rw [hu.out, show (k + 1) / 8 = k / 8 from by omega]
        have hE : Hid (p + (k + 7) / 8 = p + (k + 1 + 7) / 8) := by show _ = _; omega
        obtain ⟨ht, hm0, hm1⟩ := umask_pos k
        rw [msk_in k hk8]
        generalize umask k = mk at hbit hnx ht hm0 hm1
        clear hk8 hb
        go_wp2_with (first | (at_builtin; refine wpl_app _ rfl _ _ 22 rfl 4 Tryd.underlying22 (.bool false) 1 Tryd.info4 rfl w.heap.size G k cap (bls (rds l p k)) rfl hL.out (hown.alloc _) (some ⟨wr.heap.size, 0, none⟩) 1 1 (bls [bits BinOp.and IntKind.u8 b' mk != 0]) rfl ?_ ?_ ?_ ?_ ?_ ?_))
        · exact Src.one (Bk.new _ _ _)
        · exact bls_one _
        · omega
        · omega
        · simp; omega
        intro G' cap' w3 hown3 hg3 hat
        rw [bls_append, ← hbit.out] at hown3
        have hr3 : Rdr w3 g f n c (p + (k + 1 + 7) / 8) l := by
          rw [← hE.out]
          refine (hrr.below ((Below.refl wr.heap.size wr).alloc (Nat.le_refl _) _) hrr.lt.1 hrr.lt.2).keep hg3 (fun e => hGg (by injection e with e; exact e.symm)) ?_
          intro e
          injection e with e
          have := hrr.2.2.2
          obtain ⟨cur, hbk, _⟩ := this.blk
          subst e
          exact (hown.ne hbk (by decide)) rfl
        have hgw3 : w.grownBy w3 (some g) := by
          refine ⟨hg3.os.trans hg.os, hg3.tape.trans hg.tape, hg3.output.trans hg.output, Nat.le_trans hsz (Nat.le_trans (by simp) hg3.size), fun q hq hne => ?_⟩
          have hG := hown.ge
          rw [hg3.block q (by simp; omega) (fun e => by injection e with e; omega), Below.heap_alloc _ _ _ (by omega)]
          exact hg.block q hq hne
        clear hrr hg3 hg hown hat
        go_wp2
        go_roundw
        case rel => exact ⟨k + 1, G', cap', b', hlt, by go_num, rfl, rfl, HB.out, by rw [← hnx.out], hown3, hr3, hgw3⟩
        case measure => simp [intOf]; omega
    · obtain rfl : k = m := by omega
      go_wp2
      go_ret2
      exact ⟨G, cap, rfl, hown, hrr, hg⟩

set_option maxHeartbeats 400000 in
theorem truths_any (g h c d n : Nat) (l : List Bool) (o : Nat) (w : World) (h0 : ∀ j, j < n → w.cell? ⟨g, j, none⟩ = some (.bool (l.getD j false))) (h1 : ∀ j, j < n → w.cell? ⟨h, o + j, none⟩ = some (.bool (l.getD j false))) (hn : n ≤ 1000) :
    Calls Tryd.prog 8 #[.slice (some ⟨g, 0, none⟩) n c, .slice (some ⟨h, o, none⟩) n d] w fun e w' => e = .returned (.bool true) ∧ ∃ q, w' = w.drewN q := by
  have ht : ((n : Int) != n) = false := by simp
  go_enter Tryd.func8, Tryd.ntmps8
  go_wp2_with fail
  go_loopw [13] (fun i wr => ∃ k : Nat, k ≤ n ∧ i = .int .i64 k ∧ ∃ q, wr = w.drewN q) (fun i _ => n - (intOf i).toNat)
  case atStart => exact ⟨0, Nat.zero_le _, rfl, 0, rfl⟩
  case round =>
    obtain ⟨k, hk, rfl, q, rfl⟩ := hrel
    by_cases hlt : k < n
    · have c0 := h0 k hlt
      have c1 := h1 k hlt
      have hkn : (k : Int) < n := by omega
      have hk0 : (0 : Int) ≤ k := by omega
      generalize l.getD k false = b at c0 c1
      have hb : (b != b) = false := by simp
      go_wp2_with fail
      go_quiet (fail)
      go_wp2
      go_roundw
      case rel => exact ⟨k + 1, hlt, by go_num, _, rfl⟩
      case measure => simp [intOf]; omega
    · obtain rfl : k = n := by omega
      go_wp2
      go_ret
      exact ⟨rfl, q, rfl⟩

set_option maxHeartbeats 800000 in
theorem zzb_any (f c n m : Nat) (l : List Int) (w : World) (B : Nat) (hown : Own w B 5 f c (u8s l)) (hl : l.length = n) (hn : n ≤ 100000) (h0 : 0 < m) (h1 : m ≤ 1000) (hpm : (m + 7) / 8 ≤ n) :
    Calls Tryd.prog 13 #[.slice (some ⟨f, 0, none⟩) n c, .int .u64 m] w fun e w' => ∃ G cap : Nat, e = .returned (.tuple #[.slice (some ⟨G, 0, none⟩) m cap, .int .i64 ((m + 7) / 8 : Nat), .nilIface]) ∧
      Own w' w.heap.size 4 G cap (bls (rds l 0 m)) ∧ Below w.heap.size w w' := by
  have hmc : n ≤ c := by have := hown.le; rw [u8s_length] at this; omega
  have HL := hid hl
  clear hl
  go_enter Tryd.func13, Tryd.ntmps13
  go_wp2_with fail
  refine (nr_any _ _ _ _).mono ?_
  rintro e w1 ⟨rfl, rfl⟩
  have hr : Rdr (w.alloc (.cells #[.slice (some ⟨f, 0, none⟩) n c, .int .i64 0, .int .i64 (-1)] 52)) w.heap.size f n c 0 l :=
    ⟨⟨-1, Bk.new _ _ _⟩, HL.out, hmc, (hown.mono (Nat.zero_le _)).alloc _⟩
  go_wp2_with fail
  refine (readb_any w.heap.size f c n 0 m l _ hr hn h0 h1 (by omega)).mono ?_
  rintro e w2 ⟨G, cap, rfl, hown2, hr2, hg2⟩
  have hB : Below w.heap.size w w2 := ((Below.refl _ _).alloc (Nat.le_refl _) _).grown hg2 (by simp) (fun j hj => by injection hj with hj; omega)
  have hown3 : Own w2 w.heap.size 4 G cap (bls (rds l 0 m)) := hown2.mono (by simp)
  obtain ⟨⟨p, hbk⟩, _⟩ := hr2
  have hbk' : Hid _ := hbk
  clear hbk hown2
  go_wp2_with fail
  refine (rlen_any w.heap.size _ n c (0 + (m + 7) / 8) _ _ hbk'.out (by omega) hn).mono ?_
  rintro e w3 ⟨rfl, q, rfl⟩
  have hB3 := below_drewN hB q
  go_wp2_with fail
  go_ret3
  exact ⟨G, cap, ret_num (by omega), hown3.drewN q, hB3⟩

set_option maxHeartbeats 800000 in
theorem bools_any (f c n m : Nat) (l : List Int) (w : World) (B : Nat) (hown : Own w B 5 f c (u8s l)) (hl : l.length = n) (hn : n ≤ 100000) (h0 : 0 < m) (h1 : m ≤ 1000) (hpm : (m + 7) / 8 ≤ n) :
    Calls Tryd.prog 7 #[.slice (some ⟨f, 0, none⟩) n c, .int .i64 m] w fun e w' => ∃ G cap : Nat, e = .returned (.tuple #[.slice (some ⟨G, 0, none⟩) m cap, .int .i64 ((m + 7) / 8 : Nat), .bool true]) ∧
      Own w' w.heap.size 4 G cap (bls (rds l 0 m)) ∧ Below w.heap.size w w' := by
  have HL := hid hl
  clear hl
  have hm0 : (0 : Int) ≤ m := by omega
  have hm1 : (m : Int) ≤ 1000 := by omega
  have h64 : IntKind.u64.wrap (m : Int) = m := by
    simp only [IntKind.wrap, IntKind.bits, IntKind.signed]; simp; omega
  go_enter Tryd.func7, Tryd.ntmps7
  go_wp2_with fail
  refine (clone_any f c n l _ B HL.out hown hn).mono ?_
  rintro e w1 ⟨g, cap, rfl, hown1, hb1⟩
  go_wp2_with fail
  refine (zzb_any g cap n m l _ _ hown1 HL.out hn h0 h1 hpm).mono ?_
  rintro e w2 ⟨G, cap2, rfl, hown2, hb2⟩
  have hB := hb1.trans (hb2.mono hb1.size)
  have hlen : (rds l 0 m).length = m := rds_length _ _ _
  have HLen := hid hlen
  clear hlen
  go_wp2_with fail
  refine (cloneb_any G cap2 m (rds l 0 m) _ _ HLen.out hown2 (by omega)).mono ?_
  rintro e w3 ⟨G3, cap3, rfl, hown3, hb3⟩
  have hB3 := hB.trans (hb3.mono hB.size)
  have hown4 := hown3.mono hB.size
  go_wp2
  go_ret3
  exact ⟨G3, cap3, rfl, hown4, hB3⟩
end Go.Proofs.YtfpepghmbeoanaaDoor

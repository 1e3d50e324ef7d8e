/-
  readOptionalBool and what stands above it: truths that are told behind a byte, or all true.
-/
import Derived.Test.YtfpepghmbeoanaaDoorWkC
namespace Go.Proofs.YtfpepghmbeoanaaDoor
open Go.RowKit

/-- m truths of which the first k are true. -/
def tru (m k : Nat) : List Bool := (List.range m).map fun i => decide (i < k)
theorem tru_length (m k : Nat) : (tru m k).length = m := by simp [tru]
theorem tru_zero (m : Nat) : tru m 0 = List.replicate m false := by
  apply List.ext_getElem?
  intro q
  unfold tru
  by_cases hq : q < m
  · rw [List.getElem?_map, List.getElem?_range hq, List.getElem?_replicate, if_pos hq]; rfl
  · rw [List.getElem?_eq_none (by simpa using hq), List.getElem?_eq_none (by simpa using hq)]
theorem tru_set (m k : Nat) (hk : k < m) : (tru m k).set k true = tru m (k + 1) := by
  apply List.ext_getElem?
  intro q
  rw [List.getElem?_set]
  unfold tru
  by_cases hq : q < m
  · rw [List.getElem?_map, List.getElem?_map, List.getElem?_range hq]
    by_cases e : k = q
    · subst e
      rw [if_pos rfl, if_pos (by simpa using hk)]; simp
    · rw [if_neg e]
      show some (decide (q < k)) = some (decide (q < k + 1))
      rw [decide_eq_decide.2 (show q < k ↔ q < k + 1 by omega)]
  · rw [if_neg (by omega), List.getElem?_eq_none (by simpa using hq), List.getElem?_eq_none (by simpa using hq)]

/-- What is read behind a byte that says whether all are true: the truths, and how far the reader has come. -/
def Res (l : List Int) (n m : Nat) (r : List Bool) (pos : Nat) : Prop :=
  (l[0]? = some 0 ∧ r = rds l 1 m ∧ pos = 1 + (m + 7) / 8 ∧ pos ≤ n) ∨ (∃ u : Int, l[0]? = some u ∧ u ≠ 0 ∧ r = tru m m ∧ pos = 1 ∧ pos ≤ n)
theorem Res.length {l : List Int} {n m : Nat} {r : List Bool} {pos : Nat} (h : Res l n m r pos) : r.length = m := by
  rcases h with ⟨_, rfl, _⟩ | ⟨_, _, _, rfl, _⟩
  · exact rds_length _ _ _
  · exact tru_length _ _
theorem Res.le {l : List Int} {n m : Nat} {r : List Bool} {pos : Nat} (h : Res l n m r pos) : pos ≤ n := by
  rcases h with ⟨_, _, _, h⟩ | ⟨_, _, _, _, _, h⟩ <;> exact h

set_option maxHeartbeats 800000 in
theorem reado_any (g f c n m : Nat) (l : List Int) (r : List Bool) (pos : Nat) (w : World) (hr : Rdr w g f n c 0 l) (hn : n ≤ 100000) (h0 : 0 < m) (h1 : m ≤ 1000) (hres : Res l n m r pos) :
    Calls Tryd.prog 22 #[.iface 45 (.pointer (some ⟨g, 0, none⟩)), .int .u64 m] w fun e w' => ∃ G cap : Nat, e = .returned (.tuple #[.slice (some ⟨G, 0, none⟩) m cap, .nilIface]) ∧
      Own w' w.heap.size 4 G cap (bls r) ∧ Rdr w' g f n c pos l ∧ w.grownBy w' (some g) := by
  have hm := fun w => method_rb ⟨g, 0, none⟩ w
  have hgf := hr.lt
  rcases hres with ⟨hu, rfl, rfl, hp⟩ | ⟨u, hu, hne, rfl, rfl, hp⟩
  · go_enter Tryd.func22, Tryd.ntmps22
    go_wp2_with fail
    refine (check_any m _ h0 (by omega)).mono ?_
    rintro e w' ⟨rfl, rfl⟩
    go_wp2_with fail
    refine (rb_any g f c n 0 l 0 _ hr hu hn).mono ?_
    rintro e w2 ⟨rfl, hr2, hg2⟩
    have hsz2 := hg2.size
    go_wp2_with fail
    refine (readb_any g f c n 1 m l _ hr2 hn h0 h1 hp).mono ?_
    rintro e w3 ⟨G, cap, rfl, hown3, hr3, hg3⟩
    have hgw := grown_trans hg2 hg3
    have hown := hown3.mono hsz2
    go_wp2
    go_ret2
    exact ⟨G, cap, rfl, hown, hr3, hgw⟩
  · have ht : (u == 0) = false := beq_eq_false_iff_ne.2 hne
    clear hne
    go_enter Tryd.func22, Tryd.ntmps22
    go_wp2_with fail
    refine (check_any m _ h0 (by omega)).mono ?_
    rintro e w' ⟨rfl, rfl⟩
    go_wp2_with fail
    refine (rb_any g f c n 0 l u _ hr hu hn).mono ?_
    rintro e w2 ⟨rfl, hr2, hg2⟩
    have hsz2 := hg2.size
    go_wp2_with (first | (at_make; refine wpl_make _ rfl _ _ 22 rfl 4 Tryd.underlying22 (.bool false) 1 Tryd.info4 rfl .u64 .u64 _ _ m m rfl rfl rfl rfl ?_ ?_ ?_ ?_))
    · omega
    · omega
    · omega
    intro w3 hown3 hb3
    have hgf2 := hr2.lt
    have hr3 : Rdr w3 g f n c 1 l := hr2.below hb3 hgf2.1 hgf2.2
    have hg3 : w.grownBy w3 (some g) := grown_below hg2 hb3
    have hown0 : Own w3 w2.heap.size 4 w2.heap.size m (bls (tru m 0)) := by rw [tru_zero]; simpa [bls] using hown3
    clear hr hr2 hb3 hown3 hg2 hu
    go_wp2_with fail
    go_loopw [35] (fun i wr => ∃ (k : Nat), k ≤ m ∧ i = .int .i64 k ∧ Own wr w2.heap.size 4 w2.heap.size m (bls (tru m k)) ∧ Rdr wr g f n c 1 l ∧ w.grownBy wr (some g)) (fun i _ => m - (intOf i).toNat)
    case atStart => exact ⟨0, Nat.zero_le _, rfl, hown0, hr3, hg3⟩
    case round =>
      clear hown0 hr3 hg3
      obtain ⟨k, hk, rfl, hown, hrr, hg⟩ := hrel
      by_cases hlt : k < m
      · have hkm : (k : Int) < m := by omega
        have hk0 : (0 : Int) ≤ k := by omega
        have hGg : w2.heap.size ≠ g := hrr.ne hown (by decide)
        obtain ⟨y, hcy⟩ : ∃ y : Bool, wr.cell? ⟨w2.heap.size, k, none⟩ = some (.bool y) := ⟨_, by rw [hown.cell (by rw [bls_length, tru_length]; exact hlt), bls_get, tru, List.getElem?_map, List.getElem?_range hlt]; rfl⟩
        have hfz : wr.frozen? ⟨w2.heap.size, k, none⟩ = false := hown.frozen _
        have hown2 : Own (wr.setCell ⟨w2.heap.size, k, none⟩ (.bool true)) w2.heap.size 4 w2.heap.size m (bls (tru m (k + 1))) := by
          rw [← tru_set m k hlt]
          have := hown.set k (.bool true)
          unfold bls at this ⊢
          rw [List.map_set]
          exact this
        have hgs : wr.grownBy (wr.setCell ⟨w2.heap.size, k, none⟩ (.bool true)) (some w2.heap.size) := grown_set (World.grownBy.refl wr _) k _
        have hf2 : f ≠ w2.heap.size := by
          obtain ⟨cur, hbk, _⟩ := hrr.2.2.2.blk
          rintro rfl
          exact (hown.ne hbk (by decide)) rfl
        have hr4 := hrr.keep hgs (fun e => hGg (by injection e with e; exact e.symm)) (fun e => hf2 (by injection e))
        have hg4 : w.grownBy (wr.setCell ⟨w2.heap.size, k, none⟩ (.bool true)) (some g) :=
          ⟨hg.os, hg.tape, hg.output, by simpa [World.setCell] using hg.size, fun q hq hne => (Below.heap_setCell wr ⟨w2.heap.size, k, none⟩ _ q (by show q ≠ w2.heap.size; omega)).trans (hg.block q hq hne)⟩
        clear hown hrr hg hgs hf2
        go_wp2
        go_roundw
        case rel => exact ⟨k + 1, hlt, by go_num, hown2, hr4, hg4⟩
        case measure => simp [intOf]; omega
      · obtain rfl : k = m := by omega
        have hown2 := hown.mono hsz2
        go_wp2
        go_ret2
        exact ⟨_, _, rfl, hown2, hrr, hg⟩

set_option maxHeartbeats 800000 in
theorem zzo_any (f c n m : Nat) (l : List Int) (r : List Bool) (pos : Nat) (w : World) (B : Nat) (hown : Own w B 5 f c (u8s l)) (hl : l.length = n) (hn : n ≤ 100000) (h0 : 0 < m) (h1 : m ≤ 1000) (hres : Res l n m r pos) :
    Calls Tryd.prog 16 #[.slice (some ⟨f, 0, none⟩) n c, .int .u64 m] w fun e w' => ∃ G cap : Nat, e = .returned (.tuple #[.slice (some ⟨G, 0, none⟩) m cap, .int .i64 pos, .nilIface]) ∧
      Own w' w.heap.size 4 G cap (bls r) ∧ Below w.heap.size w w' := by
  have hmc : n ≤ c := by have := hown.le; rw [u8s_length] at this; omega
  have HL := hid hl
  have hle := hres.le
  clear hl
  go_enter Tryd.func16, Tryd.ntmps16
  go_wp2_with fail
  refine (nr_any _ _ _ _).mono ?_
  rintro e w1 ⟨rfl, rfl⟩
  have hr : Rdr (w.alloc (.cells #[.slice (some ⟨f, 0, none⟩) n c, .int .i64 0, .int .i64 (-1)] 52)) w.heap.size f n c 0 l :=
    ⟨⟨-1, Bk.new _ _ _⟩, HL.out, hmc, (hown.mono (Nat.zero_le _)).alloc _⟩
  go_wp2_with fail
  refine (reado_any w.heap.size f c n m l r pos _ hr hn h0 h1 hres).mono ?_
  rintro e w2 ⟨G, cap, rfl, hown2, hr2, hg2⟩
  have hB : Below w.heap.size w w2 := ((Below.refl _ _).alloc (Nat.le_refl _) _).grown hg2 (by simp) (fun j hj => by injection hj with hj; omega)
  have hown3 : Own w2 w.heap.size 4 G cap (bls r) := hown2.mono (by simp)
  obtain ⟨⟨p, hbk⟩, _⟩ := hr2
  have hbk' : Hid _ := hbk
  clear hbk hown2
  go_wp2_with fail
  refine (rlen_any w.heap.size _ n c pos _ _ hbk'.out hle hn).mono ?_
  rintro e w3 ⟨rfl, q, rfl⟩
  have hB3 := below_drewN hB q
  go_wp2_with fail
  go_ret3
  exact ⟨G, cap, ret_num (by omega), hown3.drewN q, hB3⟩

set_option maxHeartbeats 800000 in
theorem opt_any (f c n m : Nat) (l : List Int) (r : List Bool) (pos : Nat) (w : World) (B : Nat) (hown : Own w B 5 f c (u8s l)) (hl : l.length = n) (hn : n ≤ 100000) (h0 : 0 < m) (h1 : m ≤ 1000) (hres : Res l n m r pos) :
    Calls Tryd.prog 9 #[.slice (some ⟨f, 0, none⟩) n c, .int .i64 m] w fun e w' => ∃ G cap : Nat, e = .returned (.tuple #[.slice (some ⟨G, 0, none⟩) m cap, .int .i64 pos, .bool true]) ∧
      Own w' w.heap.size 4 G cap (bls r) ∧ Below w.heap.size w w' := by
  have HL := hid hl
  clear hl
  have hm0 : (0 : Int) ≤ m := by omega
  have hm1 : (m : Int) ≤ 1000 := by omega
  have h64 : IntKind.u64.wrap (m : Int) = m := by
    simp only [IntKind.wrap, IntKind.bits, IntKind.signed]; simp; omega
  go_enter Tryd.func9, Tryd.ntmps9
  go_wp2_with fail
  refine (clone_any f c n l _ B HL.out hown hn).mono ?_
  rintro e w1 ⟨g, cap, rfl, hown1, hb1⟩
  go_wp2_with fail
  refine (zzo_any g cap n m l r pos _ _ hown1 HL.out hn h0 h1 hres).mono ?_
  rintro e w2 ⟨G, cap2, rfl, hown2, hb2⟩
  have hB := hb1.trans (hb2.mono hb1.size)
  have hlen : r.length = m := hres.length
  have HLen := hid hlen
  clear hlen
  go_wp2_with fail
  refine (cloneb_any G cap2 m r _ _ HLen.out hown2 (by omega)).mono ?_
  rintro e w3 ⟨G3, cap3, rfl, hown3, hb3⟩
  have hB3 := hB.trans (hb3.mono hB.size)
  have hown4 := hown3.mono hB.size
  go_wp2
  go_ret3
  exact ⟨G3, cap3, rfl, hown4, hB3⟩
end Go.Proofs.YtfpepghmbeoanaaDoor

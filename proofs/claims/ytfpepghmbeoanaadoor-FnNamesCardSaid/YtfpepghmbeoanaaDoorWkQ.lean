/-
  readNames, ZZNames, impl.Names: names read from bytes.
-/
import Derived.Test.YtfpepghmbeoanaaDoorWkP
namespace Go.Proofs.YtfpepghmbeoanaaDoor
open Go.RowKit

set_option maxRecDepth 100000 in
set_option maxHeartbeats 800000 in
theorem readnames_any (g f r c m : Nat) (l : List Int) (ea : Addr) (w : World) (hr : Rdr w g f (r + 1) c 0 l) (hl0 : l[0]? = some 0) (h0 : 0 < r) (hn : r + 1 ≤ 100000) (he : w.cell? ⟨3, 0, none⟩ = some (.iface 63 (.pointer (some ea)))) (h3 : 3 ≠ g)
    (us : List Int) (ss : List (List Int)) (hdat : l.drop 1 = dat us) (hus : ∀ u ∈ us, 0 ≤ u ∧ u < 128) (hfin : st us us.length = (ss, [])) (hm : ss.length = m) (hm0 : 0 < m) (hm1 : m ≤ 100000) :
    Calls Tryd.prog 23 #[.iface 45 (.pointer (some ⟨g, 0, none⟩)), .int .u64 m, .int .u64 ((r : Int) + 1)] w fun e w' => ∃ G cap : Nat, e = .returned (.tuple #[.slice (some ⟨G, 0, none⟩) m cap, .nilIface]) ∧ Own w' w.heap.size 9 G cap (strs ss) ∧ Kp w w' (fun k => k = g) := by
  have hmt := fun w => method_rb ⟨g, 0, none⟩ w
  have hmm : ((m : Int) != m) = false := by simp
  have hr1 : (r : Int) + 1 ≤ 100000 := by omega
  have hr0 : (0 : Int) < r := by omega
  have hm2 : (m : Int) ≤ 100000 := by omega
  have HDAT := hid hdat
  have HUS := hid hus
  have HFIN := hid hfin
  have HM := hid hm
  clear hdat hus hfin hm
  go_enter Tryd.func23, Tryd.ntmps23
  go_wp2_with fail
  refine (check_any m _ hm0 hm1).mono ?_
  rintro e w' ⟨rfl, rfl⟩
  go_wp2_with fail
  refine (rb_any g f c (r + 1) 0 l 0 _ hr hl0 hn).mono ?_
  rintro e w2 ⟨rfl, hr2, hg2⟩
  have he2 : w2.cell? ⟨3, 0, none⟩ = some (.iface 63 (.pointer (some ea))) := hg2.cell he (fun e => h3 (by injection e))
  have hkp2 : Kp w w2 (fun k => k = g) := (Kp.refl w _).grown hg2 (fun k hk _ => by injection hk with hk; exact hk.symm)
  have hsz := hg2.size
  clear hr he hl0 hg2
  go_wp2_with fail
  refine (split_any g f (r + 1) c 1 r l ea w2 hr2 (by omega) h0 hn he2 h3 us ss HDAT.out HUS.out HFIN.out).mono ?_
  rw [HM.out]
  rintro e w3 ⟨G, cap, rfl, hown3, hkp3⟩
  have hown := hown3.mono hsz
  have hkp := hkp2.trans hkp3
  clear hown3 hkp2 hkp3 hr2 he2
  go_wp2_with fail
  go_ret2
  exact ⟨G, cap, rfl, hown, hkp⟩
set_option maxRecDepth 100000 in
set_option maxHeartbeats 800000 in
theorem zznames_any (b r c m B : Nat) (ea : Addr) (w : World) (us : List Int) (ss : List (List Int)) (hown : Own w B 5 b c (u8s (dat us))) (hl : (dat us).length = r) (h0 : 0 < r) (hn : r + 1 ≤ 100000) (he : w.cell? ⟨3, 0, none⟩ = some (.iface 63 (.pointer (some ea))))
    (hus : ∀ u ∈ us, 0 ≤ u ∧ u < 128) (hfin : st us us.length = (ss, [])) (hm : ss.length = m) (hm0 : 0 < m) (hm1 : m ≤ 100000) :
    Calls Tryd.prog 17 #[.slice (some ⟨b, 0, none⟩) r c, .int .u64 m] w fun e w' => ∃ G cap : Nat, e = .returned (.tuple #[.slice (some ⟨G, 0, none⟩) m cap, .nilIface]) ∧ Own w' w.heap.size 9 G cap (strs ss) ∧ Below w.heap.size w w' := by
  have hr1 : (r : Int) + 1 ≤ 100000 := by omega
  have hlt := lt_of_cell he
  have hS := hown.src
  rw [u8s_length, hl] at hS
  have HL := hid hl
  have HUS := hid hus
  have HFIN := hid hfin
  have HM := hid hm
  clear hl hus hfin hm
  go_enter Tryd.func17, Tryd.ntmps17
  go_wp2_with (first | (at_builtin; refine wpl_app _ rfl _ _ 23 rfl 5 Tryd.underlying23 (.int .u8 0) 1 Tryd.info5 rfl w.heap.size w.heap.size 1 1 [.int .u8 0] rfl rfl (Own.new w #[.int .u8 0] 5 (by simp [maxLen])) (some ⟨b, 0, none⟩) r c (u8s (dat us)) rfl (hS.alloc _) ?c2 ?c3 ?c4 ?c5 ?_))
  case c2 => exact u8s_one _
  case c3 => omega
  case c4 => omega
  intro g2 cap2 w2 hown2 hg2 hat2
  have hB2 : Below w.heap.size w w2 := ((Below.refl _ _).alloc (Nat.le_refl _) _).grown hg2 (by simp) (fun j hj => by injection hj with hj; omega)
  have hown3 : Own w2 w.heap.size 5 g2 cap2 (u8s (0 :: dat us)) := hown2
  rw [Nat.add_comm 1 r]
  clear hown2 hg2 hat2 hown hS
  go_wp2_with fail
  refine (nr_any _ _ _ _).mono ?_
  rintro e w3 ⟨rfl, rfl⟩
  have hg2 := hown3.lt
  have hle := hown3.le
  have hr : Rdr (w2.alloc (.cells #[.slice (some ⟨g2, 0, none⟩) (r + 1) cap2, .int .i64 0, .int .i64 (-1)] 52)) w2.heap.size g2 (r + 1) cap2 0 (0 :: dat us) := by
    refine ⟨⟨-1, Bk.new _ _ _⟩, ?_, ?_, (hown3.mono (Nat.zero_le _)).alloc _⟩
    · rw [List.length_cons, HL.out]
    · rw [u8s_length, List.length_cons, HL.out] at hle; exact hle
  have hB3 : Below w.heap.size w (w2.alloc (.cells #[.slice (some ⟨g2, 0, none⟩) (r + 1) cap2, .int .i64 0, .int .i64 (-1)] 52)) := hB2.alloc hB2.size _
  have he3 : (w2.alloc (.cells #[.slice (some ⟨g2, 0, none⟩) (r + 1) cap2, .int .i64 0, .int .i64 (-1)] 52)).cell? ⟨3, 0, none⟩ = some (.iface 63 (.pointer (some ea))) := (hB3.cell hlt).trans he
  have h3 : 3 ≠ w2.heap.size := by have := hB2.size; have : 3 < w.heap.size := hlt; omega
  have hsz := hB2.size
  have hgs : w.heap.size ≤ w2.heap.size := hsz
  clear hle hown3 hB2 he
  generalize (w2.alloc (.cells #[.slice (some ⟨g2, 0, none⟩) (r + 1) cap2, .int .i64 0, .int .i64 (-1)] 52)) = W3 at *
  have hW := hB3.size
  go_wp2_with fail
  refine (readnames_any w2.heap.size g2 r cap2 m (0 :: dat us) ea W3 hr rfl h0 hn he3 h3 us ss rfl HUS.out HFIN.out HM.out hm0 hm1).mono ?_
  rintro e w4 ⟨G, cap, rfl, hown4, hkp4⟩
  have hB4 : Below w.heap.size w w4 := hB3.trans (hkp4.toBelow hW (fun k hk h => by omega))
  have hown5 := hown4.mono hW
  clear hr he3
  go_wp2_with fail
  go_ret2
  exact ⟨G, cap, rfl, hown5, hB4⟩

set_option maxHeartbeats 400000 in
theorem clones_any (g cap n : Nat) (l : List (List Int)) (w : World) (B : Nat) (hn : l.length = n) (hown : Own w B 9 g cap (strs l)) (hle : n ≤ 100000) :
    Calls Tryd.prog 18 #[.slice (some ⟨g, 0, none⟩) n cap] w fun e w' => ∃ g' cap' : Nat, e = .returned (.slice (some ⟨g', 0, none⟩) n cap') ∧
      Own w' w.heap.size 9 g' cap' (strs l) ∧ Below w.heap.size w w' := by
  have q := fun (w : World) (a : Option Addr) (n c n' c' : Nat) => Lib.run_eql_slice_nil (P := Tryd.prog) w 30 9 a n c n' c' Tryd.underlying30
  have hS := hown.src
  rw [strs_length, hn] at hS
  go_enter Tryd.func18, Tryd.ntmps18
  go_wp2_with (first | (at_builtin; refine wpl_app _ rfl _ _ 30 rfl 9 Tryd.underlying30 (.string ByteArray.empty) 16 Tryd.info9 rfl w.heap.size w.heap.size 0 0 [] rfl rfl (Own.new w #[] 9 (by simp [maxLen])) (some ⟨g, 0, none⟩) n cap (strs l) rfl (hS.alloc _) ?c2 ?c3 ?c4 ?c5 ?_))
  case c2 => exact strs_one _
  case c3 => omega
  case c4 => omega
  case c5 => simp
  · intro g2 cap2 w2 hown2 hg2 hat2
    have hB2 : Below w.heap.size w w2 := ((Below.refl _ _).alloc (Nat.le_refl _) _).grown hg2 (by simp) (fun j hj => by injection hj with hj; omega)
    go_wp2
    go_ret
    exact ⟨g2, cap2, ret_len (by omega), hown2, hB2⟩

set_option maxHeartbeats 800000 in
theorem names_any (b r c m B : Nat) (ea : Addr) (w : World) (us : List Int) (ss : List (List Int)) (hown : Own w B 5 b c (u8s (dat us))) (hl : (dat us).length = r) (h0 : 0 < r) (hn : r + 1 ≤ 100000) (he : w.cell? ⟨3, 0, none⟩ = some (.iface 63 (.pointer (some ea))))
    (hus : ∀ u ∈ us, 0 ≤ u ∧ u < 128) (hfin : st us us.length = (ss, [])) (hm : ss.length = m) (hm0 : 0 < m) (hm1 : m ≤ 100000) :
    Calls Tryd.prog 12 #[.slice (some ⟨b, 0, none⟩) r c, .int .i64 m] w fun e w' => ∃ G cap : Nat, e = .returned (.tuple #[.slice (some ⟨G, 0, none⟩) m cap, .bool true]) ∧ Own w' w.heap.size 9 G cap (strs ss) ∧ Below w.heap.size w w' := by
  have HL := hid hl
  have HUS := hid hus
  have HFIN := hid hfin
  have HM := hid hm
  have hlt := lt_of_cell he
  have HE := hid he
  clear hl hus hfin hm he
  have hm0' : (0 : Int) ≤ m := by omega
  have hm1' : (m : Int) ≤ 100000 := by omega
  have h64 : IntKind.u64.wrap (m : Int) = m := by
    simp only [IntKind.wrap, IntKind.bits, IntKind.signed]; simp; omega
  go_enter Tryd.func12, Tryd.ntmps12
  go_wp2_with fail
  refine (clone_any b c r (dat us) _ B HL.out hown (by omega)).mono ?_
  rintro e w1 ⟨g, cap, rfl, hown1, hb1⟩
  have he1 : w1.cell? ⟨3, 0, none⟩ = some (.iface 63 (.pointer (some ea))) := (hb1.cell hlt).trans HE.out
  go_wp2_with fail
  refine (zznames_any g r cap m _ ea _ us ss hown1 HL.out h0 hn he1 HUS.out HFIN.out HM.out hm0 hm1).mono ?_
  rintro e w2 ⟨G, cap2, rfl, hown2, hb2⟩
  have hB := hb1.trans (hb2.mono hb1.size)
  clear he1
  go_wp2_with fail
  refine (clones_any G cap2 m ss _ _ HM.out hown2 (by omega)).mono ?_
  rintro e w3 ⟨G3, cap3, rfl, hown3, hb3⟩
  have hB3 := hB.trans (hb3.mono hB.size)
  have hown4 := hown3.mono hB.size
  go_wp2
  go_ret2
  exact ⟨G3, cap3, rfl, hown4, hB3⟩
end Go.Proofs.YtfpepghmbeoanaaDoor

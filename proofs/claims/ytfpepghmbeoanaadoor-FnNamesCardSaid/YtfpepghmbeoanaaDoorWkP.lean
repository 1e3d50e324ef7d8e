import Derived.Test.YtfpepghmbeoanaaDoorWkN
import Derived.Test.YtfpepghmbeoanaaDoorLawN
namespace Go.Proofs.YtfpepghmbeoanaaDoor
open Go.RowKit

def zeros512 : Array Value := Array.replicate 512 (.int .u8 0)
theorem zeros512_size : zeros512.size = 512 := by simp [zeros512]
theorem zero71 (W : World) : (zeroValue 71).run Tryd.prog W = .ok (.agg zeros512) W := by kernel_rfl
theorem comp63 : (Tryd.prog.info? 63).map (·.comparable) = some true := by kernel_rfl
theorem size65 : (Tryd.prog.info? 65).map (·.size) = some 1 := by kernel_rfl
/-- io.EOF held against itself. -/
theorem eql_eof (ea : Addr) (W : World) : (binOp .eql 36 (.iface 63 (.pointer (some ea))) (.iface 63 (.pointer (some ea)))).run Tryd.prog W = .ok (.bool true) W := by
  obtain ⟨i, hi, hc⟩ := Option.map_eq_some_iff.1 comp63
  obtain ⟨j, hj, _⟩ := Option.map_eq_some_iff.1 size65
  exact run_eql_iface_ptr_same W ea Tryd.underlying36 Tryd.underlying63 hi hc hj
theorem eql_nil (ea : Addr) (W : World) : (binOp .eql 36 .nilIface (.iface 63 (.pointer (some ea)))).run Tryd.prog W = .ok (.bool false) W :=
  run_eql_iface_nil_left W 63 _ Tryd.underlying36

theorem own_of {w : World} {B : Nat} {e : TypeId} {v : Value} {n : Nat} {xs : List Value} (h : w.ownsRow B e 1 v n xs) (hn : 0 < n) : ∃ D cap, v = .slice (some ⟨D, 0, none⟩) n cap ∧ xs.length = n ∧ Own w B e D cap xs := by
  obtain ⟨D, cap, rfl, _, _⟩ := h.form hn
  have hl : xs.length = n := by simpa using h.1
  refine ⟨D, cap, rfl, hl, ?_⟩
  unfold Own
  rw [hl]
  exact h

set_option maxRecDepth 100000 in
set_option maxHeartbeats 800000 in
theorem split_any (g f n c i rem : Nat) (l : List Int) (ea : Addr) (w : World) (hr : Rdr w g f n c i l) (hrem : i + rem = n) (h0 : 0 < rem) (hn : n ≤ 100000) (he : w.cell? ⟨3, 0, none⟩ = some (.iface 63 (.pointer (some ea)))) (h3 : 3 ≠ g)
    (us : List Int) (ss : List (List Int)) (hdat : l.drop i = dat us) (hus : ∀ u ∈ us, 0 ≤ u ∧ u < 128) (hfin : st us us.length = (ss, [])) :
    Calls Tryd.prog 26 #[.iface 45 (.pointer (some ⟨g, 0, none⟩)), .int .i64 rem] w fun e w' => ∃ G cap : Nat, e = .returned (.tuple #[.slice (some ⟨G, 0, none⟩) ss.length cap, .nilIface]) ∧ Own w' w.heap.size 9 G cap (strs ss) ∧ Kp w w' (fun k => k = g) := by
  have hll : l.length = n := hr.2.1
  have hul : 2 * us.length = rem := by
    rw [← dat_length, ← hdat, List.length_drop, hll]; omega
  have HDAT := hid hdat
  have HUS := hid hus
  have HFIN := hid hfin
  have HUL := hid hul
  have HLL := hid hll
  clear hll hul hdat hus hfin
  have hz := zero71
  have hq1 := eql_eof ea
  have hq2 := eql_nil ea
  obtain ⟨i5, hi5, hz1, hz2, hz3⟩ := info_parts Tryd.info5
  have hgf := hr.lt
  have HE := hid he
  have HREM := hid hrem
  have h3w : 3 < w.heap.size := lt_of_cell he
  clear he hrem
  go_enter Tryd.func26, Tryd.ntmps26
  go_wp2_with fail
  go_loopg [7] (rem + 1) (fun kq v wr => ∃ (dn r : Nat), kq = r + 1 ∧ dn + r = rem ∧ Lim wr w.heap.size g r ∧ Rdr wr g f n c (i + dn) l ∧ (∃ cur : Array Value, Bk wr (w.heap.size + 1) 71 cur ∧ cur.size = 512) ∧
      wr.ownsRow (w.heap.size + 2) 5 1 v dn (u8s ((l.drop i).take dn)) ∧ Kp w wr (fun k => k = g) ∧ w.heap.size + 2 ≤ wr.heap.size)
  case atStart =>
    refine ⟨0, rem, rfl, by omega, ?_, ?_, ?_, ?_, ?_, ?_⟩
    · exact (Bk.new w _ _).alloc _
    · refine hr.below (((Below.refl _ _).alloc (Nat.le_refl _) _).alloc (by simp) _) hgf.1 hgf.2
    · refine ⟨zeros512, ?_, zeros512_size⟩
      have := Bk.new (w.alloc (.cells #[.iface 45 (.pointer (some ⟨g, 0, none⟩)), .int .i64 rem] 70)) 71 zeros512
      rw [show (w.alloc (.cells #[.iface 45 (.pointer (some ⟨g, 0, none⟩)), .int .i64 rem] 70)).heap.size = w.heap.size + 1 by simp] at this
      exact this
    · exact World.ownsRow_nil _ _ _ _
    · exact ((Kp.refl w _).alloc _).alloc _
    · simp
  case round =>
    clear hr
    obtain ⟨dn, r, rfl, hdr, hlim, hrr, ⟨cur, hbk, hcs⟩, hown, hkp, hsz⟩ := hrel
    have hew : wr.cell? ⟨3, 0, none⟩ = some (.iface 63 (.pointer (some ea))) := cell_kp hkp HE.out (fun h => h3 h)
    by_cases hr0 : r = 0
    · subst hr0
      obtain ⟨D, cap, rfl, hxl, hownD⟩ := own_of hown (by omega)
      obtain rfl : dn = rem := by omega
      have HXL := hid hxl
      clear hdr hown hxl
      go_wp2_with fail
      refine (lr0_any w.heap.size (w.heap.size + 1) 512 512 _ _ _ hlim hew).mono ?_
      rintro e w2 ⟨rfl, nq, rfl⟩
      have hew2 : (wr.drewN nq).cell? ⟨3, 0, none⟩ = some (.iface 63 (.pointer (some ea))) := hew
      clear hew hlim
      have hle := hownD.le
      rw [HXL.out] at hle
      have hown3 : Own (wr.drewN nq) (w.heap.size + 2) 5 D cap (u8s ((l.drop i).take dn)) := hownD.drewN nq
      have hk3 : Kp w (wr.drewN nq) (fun k => k = g) := hkp.drewN nq
      have hdt : (l.drop i).take dn = dat us := by
        rw [List.take_of_length_le, HDAT.out]
        rw [List.length_drop, HLL.out, ← HREM.out]; omega
      rw [hdt] at hown3
      have hD := hown3.lt
      have hW1 : w.heap.size + 2 ≤ (wr.drewN nq).heap.size := hsz
      have hDH := HREM.out
      have hdn : dn ≤ 100000 := by omega
      clear hownD hkp hrr hbk hcs hsz hdt HXL hDH
      generalize wr.drewN nq = W1 at *
      go_wp2_with fail
      go_loopw [11, 12, 13, 14] (fun names name op iv wq => ∃ (k G cp : Nat) (done : List (List Int)) (cu : List Int) (ob : Bool), k ≤ us.length ∧ Hid (st us k = (done, cu)) ∧ iv = .int .i64 (2 * k : Nat) ∧ names = .slice (some ⟨G, 0, none⟩) done.length cp ∧ op = .bool ob ∧ Hid (ob = !cu.isEmpty) ∧
        Own wq w.heap.size 9 G cp (strs done) ∧ wq.ownsRow W1.heap.size 5 1 name cu.length (u8s cu) ∧ Own wq (w.heap.size + 2) 5 D cap (u8s (dat us)) ∧ Kp w wq (fun k => k = g) ∧ W1.heap.size ≤ wq.heap.size) (fun _ _ _ iv _ => dn - (intOf iv).toNat)
      case atStart =>
        refine ⟨0, W1.heap.size, 0, [], [], false, Nat.zero_le _, st_zero us, rfl, rfl, rfl, rfl, ?_, ?_, hown3.alloc _, hk3.alloc _, by simp⟩
        · exact (Own.new W1 #[] 9 (by simp [maxLen])).mono (by omega)
        · exact World.ownsRow_nil _ _ _ _
      case round =>
        clear hown3 hk3
        obtain ⟨k, G, cp, done, cu, ob, hk, HST, rfl, rfl, rfl, HOB, hnm, hna, hda, hkp, hsz⟩ := hrel
        by_cases hlt : k < us.length
        · obtain ⟨u, hu⟩ : ∃ u, us[k]? = some u := ⟨_, List.getElem?_eq_getElem hlt⟩
          have hub := HUS.out u (List.mem_of_getElem? hu)
          have hcd : cu.length ≤ k ∧ done.length ≤ k := by
            have := st_le us k
            rw [HST.out] at this
            exact ⟨by simp at this; omega, by simp at this; omega⟩
          have hc0 : wr.cell? ⟨D, 2 * k, none⟩ = some (.int .u8 u) := by
            rw [hda.cell (by rw [u8s_length, dat_length]; omega), u8s_get, dat_even, hu]; rfl
          have hc1 : wr.cell? ⟨D, 2 * k + 1, none⟩ = some (.int .u8 0) := by
            rw [hda.cell (by rw [u8s_length, dat_length]; omega), u8s_get, dat_odd us k hlt]; rfl
          have hdl := HUL.out
          obtain ⟨j, hj⟩ : ∃ j, j = 2 * k := ⟨_, rfl⟩
          have hj1 : (j : Int) < dn := by omega
          have hj2 : (j : Int) + 1 < dn := by omega
          have hj3 : ((j : Int) + 1 == (dn : Int)) = false := by simp; omega
          have hj0 : (0 : Int) ≤ j := by omega
          have hle' : (dn : Int) ≤ cap := by omega
          have hu2 : u < 55296 := by omega
          rw [← hj] at hc0 hc1 ⊢
          have HJ := hid hj
          have HU := hid hu
          clear hj hu
          go_wp2_with fail
          go_quiet (fail)
          rw [or_zero u hub.1 hub.2]
          have hna2 : (wr.drewN nq).ownsRow W1.heap.size 5 1 u12 cu.length (u8s cu) := hna
          have hnm2 : Own (wr.drewN nq) w.heap.size 9 G cp (strs done) := hnm
          have hda2 : Own (wr.drewN nq) (w.heap.size + 2) 5 D cap (u8s (dat us)) := hda
          have hkp2 : Kp w (wr.drewN nq) (fun k => k = g) := hkp.drewN nq
          have hsz2 : W1.heap.size ≤ (wr.drewN nq).heap.size := hsz
          have hj4 : (j : Int) + 2 ≤ 100000 := by omega
          clear hna hnm hda hkp hsz hc0 hc1 hj1 hj2 hj3 hle'
          generalize wr.drewN nq = W2 at *
          have HCD := hid hcd
          have HUB := hid hub
          have HDL := hid hdl
          clear hcd hub hdl
          by_cases hu0 : u = 0
          · subst hu0
            have hcv := conv_name 23 5 9 Tryd.underlying23 Tryd.underlying5 Tryd.underlying9 hna2
            go_wp2_with (first | (at_builtin; refine wpl_app _ rfl (.tmp 116) (.tmp 119) 30 rfl 9 Tryd.underlying30 (.string ByteArray.empty) 16 Tryd.info9 rfl w.heap.size G done.length cp (strs done) rfl (strs_length _) (hnm2.alloc _) (some ⟨W2.heap.size, 0, none⟩) 1 1 (strs [cu]) rfl ?_ ?_ ?_ ?_ ?_ ?_))
            · exact Src.one (Bk.new _ _ _)
            · exact strs_one _
            · have := HCD.out; have := HDL.out; omega
            · have := HCD.out; have := HDL.out; omega
            · have := hkp2.size; simp; omega
            intro G' cap' w3 hown3 hg3 hat
            rw [strs_append] at hown3
            have hst := (st_nul HU.out).trans (by rw [HST.out] : _ = (done ++ [cu], []))
            have hda3 : Own w3 (w.heap.size + 2) 5 D cap (u8s (dat us)) := (hda2.alloc _).grown hg3 (fun e => by injection e with e; exact own_ne hda2 hnm2 (by decide) e)
            have hkp3 : Kp w w3 (fun k => k = g) := (hkp2.alloc _).grown hg3 (fun k hk hlt => by injection hk with hk; have := hnm2.ge; omega)
            have hsz3 : W1.heap.size ≤ w3.heap.size := Nat.le_trans hsz2 (Nat.le_trans (by simp) hg3.size)
            have HST3 := hid hst
            have HLen : Hid ((done ++ [cu]).length = done.length + 1) := by show _ = _; simp
            clear hna2 hnm2 hda2 hkp2 hsz2 hg3 hat hst hcv
            go_wp2
            have hj := HJ.out
            have hdl := HDL.out
            go_roundw
            case rel =>
              refine ⟨k + 1, G', cap', done ++ [cu], [], false, hlt, HST3.out, by go_num, ?_, rfl, rfl, hown3, World.ownsRow_nil _ _ _ _, hda3, hkp3, hsz3⟩
              rw [HLen.out]
            case measure => simp [intOf]; omega
          · have hune : (u == 0) = false := by simpa using hu0
            go_wp2_with (first | (at_builtin; refine Lib.wpList_append_own_string _ rfl (.tmp 121) (.tmp 123) 23 9 rfl W1.heap.size 5 i5 Tryd.underlying23 Tryd.underlying9 hi5 hz1 hz2 hz3 u12 cu.length (u8s cu) rfl hna2 (Utf8.encode u) rfl ?_ ?_ hsz2 ?_))
            · rw [enc_size u HUB.out.1 HUB.out.2]; have := HCD.out; have := HDL.out; unfold maxLen; omega
            · rw [enc_size u HUB.out.1 HUB.out.2]; have := HCD.out; have := HDL.out; omega
            rw [enc_size u HUB.out.1 HUB.out.2, enc_small u HUB.out.1 HUB.out.2, u8s_append]
            intro v' w3 hown3 hg3 hn3
            have hst := (st_put HU.out hu0).trans (by rw [HST.out] : _ = (done, cu ++ [u]))
            have hnm3 : Own w3 w.heap.size 9 G cp (strs done) := hnm2.grown hg3 (ownsRow_ne hna2 hnm2 (by decide))
            have hda3 : Own w3 (w.heap.size + 2) 5 D cap (u8s (dat us)) := hda2.grown hg3 (fun e => by have := (hna2.lt D e.symm).1; omega)
            have hkp3 : Kp w w3 (fun k => k = g) := hkp2.grown hg3 (fun k hk hlt => by have := (hna2.lt k hk).1; omega)
            have hsz3 : W1.heap.size ≤ w3.heap.size := Nat.le_trans hsz2 hg3.size
            have HST3 := hid hst
            have HOW3 := hid hown3
            obtain ⟨L, hL⟩ : ∃ L, L = cu.length + 1 := ⟨_, rfl⟩
            have hlen3 : (L : Int) < 65536 := by have := HCD.out; have := HDL.out; omega
            rw [← hL] at hown3
            obtain ⟨N, cn, rfl, hxl, hx2⟩ := own_of hown3 (by omega)
            have HL := hid hL
            clear hna2 hnm2 hda2 hkp2 hsz2 hg3 hn3 hst hown3 hxl hx2 hL hune
            have hlen4 : ¬ (65536 : Int) ≤ L := by omega
            clear hlen3
            go_wp2_with fail
            have hj := HJ.out
            have hdl := HDL.out
            have hL := HL.out
            subst hL
            go_roundw
            case rel =>
              refine ⟨k + 1, G, cp, done, cu ++ [u], true, hlt, HST3.out, by go_num, rfl, rfl, ?_, hnm3, ?_, hda3, hkp3, hsz3⟩
              · show _ = _; simp
              · have := HOW3.out
                rw [List.length_append]
                exact this
            case measure => simp [intOf]; omega
        · obtain rfl : k = us.length := by omega
          have hs := HFIN.out
          rw [HST.out] at hs
          injection hs with h1 h2
          subst h1
          subst h2
          have hn0 : ob = false := HOB.out
          subst hn0
          clear HOB
          have hul := HUL.out
          obtain ⟨j, hj⟩ : ∃ j, j = 2 * us.length := ⟨_, rfl⟩
          have hj1 : ¬ (j : Int) < dn := by omega
          rw [← hj]
          clear hj hul
          go_wp2_with fail
          go_ret2
          exact ⟨G, cp, rfl, hnm, hkp⟩
    · obtain ⟨K, hK⟩ : ∃ K, K = min 512 r := ⟨_, rfl⟩
      have hqb : w.heap.size ≠ w.heap.size + 1 := by omega
      have hbf : w.heap.size + 1 ≠ f := by omega
      have hbg : w.heap.size + 1 ≠ g := by omega
      have hKr : K ≤ r := by omega
      have hK5 : K ≤ 512 := by omega
      have hK0 : 0 < K := by omega
      have hrd := lr1_any w.heap.size g f c n (i + dn) r (w.heap.size + 1) l wr hlim hrr (by rw [← HREM.out]; omega) (by omega) cur 71 hbk hcs hbg hbf hqb hn K hK
      have HRD := hid hrd
      have HDR := hid hdr
      have hown1 := hown
      clear hrd hlim hrr hbk hcs hK hdr hown hr0
      have hKi : (K : Int) ≤ 512 := by omega
      have hKi0 : (0 : Int) ≤ K := by omega
      go_wp2_with fail
      refine Calls.mono HRD.out ?_
      rintro e w2 ⟨rfl, hl2, hr2, ⟨cur2, hb2, hs2, ht2⟩, hk2, hz2⟩
      have hew2 : w2.cell? ⟨3, 0, none⟩ = some (.iface 63 (.pointer (some ea))) := cell_kp hk2 hew (by rintro (h | h | h) <;> simp at h <;> omega)
      have hsz2 : w.heap.size + 2 ≤ w2.heap.size := by rw [hz2]; exact hsz
      have hown2 := ownsRow_kp hown1 hk2 (fun D hD => by have := (hown1.lt D hD).1; rintro (h | h | h) <;> omega)
      have hkp2 : Kp w w2 (fun k => k = g) := hkp.trans2 hk2 (fun k hk h => by rcases h with h | h | h <;> omega)
      clear hown1 hk2 hew hkp hsz hz2
      go_wp2_with (first | (at_builtin; refine wpList_append_own_at _ rfl (.tmp 28) (.tmp 30) 23 rfl (w.heap.size + 2) 5 i5 (.int .u8 0) 1 1 Tryd.underlying23 hi5 hz1 hz2 hz3 rfl (by omega) u7 dn (u8s ((l.drop i).take dn)) rfl hown2 ⟨w.heap.size + 1, 0, none⟩ K 512 (u8s ((l.drop (i + dn)).take K)) rfl ?_ ?_ (u8s_one _) ?_ ?_ hsz2 ?_))
      · rw [u8s_length, List.length_take, List.length_drop, hr2.2.1, ← HREM.out]
        have := HDR.out
        omega
      · intro j u hu
        have hjK : j < K := by
          have h := (List.getElem?_eq_some_iff.1 hu).1
          rw [u8s_length, List.length_take] at h
          omega
        rw [add_lit, hb2.cell, ← hu, ← ht2, List.getElem?_take, if_pos hjK]
        simp
      · unfold maxLen; have := HDR.out; have := HREM.out; omega
      · have := HDR.out; have := HREM.out; omega
      intro v' w3 hown3 hg3 hn3 hat3
      have hown4 : w3.ownsRow (w.heap.size + 2) 5 1 v' (dn + K) (u8s ((l.drop i).take (dn + K))) := by
        rw [List.take_add, List.drop_drop, ← u8s_append]
        exact hown3
      have hrow : ∀ D, u7.ownBlock = some D → w.heap.size + 2 ≤ D := fun D hD => (hown2.lt D hD).1
      have hew3 : w3.cell? ⟨3, 0, none⟩ = some (.iface 63 (.pointer (some ea))) := hg3.cell hew2 (fun e => by have := hrow _ e.symm; simp at this; omega)
      have hk3 : Kp w w3 (fun k => k = g) := hkp2.grown hg3 (fun k hk hlt => by have := hrow _ hk; omega)
      have hl3 : Lim w3 w.heap.size g (r - K) := Bk.grown hl2 hg3 (fun e => by have := hrow _ e.symm; omega)
      have hb3 : Bk w3 (w.heap.size + 1) 71 cur2 := hb2.grown hg3 (fun e => by have := hrow _ e.symm; omega)
      have hr3 : Rdr w3 g f n c (i + (dn + K)) l := by
        rw [← Nat.add_assoc]
        exact hr2.keep hg3 (fun e => by have := hrow _ e.symm; omega) (fun e => by have := hrow _ e.symm; omega)
      have hsz3 : w.heap.size + 2 ≤ w3.heap.size := Nat.le_trans hsz2 hg3.size
      clear hew2 hown2 hkp2 hl2 hb2 hr2 hown3 hg3 hn3 hat3 hrow hsz2 ht2
      go_wp2
      go_roundg (r - K + 1)
      case measure => omega
      case rel => exact ⟨dn + K, r - K, rfl, by have := HDR.out; omega, hl3, hr3, ⟨cur2, hb3, hs2⟩, hown4, hk3, hsz3⟩
end Go.Proofs.YtfpepghmbeoanaaDoor

/-
  Proved: laws.FnBools returns true for every list of truths and every slice of bytes: truths are read from their bits, the highest first (the tied card of the seat).
  Conditions: the package variables errUint64NonZero and errUint64TooLarge read at the call as the program's text lays them; the card ties this to the text (the tie is given with the seat; that nothing else writes them is the translator's report over the pruned copy of the project).
-/
import Derived.Test.YtfpepghmbeoanaaDoorRows
import Derived.Test.YtfpepghmbeoanaaDoorCards
import Derived.Test.YtfpepghmbeoanaaDoorTie
import Derived.Test.YtfpepghmbeoanaaDoorWkC
import Derived.ProofKit
import Derived.LaidMore
import Derived.OpenShut
import Derived.OpenVars
import Derived.ChangeOld
import Derived.Deep.Grids
import Derived.SevenTiedAt
namespace Go.Proofs.YtfpepghmbeoanaaDoor
open Go.RowKit

set_option maxHeartbeats 800000 in
theorem topb_any (b o n c : Nat) (l : List Bool) (A : Option Addr) (m d : Nat) (z : List Int) (w : World) (hl : l.length = n) (hc : ∀ j, j < n → w.cell? ⟨b, o + j, none⟩ = some (.bool (l.getD j false))) (hb : b < w.heap.size)
    (h0 : 0 < n) (h1 : n ≤ 100) (hS : Src w A m (u8s z)) (hz : z.length = m) (hm : m ≤ 20) :
    Calls Tryd.prog 3 #[.slice (some ⟨b, o, none⟩) n c, .slice A m d] w fun e w' => e = .returned (.bool true) ∧ Below w.heap.size w w' := by
  have HL := hid hl
  have HZ := hid hz
  have HC := hid hc
  have hn0 : ((n : Int) == 0) = false := beq_eq_false_iff_ne.2 (by omega)
  have hn1 : (n : Int) ≤ 100 := by omega
  have hm1 : (m : Int) ≤ 20 := by omega
  clear hl hz hc
  obtain ⟨N, hN⟩ : ∃ N : Nat, Hid (N = (n + 7) / 8) := ⟨_, rfl⟩
  have hN1 : N ≤ 20 := by have := hN.out; omega
  have hbits := bits_any b o n c l w HL.out HC.out hb h0 (by omega)
  rw [← hN.out] at hbits
  have HB := hid hbits
  clear hbits
  go_enter Tryd.func3, Tryd.ntmps3
  go_wp2_with fail
  refine Calls.mono HB.out ?_
  rintro e w1 ⟨g, rfl, hown, hb1⟩
  have hS0 := hown.src
  rw [u8s_length, bitsK_length] at hS0
  go_wp2_with (first | (at_builtin; refine wpl_app _ rfl (.tmp 33) (.tmp 34) 23 rfl 5 Tryd.underlying23 (.int .u8 0) 1 Tryd.info5 rfl w1.heap.size w1.heap.size 0 0 (u8s []) rfl rfl (Own.new w1 #[] 5 (by simp [maxLen])) (some ⟨g, 0, none⟩) N N (u8s (bitsK l N n)) rfl (hS0.alloc _) (u8s_one _) (by omega) (by omega) (by simp) ?_))
  intro g2 cap2 w2 hown2 hg2 hat2
  have e2 : u8s [] ++ u8s (bitsK l N n) = u8s (bitsK l N n) := rfl
  rw [e2] at hown2
  clear e2
  have hBa : Below w1.heap.size w1 w2 := ((Below.refl _ _).alloc (Nat.le_refl _) _).grown hg2 (by simp) (fun j hj => by injection hj with hj; omega)
  have hB2 : Below w.heap.size w w2 := hb1.trans (hBa.mono hb1.size)
  have hS2 : Src w2 A m (u8s z) := hS.below hB2
  have hl2 : (u8s (bitsK l N n)).length = 0 + N := by rw [u8s_length, bitsK_length]; omega
  have Hl2 := hid hl2
  clear hl2 hg2 hat2 hS0 hown
  have hsz2 := hBa.size
  go_wp2_with (first | (at_builtin; refine wpl_app _ rfl (.tmp 35) (.tmp 36) 23 rfl 5 Tryd.underlying23 (.int .u8 0) 1 Tryd.info5 rfl w1.heap.size g2 _ cap2 (u8s (bitsK l N n)) rfl (by simpa using Hl2.out) hown2 A m d (u8s z) rfl hS2 (u8s_one _) (by omega) (by omega) hsz2 ?_))
  intro g3 cap3 w3 hown3 hg3 hat3
  rw [u8s_append] at hown3
  have hB3 : Below w.heap.size w w3 := hB2.grown hg3 hB2.size (fun j hj => by injection hj with hj; have := hown2.ge; have := hb1.size; omega)
  have hl3 : Hid ((bitsK l N n ++ z).length = N + m) := by show _ = _; rw [List.length_append, bitsK_length, HZ.out]
  have hrd : Hid (rds (bitsK l N n ++ z) 0 n = l) := by
    have := rds_bits l n HL.out [] z
    rw [← hN.out] at this
    exact this
  clear hS2 hB2 hg3 hat3 hown2 hBa
  go_wp2_with fail
  refine (bools_any g3 cap3 (N + m) n (bitsK l N n ++ z) _ _ hown3 hl3.out (by omega) h0 (by omega) (by have := hN.out; omega)).mono ?_
  rw [hrd.out, ← hN.out]
  rintro e w4 ⟨G, cap4, rfl, hown4, hb4⟩
  have hB4 := hB3.trans (hb4.mono hB3.size)
  have t2 : ((N : Int) == N) = true := beq_iff_eq.2 rfl
  have hc1 : ∀ j, j < n → w4.cell? ⟨G, j, none⟩ = some (.bool (l.getD j false)) := fun j hj => by
    rw [hown4.cell (by rw [bls_length, HL.out]; exact hj), bls_get, List.getD_eq_getElem?_getD, List.getElem?_eq_getElem (by rw [HL.out]; exact hj)]; rfl
  have hc2 : ∀ j, j < n → w4.cell? ⟨b, o + j, none⟩ = some (.bool (l.getD j false)) := fun j hj => (hB4.cell (p := ⟨b, o + j, none⟩) hb).trans (HC.out j hj)
  have H1 := hid hc1
  have H2 := hid hc2
  clear hc1 hc2 hown3 hown4 hb4 hb1
  go_wp2_with fail
  refine (truths_any G b cap4 c n l o _ H1.out H2.out (by omega)).mono ?_
  rintro e w5 ⟨rfl, q, rfl⟩
  have hB5 := below_drewN hB4 q
  go_wp2
  go_ret
  exact ⟨rfl, hB5⟩

end Go.Proofs.YtfpepghmbeoanaaDoor
namespace Go.Proofs.YtfpepghmbeoanaaDoor.fnBools
open Go.ChangeShapes Go.WideShapes Go.ChangeAt Go.RowKit Go.Deep

theorem own : ownKnob Tryd.prog.godebug = none := by kernel_rfl
theorem laidOut : laidOutB Tryd.prog = true := by kernel_rfl

/-- The door's own heap meets the condition. -/
theorem door_met (os : Os) (args : Array Value) : laidMetH Tryd.prog Rows.fnBoolsRow.laid ((World.doorLaid Tryd.prog 104 os).forCall (fun _ _ => 0) ⟨#[], args, []⟩).memory :=
  laidMetH_of_parts3 (fuel := 8) (laidMet_of_run' 8 (by kernel_rfl) (by kernel_rfl)) (by kernel_rfl) (by kernel_rfl)

/-- What the walk is told of the two slices that came in. -/
def IsBools (w : World) (A : Option Addr) (n c : Nat) (B : Nat → Bool) : Prop := (A = none ∧ n = 0 ∧ c = 0) ∨ ∃ a : Addr, A = some a ∧ n ≤ c ∧ ∀ i, i < c → w.cell? (a.add i) = some (.bool (B i))
def IsBytes (w : World) (A : Option Addr) (n c : Nat) (zs : List Int) : Prop := (A = none ∧ n = 0 ∧ c = 0) ∨ ∃ a : Addr, A = some a ∧ n ≤ c ∧ zs.length = c ∧ ∀ i, i < zs.length → w.cell? (a.add i) = some (.int .u8 (zs.getD i 0))

theorem walk (A : Option Addr) (n c : Nat) (B : Nat → Bool) (A1 : Option Addr) (m d : Nat) (zs : List Int) (w : World) (hl : IsBools w A n c B) (hz : IsBytes w A1 m d zs) :
    Calls Tryd.prog 3 #[.slice A n c, .slice A1 m d] w fun e w' => e = .returned (.bool true) ∧ Below w.heap.size w w' := by
  have hzs : Src w A1 m (u8s (zs.take m)) ∧ (zs.take m).length = m ∨ (m = 0 ∧ A1 = none) := by
    rcases hz with ⟨rfl, rfl, _⟩ | ⟨x, rfl, hl, hz, hcell⟩
    · exact .inr ⟨rfl, rfl⟩
    · have hlen : (zs.take m).length = m := by rw [List.length_take]; omega
      refine .inl ⟨⟨by rw [u8s_length, hlen], fun _ => ⟨x, rfl, fun j u hu => ?_⟩⟩, hlen⟩
      rw [u8s_get] at hu
      have hj : j < m := by
        rcases Nat.lt_or_ge j m with h | h
        · exact h
        · rw [List.getElem?_eq_none (by omega)] at hu; cases hu
      rw [List.getElem?_take, if_pos hj, List.getElem?_eq_getElem (by omega)] at hu
      rw [hcell j (by omega), List.getD_eq_getElem?_getD, List.getElem?_eq_getElem (by omega)]
      exact hu
  obtain ⟨z, hS, hzl⟩ : ∃ z : List Int, Src w A1 m (u8s z) ∧ z.length = m := by
    rcases hzs with h | ⟨rfl, rfl⟩
    · exact ⟨_, h.1, h.2⟩
    · exact ⟨[], ⟨rfl, fun h => by omega⟩, rfl⟩
  clear hz hzs
  by_cases a1 : n ≤ 2147483647
  · have b1 : (n : Int) ≤ 2147483647 := by omega
    by_cases a2 : m ≤ 2147483647
    · have b2 : (m : Int) ≤ 2147483647 := by omega
      by_cases a3 : n = 0
      · subst a3
        clear hl
        go_enter Tryd.func3, Tryd.ntmps3
        go_wp2
        go_ret
        exact ⟨rfl, Below.refl _ _⟩
      · have b3 : ((n : Int) == 0) = false := beq_eq_false_iff_ne.2 (by omega)
        by_cases a4 : n ≤ 100
        · have b4 : (n : Int) ≤ 100 := by omega
          by_cases a5 : m ≤ 20
          · rcases hl with ⟨_, h, _⟩ | ⟨a, rfl, hnc, hcell⟩
            · exact absurd h a3
            · obtain ⟨b, o, spot⟩ := a
              have h0 := hcell 0 (by omega)
              have hspot : spot = none := by simpa [Addr.add] using World.cell?_spot h0
              subst hspot
              have hadd : ∀ i, (⟨b, o, none⟩ : Addr).add i = ⟨b, o + i, none⟩ := fun i => by unfold Addr.add; split <;> simp_all
              have hc : ∀ j, j < n → w.cell? ⟨b, o + j, none⟩ = some (.bool (((List.range n).map B).getD j false)) := fun j hj => by
                rw [← hadd, hcell j (by omega), List.getD_eq_getElem?_getD, List.getElem?_map, List.getElem?_range hj]; rfl
              exact topb_any b o n c ((List.range n).map B) A1 m d z w (by simp) hc (lt_of_cell h0) (by omega) a4 hS hzl a5
          · have b5 : (20 : Int) < m := by omega
            clear hl a3
            go_enter Tryd.func3, Tryd.ntmps3
            go_wp2
            go_ret
            exact ⟨rfl, Below.refl _ _⟩
        · have b4 : (100 : Int) < n := by omega
          clear hl a3
          go_enter Tryd.func3, Tryd.ntmps3
          go_wp2
          go_ret
          exact ⟨rfl, Below.refl _ _⟩
    · have b2 : (2147483647 : Int) < m := by omega
      clear hl
      go_enter Tryd.func3, Tryd.ntmps3
      go_wp2
      go_ret
      exact ⟨rfl, Below.refl _ _⟩
  · have b1 : (2147483647 : Int) < n := by omega
    clear hl
    go_enter Tryd.func3, Tryd.ntmps3
    go_wp2
    go_ret
    exact ⟨rfl, Below.refl _ _⟩

set_option maxRecDepth 100000 in
theorem lifted (os : Os) (started : os.Started) (H : Type) (enc : TypeId × Value → H) :
    ReturnsInHanded {} Tryd.checked os 3 .any (fun w args => (Rows.fnBoolsSpec.pre enc Tryd.prog Tryd.f3 [] false w args ∧ laidMetH Tryd.prog Rows.fnBoolsRow.laid w) ∧ sizedMet enc Tryd.prog Tryd.f3 (OpenSpec.ofChange Rows.fnBoolsSpec) false w args)
      (Rows.fnBoolsSpec.post enc Tryd.prog Tryd.f3 false true false false) := by
  refine returnsInHanded_of_change_and (C := Tryd.checked) (X := fun w _ => laidMetH Tryd.prog Rows.fnBoolsRow.laid w) (fun _ _ _ hh h => h.of_heap hh) own started (by kernel_rfl) Tryd.func3
    (ChangeSpec.witness_shaped (enc := enc) (C := Tryd.checked) (os := os) (X := fun w _ => laidMetH Tryd.prog Rows.fnBoolsRow.laid w) false (World.doorLaid Tryd.prog 104 os) #[.slice none 0 0, .slice none 0 0] 8 rfl (World.shaped_of_RefB (by kernel_rfl) (by kernel_rfl)) (by kernel_rfl) (by kernel_rfl) (by kernel_rfl) (door_met os _)) ?_
  intro W base args ds gs before hval0 hW _ _ hL _
  have hval : ∀ (j : Nat) t v, Tryd.f3.params[j]? = some t → args[j]? = some v → Value.okWide Tryd.prog W .any base t v := hval0
  have hW' := hW
  obtain ⟨p, q, hA0, hV0, rfl, hfz, hnd⟩ := hW
  have hA : DataW.TrodAll enc Tryd.prog W 0 (fun _ => true) true Tryd.f3.params.toList args.toList ds p := hA0
  rw [Tryd.params3] at hA hval
  obtain ⟨v0, v1, d0, d1, p0, p1, rfl, rfl, rfl, h0, h1⟩ := trodAll_two hA
  obtain ⟨A, n, c, rfl⟩ := okWide_slice Tryd.underlying22 (hval 0 22 v0 rfl rfl)
  obtain ⟨A1, m, d, rfl⟩ := okWide_slice Tryd.underlying23 (hval 1 23 v1 rfl rfl)
  have k0 := h0
  have k1 := h1
  have lt0 : ∀ x ∈ p0, x.block < W.heap.size := by obtain ⟨u, hu⟩ := k0; exact DataW.trod_lt u _ _ _ hu
  have lt1 : ∀ x ∈ p1, x.block < W.heap.size := by obtain ⟨u, hu⟩ := k1; exact DataW.trod_lt u _ _ _ hu
  obtain ⟨B, hl⟩ : ∃ B, IsBools W A n c B := by
    obtain ⟨fuel, hf⟩ := h0
    rcases open_bools Tryd.underlying22 Tryd.underlying4 (by kernel_rfl) hf with ⟨hcs, _⟩ | ⟨x, l, c', B, hcs, _, hl, hm, _, hcell⟩
    · simp [Value.cells] at hcs
      obtain ⟨rfl, rfl, rfl⟩ := hcs
      exact ⟨fun _ => false, .inl ⟨rfl, rfl, rfl⟩⟩
    · simp [Value.cells] at hcs
      obtain ⟨rfl, rfl, rfl⟩ := hcs
      exact ⟨B, .inr ⟨_, rfl, hl, hcell⟩⟩
  obtain ⟨zs, hz⟩ : ∃ zs, IsBytes W A1 m d zs := by
    obtain ⟨fuel, hf⟩ := h1
    rcases open_ints Tryd.underlying23 Tryd.underlying5 (by kernel_rfl) hf with ⟨hcs, _⟩ | ⟨x, l, c', zs, hcs, _, hl, hm, hz, _, hcell, hwz⟩
    · simp [Value.cells] at hcs
      obtain ⟨rfl, rfl, rfl⟩ := hcs
      exact ⟨[], .inl ⟨rfl, rfl, rfl⟩⟩
    · simp [Value.cells] at hcs
      obtain ⟨rfl, rfl, rfl⟩ := hcs
      exact ⟨zs, .inr ⟨_, rfl, hl, by simpa using hz, hcell⟩⟩
  have hlV : gs.length = 2 := by
    have hV : DataW.TrodVars enc Tryd.prog W (fun _ => true) Rows.fnBoolsSpec.vars gs q := hV0
    match gs, hV with
    | [_, _], _ => rfl
    | [], h => exact h.elim
    | [_], ⟨_, _, _, _, _, _, _, _, _, _, h, _⟩ => exact h.elim
    | _ :: _ :: _ :: _, ⟨_, _, _, _, _, _, _, _, _, _, ⟨_, _, _, _, _, _, _, _, _, _, h, _⟩, _⟩ => exact h.elim
  refine (walk A n c B A1 m d zs W hl hz).mono fun e W' ⟨he, bel⟩ => ?_
  subst he
  match gs, hlV, hW', hV0 with
  | [g1, g2], _, hW', hV0 =>
    refine ⟨_, rfl, _, _, _, [], p0 ++ (p1 ++ []), q, hW', trodAll_mk1 (shut_bool Tryd.underlying4 _), ?_, ?_, bel.frame _, fun h => by cases h⟩
    · exact trodAll_cons_mk (Below.trod laidOut (by kernel_rfl) (of_decide_eq_true (by kernel_rfl)) k0 bel lt0) (trodAll_cons_mk (Below.trod laidOut (by kernel_rfl) (of_decide_eq_true (by kernel_rfl)) k1 bel lt1) trodAll_mk0)
    · exact Below.trodVars laidOut bel (by kernel_rfl) hV0

theorem holds : Rows.FnBoolsSaid :=
  OpenClaim.holds_of_wide 3 Tryd.f3 rfl rfl rfl rfl rfl rfl rfl ⟨rfl, rfl, rfl, rfl, rfl⟩ rfl rfl rfl rfl rfl (by kernel_rfl) Tryd.func3 (by kernel_rfl)
    (of_decide_eq_true (by kernel_rfl)) (by unfold Func.isWrapper; first | (rw [if_pos (by decide +kernel)]; kernel_rfl) | (rw [if_neg (by decide +kernel)]; exact ⟨rfl, rfl⟩))
    (fun os started H enc _ => lifted os started H enc)
end Go.Proofs.YtfpepghmbeoanaaDoor.fnBools
namespace Go.Proofs.YtfpepghmbeoanaaDoor
open Go
/-- The tied card. -/
theorem fnBools_card : Rows.FnBoolsCardSaid :=
  Claim7.holds_tied_plain_at .later [] [.sentinel, .sentinel] true (true, "55800c8b4fa58a30c6316fe5c070365fc0d645eae4b5a3ec6ca2368f22d0e659") true
    fnBools.holds (fun _ h => by cases h) (by kernel_rfl) (fun _ h => by cases h) fnBools_row_tie rfl ⟨rfl, rfl⟩ (by kernel_rfl) rfl
    (fun f fn hf hfn => by
      obtain rfl : f = 3 := Option.some.inj ((show Tryd.prog.funcNamed "loop.example/pub-g03247/laws.FnBools" = some 3 by kernel_rfl).symm.trans hf) |>.symm
      obtain rfl : fn = Tryd.f3 := (Option.some.inj (Tryd.func3.symm.trans hfn)).symm
      exact ⟨by kernel_rfl, fun j t ht => by
        rw [Tryd.params3] at ht
        have hm : t ∈ [22, 23] := by simpa using Array.mem_of_getElem? ht
        have hall : ([22, 23].all fun u => !Tryd.prog.wantsStandIn u) = true := by kernel_rfl
        exact (show Tryd.prog.wantsStandIn t = false by simpa using List.all_eq_true.1 hall t hm)⟩)
    (by kernel_rfl)
#print axioms fnBools_card
end Go.Proofs.YtfpepghmbeoanaaDoor

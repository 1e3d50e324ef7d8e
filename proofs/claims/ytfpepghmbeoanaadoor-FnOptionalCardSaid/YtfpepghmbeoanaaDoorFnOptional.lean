/-
  Proved: laws.FnOptional returns true for every list of truths and every byte: truths are read behind a byte that is nought, and all are true behind any other (the tied card of the seat).
  Conditions: the package variables errUint64NonZero and errUint64TooLarge read at the call as the program's text lays them; the card ties this to the text (the tie is given with the seat; that nothing else writes them is the translator's report over the pruned copy of the project).
-/
import Derived.Test.YtfpepghmbeoanaaDoorRows
import Derived.Test.YtfpepghmbeoanaaDoorCards
import Derived.Test.YtfpepghmbeoanaaDoorTie
import Derived.Test.YtfpepghmbeoanaaDoorWkD
import Derived.ProofKit
import Derived.LaidMore
import Derived.OpenShut
import Derived.OpenVars
import Derived.ChangeOld
import Derived.Deep.Grids
import Derived.SevenTiedAt
namespace Go.Proofs.YtfpepghmbeoanaaDoor
open Go.RowKit

set_option maxHeartbeats 800000 in
theorem topo_any (b o n c : Nat) (l : List Bool) (a : Int) (w : World) (hl : l.length = n) (hc : ∀ j, j < n → w.cell? ⟨b, o + j, none⟩ = some (.bool (l.getD j false))) (hb : b < w.heap.size)
    (h0 : 0 < n) (h1 : n ≤ 100) (ha0 : 0 ≤ a) (ha1 : a < 256) :
    Calls Tryd.prog 4 #[.slice (some ⟨b, o, none⟩) n c, .int .u8 a] w fun e w' => e = .returned (.bool true) ∧ Below w.heap.size w w' := by
  have HL := hid hl
  have HC := hid hc
  have hn0 : ((n : Int) == 0) = false := beq_eq_false_iff_ne.2 (by omega)
  have hn1 : (n : Int) ≤ 100 := by omega
  clear hl hc
  obtain ⟨N, hN⟩ : ∃ N : Nat, Hid (N = (n + 7) / 8) := ⟨_, rfl⟩
  have hN1 : N ≤ 20 := by have := hN.out; omega
  have hfar : ∀ u : Int, 1 ≤ u → Hid (Res [u, 0] 2 n (tru n n) 1) := fun u hu => .inr ⟨u, rfl, by omega, rfl, rfl, by omega⟩
  by_cases hlt1 : a < 1
  all_goals
   go_enter Tryd.func4, Tryd.ntmps4
   go_wp2_with fail
   have hbits := bits_any b o n c l (w.alloc (.cells #[.int .u8 0] 5)) HL.out (fun j hj => (World.cell?_alloc_lt w _ ⟨b, o + j, none⟩ hb).trans (HC.out j hj)) (by simp; omega) h0 (by omega)
   rw [← hN.out] at hbits
   refine hbits.mono ?_
   clear hbits
   rintro e w1 ⟨g, rfl, hown, hb1⟩
   have hO : Own w1 w.heap.size 5 w.heap.size 1 (u8s [0]) := by
     refine Own.below (Own.new w #[.int .u8 0] 5 (by simp [maxLen])) hb1 (by simp)
   have hB1 : Below w.heap.size w w1 := ((Below.refl _ _).alloc (Nat.le_refl _) _).trans (hb1.mono (by simp))
   have hS0 := hown.src
   rw [u8s_length, bitsK_length] at hS0
   have hsz1 := hB1.size
   clear hown hb1
   go_wp2_with (first | (at_builtin; refine wpl_app _ rfl (.tmp 25) (.tmp 27) 23 rfl 5 Tryd.underlying23 (.int .u8 0) 1 Tryd.info5 rfl w.heap.size w.heap.size 1 1 (u8s [0]) rfl rfl hO (some ⟨g, 0, none⟩) N N (u8s (bitsK l N n)) rfl hS0 (u8s_one _) (by omega) (by omega) hsz1 ?_))
   intro g2 cap2 w2 hown2 hg2 hat2
   rw [u8s_append] at hown2
   have hB2 : Below w.heap.size w w2 := hB1.grown hg2 hsz1 (fun j hj => by injection hj with hj; omega)
   have hl2 : Hid (([0] ++ bitsK l N n).length = 1 + N) := by show _ = _; rw [List.length_append, bitsK_length]; rfl
   have hres : Res ([0] ++ bitsK l N n) (1 + N) n l (1 + N) := by
     refine .inl ⟨rfl, ?_, by rw [← hN.out], Nat.le_refl _⟩
     have := rds_bits l n HL.out [0] []
     rw [← hN.out, List.append_nil] at this
     exact this.symm
   have HR := hid hres
   clear hres hg2 hat2 hO hS0 hsz1 hB1
   go_wp2_with fail
   refine (opt_any g2 cap2 (1 + N) n ([0] ++ bitsK l N n) l (1 + N) _ _ hown2 hl2.out (by omega) h0 (by omega) HR.out).mono ?_
   rintro e w3 ⟨G, cap3, rfl, hown3, hb3⟩
   have hB3 := hB2.trans (hb3.mono hB2.size)
   have hown3' := hown3.mono hB2.size
   clear hown3 hb3 hown2 hB2
   go_wp2_with fail
   have hu : ∃ u : Int, Hid (Res [u, 0] 2 n (tru n n) 1) ∧ (u = 1 ∧ a < 1 ∨ u = a) := by
     by_cases h : a < 1
     · exact ⟨1, hfar 1 (by omega), .inl ⟨rfl, h⟩⟩
     · exact ⟨a, hfar a (by omega), .inr rfl⟩
   have hR1 := hfar 1 (by omega)
   have hO3 : ∀ u : Int, Own (w3.alloc (.cells #[.int .u8 u, .int .u8 0] 5)) w3.heap.size 5 w3.heap.size 2 (u8s [u, 0]) := fun u => Own.new w3 #[.int .u8 u, .int .u8 0] 5 (by simp [maxLen])
   clear hu
   first
   | (refine (opt_any w3.heap.size 2 2 n [1, 0] (tru n n) 1 _ _ (hO3 1) rfl (by omega) h0 (by omega) (hfar 1 (by omega))).mono ?_)
   | (refine (opt_any w3.heap.size 2 2 n [a, 0] (tru n n) 1 _ _ (hO3 a) rfl (by omega) h0 (by omega) (hfar a (by omega))).mono ?_)
   rintro e w4 ⟨G4, cap4, rfl, hown4, hb4⟩
   have hB4 : Below w.heap.size w w4 := (hB3.alloc hB3.size _).trans (hb4.mono (by have := hB3.size; simp; omega))
   have hsz3 := hB3.size
   have hown4' : Own w4 w.heap.size 4 G4 cap4 (bls (tru n n)) := hown4.mono (by simp; omega)
   have hown3 : Own w4 w.heap.size 4 G cap3 (bls l) := (hown3'.alloc _).below hb4 (by have := hown3'.lt; simp; omega)
   clear hown4 hb4 hO3 hR1 hB3 hown3' hfar hsz3
   go_wp2_with (first | (at_make; refine wpl_make _ rfl _ _ 22 rfl 4 Tryd.underlying22 (.bool false) 1 Tryd.info4 rfl .i64 .i64 _ _ n n rfl rfl rfl rfl ?_ ?_ ?_ ?_))
   · omega
   · omega
   · omega
   intro w5 hown5 hb5
   have hB5 : Below w.heap.size w w5 := hB4.trans (hb5.mono hB4.size)
   have hsz4 := hB4.size
   have hG4 := hown4'.lt
   have hG3 := hown3.lt
   have hownA : Own w5 w.heap.size 4 G4 cap4 (bls (tru n n)) := hown4'.below hb5 hG4
   have hownB : Own w5 w.heap.size 4 G cap3 (bls l) := hown3.below hb5 hG3
   have hownC : Own w5 w4.heap.size 4 w4.heap.size n (bls (tru n 0)) := by rw [tru_zero]; simpa [bls] using hown5
   clear hown5 hb5 hown4' hown3 hB4
   go_wp2_with fail
   go_loopw [50] (fun i wr => ∃ (k : Nat), k ≤ n ∧ i = .int .i64 k ∧ Own wr w4.heap.size 4 w4.heap.size n (bls (tru n k)) ∧ Own wr w.heap.size 4 G4 cap4 (bls (tru n n)) ∧ Own wr w.heap.size 4 G cap3 (bls l) ∧ Below w.heap.size w wr) (fun i _ => n - (intOf i).toNat)
   case atStart => exact ⟨0, Nat.zero_le _, rfl, hownC, hownA, hownB, hB5⟩
   case round =>
     clear hownC hownA hownB hB5
     obtain ⟨k, hk, rfl, hownC, hownA, hownB, hB5⟩ := hrel
     by_cases hlt : k < n
     · have hkm : (k : Int) < n := by omega
       have hk0 : (0 : Int) ≤ k := by omega
       obtain ⟨y, hcy⟩ : ∃ y : Bool, wr.cell? ⟨w4.heap.size, k, none⟩ = some (.bool y) := ⟨_, by rw [hownC.cell (by rw [bls_length, tru_length]; exact hlt), bls_get, tru, List.getElem?_map, List.getElem?_range hlt]; rfl⟩
       have hfz : wr.frozen? ⟨w4.heap.size, k, none⟩ = false := hownC.frozen _
       have hown2 : Own (wr.setCell ⟨w4.heap.size, k, none⟩ (.bool true)) w4.heap.size 4 w4.heap.size n (bls (tru n (k + 1))) := by
         rw [← tru_set n k hlt]
         have := hownC.set k (.bool true)
         unfold bls at this ⊢
         rw [List.map_set]
         exact this
       have hA2 := hownA.far (p := ⟨w4.heap.size, k, none⟩) (show G4 ≠ w4.heap.size by omega) (.bool true)
       have hB2 := hownB.far (p := ⟨w4.heap.size, k, none⟩) (show G ≠ w4.heap.size by omega) (.bool true)
       have hBl := hB5.setCell (p := ⟨w4.heap.size, k, none⟩) hsz4 (.bool true)
       clear hownC hownA hownB hB5
       go_wp2
       go_roundw
       case rel => exact ⟨k + 1, hlt, by go_num, hown2, hA2, hB2, hBl⟩
       case measure => simp [intOf]; omega
     · obtain rfl : k = n := by omega
       clear hlt hk
       go_wp2_with fail
       have hbits := bits_any b o k c l wr HL.out (fun j hj => (hB5.cell (p := ⟨b, o + j, none⟩) hb).trans (HC.out j hj)) (Nat.lt_of_lt_of_le hb hB5.size) h0 (by omega)
       rw [← hN.out] at hbits
       refine hbits.mono ?_
       clear hbits
       rintro e w6 ⟨g6, rfl, _, hb6⟩
       have hlC := hownC.lt
       have hlA := hownA.lt
       have hlB := hownB.lt
       have hC6 := hownC.below hb6 hlC
       have hA6 := hownA.below hb6 hlA
       have hB6 := hownB.below hb6 hlB
       have hBe := hB5.trans (hb6.mono hB5.size)
       have t2 : ((1 : Int) + N == 1 + N) = true := beq_iff_eq.2 rfl
       have c1 : Hid (∀ j, j < k → w6.cell? ⟨G, j, none⟩ = some (.bool (l.getD j false))) := fun j hj => by
         rw [hB6.cell (by rw [bls_length, HL.out]; exact hj), bls_get, List.getD_eq_getElem?_getD, List.getElem?_eq_getElem (by rw [HL.out]; exact hj)]; rfl
       have c2 : Hid (∀ j, j < k → w6.cell? ⟨b, o + j, none⟩ = some (.bool (l.getD j false))) := fun j hj => (hBe.cell (p := ⟨b, o + j, none⟩) hb).trans (HC.out j hj)
       have c3 : Hid (∀ j, j < k → w6.cell? ⟨G4, j, none⟩ = some (.bool ((tru k k).getD j false))) := fun j hj => by
         rw [hA6.cell (by rw [bls_length, tru_length]; exact hj), bls_get, List.getD_eq_getElem?_getD, List.getElem?_eq_getElem (by rw [tru_length]; exact hj)]; rfl
       have c4 : Hid (∀ j, j < k → w6.cell? ⟨w4.heap.size, 0 + j, none⟩ = some (.bool ((tru k k).getD j false))) := fun j hj => by
         rw [Nat.zero_add, hC6.cell (by rw [bls_length, tru_length]; exact hj), bls_get, List.getD_eq_getElem?_getD, List.getElem?_eq_getElem (by rw [tru_length]; exact hj)]; rfl
       clear hownC hownA hownB hC6 hA6 hB6 hB5 hb6
       go_wp2_with fail
       refine (truths_any G b cap3 c k l o _ c1.out c2.out (by omega)).mono ?_
       rintro e w7 ⟨rfl, q, rfl⟩
       have d3 : Hid (∀ j, j < k → (w6.drewN q).cell? ⟨G4, j, none⟩ = some (.bool ((tru k k).getD j false))) := c3
       have d4 : Hid (∀ j, j < k → (w6.drewN q).cell? ⟨w4.heap.size, 0 + j, none⟩ = some (.bool ((tru k k).getD j false))) := c4
       clear c1 c2 c3 c4
       go_wp2_with fail
       refine (truths_any G4 w4.heap.size cap4 k k (tru k k) 0 _ d3.out d4.out (by omega)).mono ?_
       rintro e w8 ⟨rfl, q2, rfl⟩
       go_wp2
       go_ret
       exact ⟨rfl, below_drewN hBe _⟩

end Go.Proofs.YtfpepghmbeoanaaDoor
namespace Go.Proofs.YtfpepghmbeoanaaDoor.fnOptional
open Go.ChangeShapes Go.WideShapes Go.ChangeAt Go.RowKit Go.Deep

theorem own : ownKnob Tryd.prog.godebug = none := by kernel_rfl
theorem laidOut : laidOutB Tryd.prog = true := by kernel_rfl

/-- The door's own heap meets the condition. -/
theorem door_met (os : Os) (args : Array Value) : laidMetH Tryd.prog Rows.fnOptionalRow.laid ((World.doorLaid Tryd.prog 104 os).forCall (fun _ _ => 0) ⟨#[], args, []⟩).memory :=
  laidMetH_of_parts3 (fuel := 8) (laidMet_of_run' 8 (by kernel_rfl) (by kernel_rfl)) (by kernel_rfl) (by kernel_rfl)

/-- What the walk is told of the two slices that came in. -/
def IsBools (w : World) (A : Option Addr) (n c : Nat) (B : Nat → Bool) : Prop := (A = none ∧ n = 0 ∧ c = 0) ∨ ∃ a : Addr, A = some a ∧ n ≤ c ∧ ∀ i, i < c → w.cell? (a.add i) = some (.bool (B i))

theorem walk (A : Option Addr) (n c : Nat) (B : Nat → Bool) (a : Int) (w : World) (hl : IsBools w A n c B) (ha0 : 0 ≤ a) (ha1 : a < 256) :
    Calls Tryd.prog 4 #[.slice A n c, .int .u8 a] w fun e w' => e = .returned (.bool true) ∧ Below w.heap.size w w' := by
  by_cases a1 : n ≤ 2147483647
  · have b1 : (n : Int) ≤ 2147483647 := by omega
    by_cases a3 : n = 0
    · subst a3
      clear hl
      go_enter Tryd.func4, Tryd.ntmps4
      go_wp2
      go_ret
      exact ⟨rfl, Below.refl _ _⟩
    · have b3 : ((n : Int) == 0) = false := beq_eq_false_iff_ne.2 (by omega)
      by_cases a4 : n ≤ 100
      · rcases hl with ⟨_, h, _⟩ | ⟨a', rfl, hnc, hcell⟩
        · exact absurd h a3
        · obtain ⟨b, o, spot⟩ := a'
          have h0 := hcell 0 (by omega)
          have hspot : spot = none := by simpa [Addr.add] using World.cell?_spot h0
          subst hspot
          have hadd : ∀ i, (⟨b, o, none⟩ : Addr).add i = ⟨b, o + i, none⟩ := fun i => by unfold Addr.add; split <;> simp_all
          have hc : ∀ j, j < n → w.cell? ⟨b, o + j, none⟩ = some (.bool (((List.range n).map B).getD j false)) := fun j hj => by
            rw [← hadd, hcell j (by omega), List.getD_eq_getElem?_getD, List.getElem?_map, List.getElem?_range hj]; rfl
          exact topo_any b o n c ((List.range n).map B) a w (by simp) hc (lt_of_cell h0) (by omega) a4 ha0 ha1
      · have b4 : (100 : Int) < n := by omega
        clear hl a3
        go_enter Tryd.func4, Tryd.ntmps4
        go_wp2
        go_ret
        exact ⟨rfl, Below.refl _ _⟩
  · have b1 : (2147483647 : Int) < n := by omega
    clear hl
    go_enter Tryd.func4, Tryd.ntmps4
    go_wp2
    go_ret
    exact ⟨rfl, Below.refl _ _⟩

set_option maxRecDepth 100000 in
theorem lifted (os : Os) (started : os.Started) (H : Type) (enc : TypeId × Value → H) :
    ReturnsInHanded {} Tryd.checked os 4 .any (fun w args => (Rows.fnOptionalSpec.pre enc Tryd.prog Tryd.f4 [] false w args ∧ laidMetH Tryd.prog Rows.fnOptionalRow.laid w) ∧ sizedMet enc Tryd.prog Tryd.f4 (OpenSpec.ofChange Rows.fnOptionalSpec) false w args)
      (Rows.fnOptionalSpec.post enc Tryd.prog Tryd.f4 false true false false) := by
  refine returnsInHanded_of_change_and (C := Tryd.checked) (X := fun w _ => laidMetH Tryd.prog Rows.fnOptionalRow.laid w) (fun _ _ _ hh h => h.of_heap hh) own started (by kernel_rfl) Tryd.func4
    (ChangeSpec.witness_shaped (enc := enc) (C := Tryd.checked) (os := os) (X := fun w _ => laidMetH Tryd.prog Rows.fnOptionalRow.laid w) false (World.doorLaid Tryd.prog 104 os) #[.slice none 0 0, .int .u8 0] 8 rfl (World.shaped_of_RefB (by kernel_rfl) (by kernel_rfl)) (by kernel_rfl) (by kernel_rfl) (by kernel_rfl) (door_met os _)) ?_
  intro W base args ds gs before hval0 hW _ _ hL _
  have hval : ∀ (j : Nat) t v, Tryd.f4.params[j]? = some t → args[j]? = some v → Value.okWide Tryd.prog W .any base t v := hval0
  have hW' := hW
  obtain ⟨p, q, hA0, hV0, rfl, hfz, hnd⟩ := hW
  have hA : DataW.TrodAll enc Tryd.prog W 0 (fun _ => true) true Tryd.f4.params.toList args.toList ds p := hA0
  rw [Tryd.params4] at hA hval
  obtain ⟨v0, v1, d0, d1, p0, p1, rfl, rfl, rfl, h0, h1⟩ := trodAll_two hA
  obtain ⟨A, n, c, rfl⟩ := okWide_slice Tryd.underlying22 (hval 0 22 v0 rfl rfl)
  obtain ⟨a, rfl, rfl, rfl, wa⟩ := open_int Tryd.underlying5 (hval 1 5 v1 rfl rfl) h1
  have k0 := h0
  have lt0 : ∀ x ∈ p0, x.block < W.heap.size := by obtain ⟨u, hu⟩ := k0; exact DataW.trod_lt u _ _ _ hu
  obtain ⟨B, hl⟩ : ∃ B, IsBools W A n c B := by
    obtain ⟨fuel, hf⟩ := h0
    rcases open_bools Tryd.underlying22 Tryd.underlying4 (by kernel_rfl) hf with ⟨hcs, _⟩ | ⟨x, l, c', B, hcs, _, hl, hm, _, hcell⟩
    · simp [Value.cells] at hcs
      obtain ⟨rfl, rfl, rfl⟩ := hcs
      exact ⟨fun _ => false, .inl ⟨rfl, rfl, rfl⟩⟩
    · simp [Value.cells] at hcs
      obtain ⟨rfl, rfl, rfl⟩ := hcs
      exact ⟨B, .inr ⟨_, rfl, hl, hcell⟩⟩
  have ha : 0 ≤ a ∧ a ≤ 255 := by simpa [Lit.wf, IntKind.min, IntKind.max, IntKind.signed, IntKind.bits] using wa
  have hlV : gs.length = 2 := by
    have hV : DataW.TrodVars enc Tryd.prog W (fun _ => true) Rows.fnOptionalSpec.vars gs q := hV0
    match gs, hV with
    | [_, _], _ => rfl
    | [], h => exact h.elim
    | [_], ⟨_, _, _, _, _, _, _, _, _, _, h, _⟩ => exact h.elim
    | _ :: _ :: _ :: _, ⟨_, _, _, _, _, _, _, _, _, _, ⟨_, _, _, _, _, _, _, _, _, _, h, _⟩, _⟩ => exact h.elim
  refine (walk A n c B a W hl ha.1 (by omega)).mono fun e W' ⟨he, bel⟩ => ?_
  subst he
  match gs, hlV, hW', hV0 with
  | [g1, g2], _, hW', hV0 =>
    refine ⟨_, rfl, _, _, _, [], p0 ++ ([] ++ []), q, hW', trodAll_mk1 (shut_bool Tryd.underlying4 _), ?_, ?_, bel.frame _, fun h => by cases h⟩
    · exact trodAll_cons_mk (Below.trod laidOut (by kernel_rfl) (of_decide_eq_true (by kernel_rfl)) k0 bel lt0) (trodAll_cons_mk (shut_int Tryd.underlying5 wa) trodAll_mk0)
    · exact Below.trodVars laidOut bel (by kernel_rfl) hV0

theorem holds : Rows.FnOptionalSaid :=
  OpenClaim.holds_of_wide 4 Tryd.f4 rfl rfl rfl rfl rfl rfl rfl ⟨rfl, rfl, rfl, rfl, rfl⟩ rfl rfl rfl rfl rfl (by kernel_rfl) Tryd.func4 (by kernel_rfl)
    (of_decide_eq_true (by kernel_rfl)) (by unfold Func.isWrapper; first | (rw [if_pos (by decide +kernel)]; kernel_rfl) | (rw [if_neg (by decide +kernel)]; exact ⟨rfl, rfl⟩))
    (fun os started H enc _ => lifted os started H enc)
end Go.Proofs.YtfpepghmbeoanaaDoor.fnOptional
namespace Go.Proofs.YtfpepghmbeoanaaDoor
open Go
/-- The tied card. -/
theorem fnOptional_card : Rows.FnOptionalCardSaid :=
  Claim7.holds_tied_plain_at .later [] [.sentinel, .sentinel] true (true, "55800c8b4fa58a30c6316fe5c070365fc0d645eae4b5a3ec6ca2368f22d0e659") true
    fnOptional.holds (fun _ h => by cases h) (by kernel_rfl) (fun _ h => by cases h) fnOptional_row_tie rfl ⟨rfl, rfl⟩ (by kernel_rfl) rfl
    (fun f fn hf hfn => by
      obtain rfl : f = 4 := Option.some.inj ((show Tryd.prog.funcNamed "loop.example/pub-g03247/laws.FnOptional" = some 4 by kernel_rfl).symm.trans hf) |>.symm
      obtain rfl : fn = Tryd.f4 := (Option.some.inj (Tryd.func4.symm.trans hfn)).symm
      exact ⟨by kernel_rfl, fun j t ht => by
        rw [Tryd.params4] at ht
        have hm : t ∈ [22, 5] := by simpa using Array.mem_of_getElem? ht
        have hall : ([22, 5].all fun u => !Tryd.prog.wantsStandIn u) = true := by kernel_rfl
        exact (show Tryd.prog.wantsStandIn t = false by simpa using List.all_eq_true.1 hall t hm)⟩)
    (by kernel_rfl)
#print axioms fnOptional_card
end Go.Proofs.YtfpepghmbeoanaaDoor

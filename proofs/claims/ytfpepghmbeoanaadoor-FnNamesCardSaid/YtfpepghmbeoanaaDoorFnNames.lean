/-
  Proved: laws.FnNames returns true for every list of names: names come back from their letters of two bytes (the tied card of the seat).
  Conditions: the package variables that the row names (io.EOF and the four of the package) read at the call as the program's text lays them; the card ties this to the text (the tie is given with the seat; that nothing else writes them is the translator's report over the pruned copy of the project).
-/
import Derived.Test.YtfpepghmbeoanaaDoorRows
import Derived.Test.YtfpepghmbeoanaaDoorCards
import Derived.Test.YtfpepghmbeoanaaDoorTie
import Derived.Test.YtfpepghmbeoanaaDoorWkR
import Derived.ProofKit
import Derived.LaidMore
import Derived.OpenShut
import Derived.OpenVars
import Derived.ChangeOld
import Derived.SliceStrings
import Derived.Stop.LaidErr
import Derived.Deep.Grids
import Derived.SevenTiedAt
namespace Go.Proofs.YtfpepghmbeoanaaDoor
open Go.RowKit

theorem uns_snoc (l : List (List Int)) (s : List Int) : uns (l ++ [s]) = uns l ++ (s ++ [0]) := by simp [uns]

theorem uns_len (l : List (List Int)) : l.length ≤ (uns l).length := by
  induction l with
  | nil => simp
  | cons s l ih =>
    have e : uns (s :: l) = s ++ [0] ++ uns l := by simp [uns]
    rw [e]; simp; omega
theorem uns_mem {l : List (List Int)} (h : ∀ s ∈ l, ∀ x ∈ s, 0 < x ∧ x < 128) : ∀ u ∈ uns l, 0 ≤ u ∧ u < 128 := by
  intro u hu
  simp only [uns, List.mem_flatMap, List.mem_append, List.mem_singleton] at hu
  obtain ⟨s, hs, h1 | h1⟩ := hu
  · have := h s hs u h1; omega
  · subst h1; omega
theorem names_get {ls : List ByteArray} {k n : Nat} (hl : ls.length = n) (hk : k < n) : (ls.map nums)[k]? = some (nums (ls.getD k ByteArray.empty)) := by
  rw [List.getElem?_map, List.getD_eq_getElem?_getD, List.getElem?_eq_getElem (by omega)]; rfl

set_option maxHeartbeats 1600000 in
theorem topn_any (b o n c : Nat) (ls : List ByteArray) (ea : Addr) (w : World) (hl : ls.length = n) (hc : ∀ j, j < n → w.cell? ⟨b, o + j, none⟩ = some (.string (ls.getD j ByteArray.empty))) (hz : ∀ j, (ls.getD j ByteArray.empty).size ≤ maxLen)
    (h0 : 0 < n) (h1 : n ≤ 20) (he : w.cell? ⟨3, 0, none⟩ = some (.iface 63 (.pointer (some ea)))) :
    Calls Tryd.prog 5 #[.slice (some ⟨b, o, none⟩) n c] w fun e w' => e = .returned (.bool true) ∧ Below w.heap.size w w' := by
  have HL := hid hl
  have HC := hid hc
  have HZ := hid hz
  have HE := hid he
  have hn0 : ((n : Int) == 0) = false := beq_eq_false_iff_ne.2 (by omega)
  have hn1 : (n : Int) ≤ 20 := by omega
  clear hl hc hz he
  go_enter Tryd.func5, Tryd.ntmps5
  go_wp2_with fail
  refine (fits_any b o n c ls _ HC.out (by omega) HZ.out).mono ?_
  rintro e w' ⟨r, rfl, hfit, rfl⟩
  have HFIT := hid hfit
  clear hfit
  cases r with
  | false =>
    go_wp2_with fail
    go_ret
    exact ⟨rfl, Below.refl _ _⟩
  | true =>
    go_wp2_with fail
    go_loopw [3, 24] (fun v i wr => ∃ k G cap L : Nat, k ≤ n ∧ i = .int .i64 k ∧ v = .slice (some ⟨G, 0, none⟩) L cap ∧ Hid ((dat (uns ((ls.map nums).take k))).length = L) ∧ L ≤ 102 * k ∧ Own wr w'.heap.size 5 G cap (u8s (dat (uns ((ls.map nums).take k)))) ∧ Below w'.heap.size w' wr ∧
      Hid (∀ s ∈ (ls.map nums).take k, ∀ x ∈ s, 0 < x ∧ x < 128)) (fun _ i _ => n - (intOf i).toNat)
    case atStart =>
      refine ⟨0, w'.heap.size, 0, 0, Nat.zero_le _, rfl, rfl, rfl, Nat.le_refl _, ?_, (Below.refl _ _).alloc (Nat.le_refl _) _, ?_⟩
      · exact Own.new w' #[] 5 (by simp [maxLen])
      · intro s hs; simp at hs
    case round =>
      obtain ⟨k, G, cap, L, hk, rfl, rfl, HLEN, hL, hown, hB, HG⟩ := hrel
      by_cases hlt : k < n
      · have hb := lt_of_cell (HC.out k hlt)
        have hcell : wr.cell? ⟨b, o + k, none⟩ = some (.string (ls.getD k ByteArray.empty)) := (hB.cell hb).trans (HC.out k hlt)
        have hzz := HFIT.out trivial k hlt
        have hkn : (k : Int) < n := by omega
        have hk0 : (0 : Int) ≤ k := by omega
        obtain ⟨s, hs⟩ : ∃ s, s = ls.getD k ByteArray.empty := ⟨_, rfl⟩
        rw [← hs] at hcell hzz
        have HS := hid hs
        have HZZ := hid hzz
        clear hs hzz hb
        go_wp2_with fail
        generalize wr = W1 at *
        go_loopw [30] (fun i wq => ∃ p : Nat, p ≤ s.size ∧ i = .int .i64 p ∧ Hid (∀ x ∈ (nums s).take p, 0 < x ∧ x < 128) ∧ wq = W1) (fun i _ => s.size - (intOf i).toNat)
        case atStart => exact ⟨0, Nat.zero_le _, rfl, (by intro x hx; simp at hx), rfl⟩
        case round =>
          obtain ⟨p, hp, rfl, HP, rfl⟩ := hrel
          by_cases hps : p < s.size
          · have hpn : (p : Int) < s.size := by omega
            have hp0 : (0 : Int) ≤ p := by omega
            have hz2 : (s.size : Int) ≤ 2147483647 := by have := HZZ.out; omega
            go_wp2_with fail
            · go_ret
              exact ⟨rfl, hB⟩
            · go_ret
              exact ⟨rfl, hB⟩
            · rename_i q1 q2
              have HN : Hid (∀ x ∈ (nums s).take (p + 1), 0 < x ∧ x < 128) := by
                intro x hx
                rw [List.take_add_one, nums_get s p hps, List.mem_append] at hx
                rcases hx with hx | hx
                · exact HP.out x hx
                · simp at hx
                  subst hx
                  have := q2.2
                  omega
              clear q1 q2
              go_roundw
              case rel => exact ⟨p + 1, hps, by go_num, HN, trivial⟩
              case measure => simp [intOf]; omega
          · obtain rfl : p = s.size := by omega
            by_cases h50 : s.size ≤ 50
            · have hz3 : ¬ (50 : Int) < s.size := by omega
              have htake : (nums s).take s.size = nums s := by rw [List.take_of_length_le]; rw [nums_length]; exact Nat.le_refl _
              rw [htake] at HP
              clear hps htake
              go_wp2_with fail
              refine (utf16_any s wr h50).mono ?_
              rintro e w2 ⟨GU, cU, rfl, hownU, hbU⟩
              have hown2 := hown.below hbU hown.lt
              have hB2 := hB.trans (hbU.mono hB.size)
              have hS : Src w2 (some ⟨GU, 0, none⟩) (2 * s.size + 2) (u8s (dat (nums s ++ [0]))) := by
                have := hownU.src
                have e : (u8s (dat (nums s ++ [0]))).length = 2 * s.size + 2 := by
                  rw [u8s_length, dat_length, List.length_append, nums_length]; simp; omega
                rw [e] at this
                exact this
              have HU := hid ((u8s_length _).trans HLEN.out)
              have hGe := hown2.ge
              clear hown hB hcell hownU hbU
              go_wp2_with (first | (at_builtin; refine wpl_app _ rfl (.tmp 47) (.tmp 49) 23 rfl 5 Tryd.underlying23 (.int .u8 0) 1 Tryd.info5 rfl w'.heap.size G L cap (u8s (dat (uns ((ls.map nums).take k)))) rfl HU.out hown2 (some ⟨GU, 0, none⟩) (2 * s.size + 2) cU (u8s (dat (nums s ++ [0]))) rfl hS ?c2 ?c3 ?c4 ?c5 ?_))
              case c2 => exact u8s_one _
              case c3 => omega
              case c4 => omega
              case c5 => exact hB2.size
              intro G3 cap3 w3 hown3 hg3 hat3
              have hB3 : Below w'.heap.size w' w3 := hB2.grown hg3 hB2.size (fun j hj => by injection hj with hj; omega)
              have hnext : (ls.map nums).take (k + 1) = (ls.map nums).take k ++ [nums s] := by
                rw [List.take_add_one, names_get HL.out hlt, ← HS.out]; rfl
              have hown4 : Own w3 w'.heap.size 5 G3 cap3 (u8s (dat (uns ((ls.map nums).take (k + 1))))) := by
                rw [hnext, uns_snoc, dat_append, ← u8s_append]
                exact hown3
              have HLEN4 : Hid ((dat (uns ((ls.map nums).take (k + 1)))).length = L + (2 * s.size + 2)) := by
                show _ = _
                rw [hnext, uns_snoc, dat_append, List.length_append, HLEN.out, dat_length (nums s ++ [0]), List.length_append, nums_length]
                simp; omega
              have HG4 : Hid (∀ t ∈ (ls.map nums).take (k + 1), ∀ x ∈ t, 0 < x ∧ x < 128) := by
                intro t ht
                rw [hnext, List.mem_append] at ht
                rcases ht with ht | ht
                · exact HG.out t ht
                · simp at ht
                  subst ht
                  exact HP.out
              clear hown2 hB2 hS hown3 hg3 hat3 hnext
              go_wp2_with fail
              go_roundw
              case rel => exact ⟨k + 1, G3, cap3, L + (2 * s.size + 2), hlt, by go_num, rfl, HLEN4.out, by omega, hown4, hB3, HG4.out⟩
              case measure => simp [intOf]; omega
            · have hz3 : (50 : Int) < s.size := by omega
              clear h50
              go_wp2_with fail
              go_ret
              exact ⟨rfl, hB⟩
      · obtain rfl : k = n := by omega
        have htk : (ls.map nums).take k = ls.map nums := by rw [List.take_of_length_le]; rw [List.length_map, HL.out]; exact Nat.le_refl _
        rw [htk] at HLEN hown HG
        have hL0 : 0 < L := by
          have h1 := HLEN.out
          have h2 := uns_len (ls.map nums)
          rw [dat_length] at h1
          rw [List.length_map, HL.out] at h2
          omega
        have h3w := lt_of_cell HE.out
        have he : wr.cell? ⟨3, 0, none⟩ = some (.iface 63 (.pointer (some ea))) := (hB.cell h3w).trans HE.out
        have hkk : ((k : Int) != k) = false := by simp
        clear hlt hk htk
        go_wp2_with fail
        refine (names_any G L cap k w'.heap.size ea wr (uns (ls.map nums)) (ls.map nums) hown HLEN.out hL0 (by omega) he (uns_mem HG.out) (st_uns _ fun t ht x hx => by have := HG.out t ht x hx; omega) (by rw [List.length_map, HL.out]) h0 (by omega)).mono ?_
        rintro e w2 ⟨GN, cN, rfl, hownN, hbN⟩
        have hB2 := hB.trans (hbN.mono hB.size)
        have hc1 : Hid (∀ j, j < k → w2.cell? ⟨GN, j, none⟩ = some (.string (ls.getD j ByteArray.empty))) := fun j hj => by
          rw [hownN.cell (by rw [strs_length, List.length_map, HL.out]; exact hj), strs, List.getElem?_map, names_get HL.out hj, Option.map_some, strOfNums_nums]
        have hc2 : Hid (∀ j, j < k → w2.cell? ⟨b, o + j, none⟩ = some (.string (ls.getD j ByteArray.empty))) := fun j hj =>
          (hB2.cell (lt_of_cell (HC.out j hj))).trans (HC.out j hj)
        clear hown he hB hownN hbN
        go_wp2_with fail
        go_loopw [70] (fun i wq => ∃ p : Nat, p ≤ k ∧ i = .int .i64 p ∧ ∃ q, wq = w2.drewN q) (fun i _ => k - (intOf i).toNat)
        case atStart => exact ⟨0, Nat.zero_le _, rfl, 0, rfl⟩
        case round =>
          obtain ⟨p, hp, rfl, q, rfl⟩ := hrel
          by_cases hlt : p < k
          · have c1 : w2.cell? ⟨GN, p, none⟩ = some (.string (ls.getD p ByteArray.empty)) := hc1.out p hlt
            have c2 : w2.cell? ⟨b, o + p, none⟩ = some (.string (ls.getD p ByteArray.empty)) := hc2.out p hlt
            have hpn : (p : Int) < k := by omega
            have hp0 : (0 : Int) ≤ p := by omega
            generalize ls.getD p ByteArray.empty = s at c1 c2
            go_wp2_with fail
            go_quiet (fail)
            go_wp2_with fail
            go_roundw
            case rel => exact ⟨p + 1, hlt, by go_num, _, rfl⟩
            case measure => simp [intOf]; omega
          · obtain rfl : p = k := by omega
            clear hlt hp
            go_wp2_with fail
            go_ret
            exact ⟨rfl, below_drewN hB2 _⟩
end Go.Proofs.YtfpepghmbeoanaaDoor
namespace Go.Proofs.YtfpepghmbeoanaaDoor.fnNames
open Go.ChangeShapes Go.WideShapes Go.ChangeAt Go.RowKit Go.Deep

theorem own : ownKnob Tryd.prog.godebug = none := by kernel_rfl
theorem laidOut : laidOutB Tryd.prog = true := by kernel_rfl

/-- The door's own heap meets the condition. -/
theorem door_met (os : Os) (args : Array Value) : laidMetH Tryd.prog Rows.fnNamesRow.laid ((World.doorLaid Tryd.prog 104 os).forCall (fun _ _ => 0) ⟨#[], args, []⟩).memory :=
  laidMetH_of_parts3 (fuel := 8) (laidMet_of_run' 8 (by kernel_rfl) (by kernel_rfl)) (by kernel_rfl) (by kernel_rfl)

theorem star : "*" ++ "errors.errorString" = "*errors.errorString" := by decide
theorem row63 (u : TypeId) (h : Tryd.prog.typeName? 3 u = some "*errors.errorString") : u = 63 :=
  typeName_ptr_named (nm := "errors.errorString") (by rw [star]; kernel_rfl) (by kernel_rfl) (by decide) u (by rw [star]; exact h)
theorem gE : Tryd.prog.globalNamed "io.EOF" = some 3 := by kernel_rfl
theorem gEType : (Tryd.prog.globals[3]?).map (·.type) = some 36 := by kernel_rfl

/-- io.EOF, read off the condition. -/
theorem eof_cell {W : World} (hL : laidMetH Tryd.prog Rows.fnNamesRow.laid W) : ∃ ea : Addr, W.cell? ⟨3, 0, none⟩ = some (.iface 63 (.pointer (some ea))) := by
  have hL' : laidMet Tryd.prog Rows.fnNamesRow.laid W := by
    rw [MakeChecks.laidMetH_plain _ _ _ (by kernel_rfl)] at hL
    exact hL
  obtain ⟨a, s, hv, _⟩ := laid_sentinel hL' gE gEType Tryd.underlying36 row63 Tryd.underlying63 Tryd.underlying65 rfl rfl Tryd.underlying9 (by kernel_rfl) (by kernel_rfl)
  exact ⟨a, by simpa using World.var?_cell gE hv 0⟩

theorem trodVars_length {H : Type} {enc : TypeId × Value → H} {P : Program} {w : World} {sp : Nat → Bool} : ∀ (vs : List String) (gs : List (DataW H)) (q : List MemPlace), DataW.TrodVars enc P w sp vs gs q → gs.length = vs.length
  | [], [], _, _ => rfl
  | [], _ :: _, _, h => h.elim
  | _ :: _, [], _, h => h.elim
  | _ :: vs, _ :: gs, _, ⟨_, _, _, _, _, _, _, _, _, _, h, _⟩ => congrArg (· + 1) (trodVars_length vs gs _ h)

/-- What the walk is told of the slice that came in. -/
def IsStrs (w : World) (A : Option Addr) (n c : Nat) (ls : List ByteArray) : Prop := (A = none ∧ n = 0 ∧ c = 0) ∨ ∃ a : Addr, A = some a ∧ n ≤ c ∧ ls.length = n ∧ ∀ i, i < n → w.cell? (a.add i) = some (.string (ls.getD i ByteArray.empty))

set_option maxHeartbeats 400000 in
theorem fits_big (A : Option Addr) (n c : Nat) (w : World) (hn : 2147483647 < n) :
    Calls Tryd.prog 10 #[.slice A n c] w fun e w' => e = .returned (.bool false) ∧ w' = w := by
  have hn1 : (2147483647 : Int) < n := by omega
  clear hn
  go_enter Tryd.func10, Tryd.ntmps10
  go_wp2_with fail
  go_ret
  exact ⟨rfl, rfl⟩

set_option maxHeartbeats 400000 in
theorem fits_zero (A : Option Addr) (c : Nat) (w : World) :
    Calls Tryd.prog 10 #[.slice A 0 c] w fun e w' => e = .returned (.bool true) ∧ w' = w := by
  go_enter Tryd.func10, Tryd.ntmps10
  go_wp2_with fail
  go_loopw [10] (fun i wr => i = .int .i64 0 ∧ wr = w) (fun _ _ => 0)
  case atStart => exact ⟨rfl, rfl⟩
  case round =>
    obtain ⟨rfl, rfl⟩ := hrel
    go_wp2_with fail
    go_ret
    exact ⟨rfl, rfl⟩

theorem walk (A : Option Addr) (n c : Nat) (ls : List ByteArray) (ea : Addr) (w : World) (hl : IsStrs w A n c ls) (hls : ∀ s ∈ ls, s.size ≤ maxLen) (he : w.cell? ⟨3, 0, none⟩ = some (.iface 63 (.pointer (some ea)))) :
    Calls Tryd.prog 5 #[.slice A n c] w fun e w' => e = .returned (.bool true) ∧ Below w.heap.size w w' := by
  have hz : ∀ j, (ls.getD j ByteArray.empty).size ≤ maxLen := fun j => by
    rw [List.getD_eq_getElem?_getD]
    rcases hj : ls[j]? with _ | s
    · exact Nat.zero_le _
    · exact hls s (List.mem_of_getElem? hj)
  by_cases a1 : n ≤ 2147483647
  · by_cases a3 : n = 0
    · subst a3
      clear hl hls hz he
      go_enter Tryd.func5, Tryd.ntmps5
      go_wp2_with fail
      refine (fits_zero A c _).mono ?_
      rintro e w' ⟨rfl, rfl⟩
      go_wp2_with fail
      go_ret
      exact ⟨rfl, Below.refl _ _⟩
    · rcases hl with ⟨_, h, _⟩ | ⟨a', rfl, hnc, hlen, hcell⟩
      · exact absurd h a3
      · obtain ⟨b, o, spot⟩ := a'
        have h0 := hcell 0 (by omega)
        have hspot : spot = none := by simpa [Addr.add] using World.cell?_spot h0
        subst hspot
        have hadd : ∀ i, (⟨b, o, none⟩ : Addr).add i = ⟨b, o + i, none⟩ := fun i => by unfold Addr.add; split <;> simp_all
        have hc : ∀ j, j < n → w.cell? ⟨b, o + j, none⟩ = some (.string (ls.getD j ByteArray.empty)) := fun j hj => by
          rw [← hadd, hcell j (by omega)]
        by_cases a4 : n ≤ 20
        · exact topn_any b o n c ls ea w hlen hc hz (by omega) a4 he
        · have b4 : (20 : Int) < n := by omega
          have b3 : ((n : Int) == 0) = false := beq_eq_false_iff_ne.2 (by omega)
          have HC := hid hc
          have HZ := hid hz
          clear hcell hls h0 hadd hc hz he a3 a4 hlen
          go_enter Tryd.func5, Tryd.ntmps5
          go_wp2_with fail
          refine (fits_any b o n c ls _ HC.out a1 HZ.out).mono ?_
          rintro e w' ⟨r, rfl, hfit, rfl⟩
          clear hfit
          cases r with
          | false =>
            go_wp2_with fail
            go_ret
            exact ⟨rfl, Below.refl _ _⟩
          | true =>
            go_wp2_with fail
            go_ret
            exact ⟨rfl, Below.refl _ _⟩
  · clear hl hls hz he
    go_enter Tryd.func5, Tryd.ntmps5
    go_wp2_with fail
    refine (fits_big A n c _ (by omega)).mono ?_
    rintro e w' ⟨rfl, rfl⟩
    go_wp2_with fail
    go_ret
    exact ⟨rfl, Below.refl _ _⟩

set_option maxRecDepth 100000 in
theorem lifted (os : Os) (started : os.Started) (H : Type) (enc : TypeId × Value → H) :
    ReturnsInHanded {} Tryd.checked os 5 .any (fun w args => (Rows.fnNamesSpec.pre enc Tryd.prog Tryd.f5 [] false w args ∧ laidMetH Tryd.prog Rows.fnNamesRow.laid w) ∧ sizedMet enc Tryd.prog Tryd.f5 (OpenSpec.ofChange Rows.fnNamesSpec) false w args)
      (Rows.fnNamesSpec.post enc Tryd.prog Tryd.f5 false true false false) := by
  refine returnsInHanded_of_change_and (C := Tryd.checked) (X := fun w _ => laidMetH Tryd.prog Rows.fnNamesRow.laid w) (fun _ _ _ hh h => h.of_heap hh) own started (by kernel_rfl) Tryd.func5
    (ChangeSpec.witness_shaped (enc := enc) (C := Tryd.checked) (os := os) (X := fun w _ => laidMetH Tryd.prog Rows.fnNamesRow.laid w) false (World.doorLaid Tryd.prog 104 os) #[.slice none 0 0] 8 rfl (World.shaped_of_RefB (by kernel_rfl) (by kernel_rfl)) (by kernel_rfl) (by kernel_rfl) (by kernel_rfl) (door_met os _)) ?_
  intro W base args ds gs before hval0 hW _ _ hL _
  have hval : ∀ (j : Nat) t v, Tryd.f5.params[j]? = some t → args[j]? = some v → Value.okWide Tryd.prog W .any base t v := hval0
  have hW' := hW
  obtain ⟨p, q, hA0, hV0, rfl, hfz, hnd⟩ := hW
  have hA : DataW.TrodAll enc Tryd.prog W 0 (fun _ => true) true Tryd.f5.params.toList args.toList ds p := hA0
  rw [Tryd.params5] at hA hval
  obtain ⟨v0, d0, rfl, rfl, h0⟩ := trodAll_one hA
  obtain ⟨A, n, c, rfl⟩ := okWide_slice Tryd.underlying30 (hval 0 30 v0 rfl rfl)
  have k0 := h0
  have lt0 : ∀ x ∈ p, x.block < W.heap.size := by obtain ⟨u, hu⟩ := k0; exact DataW.trod_lt u _ _ _ hu
  obtain ⟨ea, he⟩ := eof_cell hL
  obtain ⟨ls, hl, hls⟩ : ∃ ls, IsStrs W A n c ls ∧ ∀ s ∈ ls, s.size ≤ maxLen := by
    obtain ⟨fuel, hf⟩ := h0
    rcases open_strings Tryd.underlying30 Tryd.underlying9 (by kernel_rfl) hf with ⟨hcs, _⟩ | ⟨x, l, c', ss, hcs, _, hl, hm, hz, _, hcell, hsz⟩
    · simp [Value.cells] at hcs
      obtain ⟨rfl, rfl, rfl⟩ := hcs
      exact ⟨[], .inl ⟨rfl, rfl, rfl⟩, fun s hs => by cases hs⟩
    · simp [Value.cells] at hcs
      obtain ⟨rfl, rfl, rfl⟩ := hcs
      have hz' : ss.length = c := by simpa using hz
      refine ⟨ss.take n, .inr ⟨_, rfl, hl, by rw [List.length_take]; omega, fun i hi => ?_⟩, fun s hs => hsz s (List.mem_of_mem_take hs)⟩
      rw [hcell i (by omega), List.getD_eq_getElem?_getD, List.getD_eq_getElem?_getD, List.getElem?_take, if_pos hi]
  have hlV : gs.length = 4 := trodVars_length _ _ _ hV0
  refine (walk A n c ls ea W hl hls he).mono fun e W' ⟨he, bel⟩ => ?_
  subst he
  match gs, hlV, hW', hV0 with
  | [g1, g2, g3, g4], _, hW', hV0 =>
    refine ⟨_, rfl, _, _, _, [], p ++ [], q, hW', trodAll_mk1 (shut_bool Tryd.underlying4 _), ?_, ?_, bel.frame _, fun h => by cases h⟩
    · exact trodAll_cons_mk (Below.trod laidOut (by kernel_rfl) (of_decide_eq_true (by kernel_rfl)) k0 bel lt0) trodAll_mk0
    · exact Below.trodVars laidOut bel (by kernel_rfl) hV0

theorem holds : Rows.FnNamesSaid :=
  OpenClaim.holds_of_wide 5 Tryd.f5 rfl rfl rfl rfl rfl rfl rfl ⟨rfl, rfl, rfl, rfl, rfl⟩ rfl rfl rfl rfl rfl (by kernel_rfl) Tryd.func5 (by kernel_rfl)
    (of_decide_eq_true (by kernel_rfl)) (by unfold Func.isWrapper; first | (rw [if_pos (by decide +kernel)]; kernel_rfl) | (rw [if_neg (by decide +kernel)]; exact ⟨rfl, rfl⟩))
    (fun os started H enc _ => lifted os started H enc)
end Go.Proofs.YtfpepghmbeoanaaDoor.fnNames
namespace Go.Proofs.YtfpepghmbeoanaaDoor
open Go
/-- The tied card. -/
theorem fnNames_card : Rows.FnNamesCardSaid :=
  Claim7.holds_tied_plain_at .later [] [.sentinel, .sentinel, .sentinel, .sentinel, .sentinel] true (true, "55800c8b4fa58a30c6316fe5c070365fc0d645eae4b5a3ec6ca2368f22d0e659") true
    fnNames.holds (fun _ h => by cases h) (by kernel_rfl) (fun _ h => by cases h) fnNames_row_tie rfl ⟨rfl, rfl⟩ (by kernel_rfl) rfl
    (fun f fn hf hfn => by
      obtain rfl : f = 5 := Option.some.inj ((show Tryd.prog.funcNamed "loop.example/pub-g03247/laws.FnNames" = some 5 by kernel_rfl).symm.trans hf) |>.symm
      obtain rfl : fn = Tryd.f5 := (Option.some.inj (Tryd.func5.symm.trans hfn)).symm
      exact ⟨by kernel_rfl, fun j t ht => by
        rw [Tryd.params5] at ht
        have hm : t ∈ [30] := by simpa using Array.mem_of_getElem? ht
        have hall : ([30].all fun u => !Tryd.prog.wantsStandIn u) = true := by kernel_rfl
        exact (show Tryd.prog.wantsStandIn t = false by simpa using List.all_eq_true.1 hall t hm)⟩)
    (by kernel_rfl)
#print axioms fnNames_card
end Go.Proofs.YtfpepghmbeoanaaDoor

/-
  The walks of FnNumber's road: what each function of the road does, said of the world.
-/
import Derived.Test.YtfpepghmbeoanaaRows
import Derived.Test.YtfpepghmbeoanaaWords
namespace Go.Proofs.Ytfpepghmbeoanaa
open Go.RowKit

theorem Try.info5 : (Try.prog.info? 5).map (fun i => (i.zero, i.size, i.bytes)) = some (some (.int .u8 0), 1, 1) := by kernel_rfl

/-- The lowest n bytes of x, the lowest first. -/
def lit (x : Int) (n : Nat) : List Int := (List.range n).map fun i => x / 2 ^ (8 * i) % 256
theorem lit_length (x : Int) (n : Nat) : (lit x n).length = n := by simp [lit]
theorem lit_succ (x : Int) (n : Nat) : lit x (n + 1) = lit x n ++ [x / 2 ^ (8 * n) % 256] := by simp [lit, List.range_succ]

set_option maxHeartbeats 400000 in
theorem nr_any (a : Option Addr) (n c : Nat) (w : World) :
    Calls Try.prog 10 #[.slice a n c] w fun e w' => e = .returned (.pointer (some ⟨w.heap.size, 0, none⟩)) ∧ w' = w.alloc (.cells #[.slice a n c, .int .i64 0, .int .i64 (-1)] 41) := by
  go_enter Try.func10, Try.ntmps10
  go_wp2
  go_ret
  exact ⟨rfl, rfl⟩

set_option maxHeartbeats 400000 in
theorem little_any (x : Int) (n : Nat) (w : World) (_h0 : 0 ≤ x) (_h1 : x < 18446744073709551616) (hn : n ≤ 8) :
    Calls Try.prog 7 #[.int .u64 x, .int .i64 n] w fun e w' => ∃ g cap : Nat, e = .returned (.slice (some ⟨g, 0, none⟩) n cap) ∧
      Own w' w.heap.size 5 g cap (u8s (lit x n)) ∧ Below w.heap.size w w' := by
  go_enter Try.func7, Try.ntmps7
  go_wp2
  go_loopw [5, 9] (fun v i wr => ∃ k g cap : Nat, k ≤ n ∧ i = .int .i64 k ∧ v = .slice (some ⟨g, 0, none⟩) k cap ∧ Own wr w.heap.size 5 g cap (u8s (lit x k)) ∧ Below w.heap.size w wr)
    (fun _ i _ => n - (intOf i).toNat)
  case atStart => exact ⟨0, w.heap.size, 0, Nat.zero_le _, rfl, rfl, Own.new w #[] 5 (by simp [maxLen]), (Below.refl _ _).alloc (Nat.le_refl _) _⟩
  case round =>
    obtain ⟨k, g, cap, hk, rfl, rfl, hown, hb⟩ := hrel
    have hsz := hb.size
    by_cases hlt : k < n
    · go_wp2_with (first | (at_builtin; refine wpl_app _ rfl _ _ 23 rfl 5 Try.underlying23 (.int .u8 0) 1 Try.info5 rfl w.heap.size g k cap (u8s (lit x k)) rfl (by rw [u8s_length, lit_length]) (hown.alloc _) (some ⟨wr.heap.size, 0, none⟩) 1 1 [.int .u8 (x / 2 ^ (8 * k) % 256)] rfl ?c1 ?c2 ?c3 ?c4 ?c5 ?_))
      case c1 => exact Src.one (Bk.new _ _ _)
      case c2 => exact u8s_one [_]
      case c3 => omega
      case c4 => omega
      case c5 => simp; omega
      · intro g' cap' w1 hown1 hg1 hat
        have hown2 : Own w1 w.heap.size 5 g' cap' (u8s (lit x (k + 1))) := by rw [lit_succ, ← u8s_append]; exact hown1
        have hb2 : Below w.heap.size w w1 := (hb.alloc hsz _).grown hg1 (by simp; omega) (fun j hj => by injection hj with hj; subst hj; exact hown.ge)
        clear hown1 hg1 hat hown hb hsz
        go_wp2
        go_roundw
        case rel => exact ⟨k + 1, g', cap', hlt, by go_num, rfl, hown2, hb2⟩
        case measure => simp [intOf]; omega
    · obtain rfl : k = n := by omega
      go_wp2
      go_ret
      exact ⟨g, cap, rfl, hown, hb⟩

/-- The first byte of a number that is told in n more bytes. -/
def fst (x : Int) (n : Nat) : Int := bits BinOp.or IntKind.u8 (x / 2 ^ (8 * n) % 256) (bits BinOp.xor IntKind.u8 IntKind.u8.max (255 / 2 ^ n))
def num (x : Int) (n : Nat) : List Int := fst x n :: lit x n
theorem num_eq (x : Int) (n : Nat) : u8s [fst x n] ++ u8s (lit x n) = u8s (num x n) := by rw [u8s_append]; rfl
theorem num_length (x : Int) (n : Nat) : (num x n).length = n + 1 := by simp [num, lit_length]
theorem fst_eight (x : Int) (h0 : 0 ≤ x) (h1 : x < 18446744073709551616) : fst x 8 = 255 := by
  unfold fst
  have : x / 2 ^ (8 * 8) = 0 := Int.ediv_eq_zero_of_lt h0 (by simpa using h1)
  rw [this]; decide +kernel
theorem ret_len {A : Option Addr} {a b c : Nat} (h : a = b) : Ending.returned (.slice A a c) = .returned (.slice A b c) := by rw [h]
/-- n more bytes hold x. -/
def Fits (x : Int) (n : Nat) : Prop := n ≤ 8 ∧ (n = 8 ∨ x < 2 ^ (7 * n + 7))
theorem pow_wrap (k : Nat) (hk : k < 8) : IntKind.u64.wrap (2 ^ (7 * k + 7)) = 2 ^ (7 * k + 7) := by
  match k, hk with
  | 0, _ | 1, _ | 2, _ | 3, _ | 4, _ | 5, _ | 6, _ | 7, _ => decide +kernel

set_option maxHeartbeats 400000 in
theorem number_any (x : Int) (w : World) (h0 : 0 ≤ x) (h1 : x < 18446744073709551616) :
    Calls Try.prog 5 #[.int .u64 x] w fun e w' => ∃ g cap n : Nat, Fits x n ∧ e = .returned (.slice (some ⟨g, 0, none⟩) (n + 1) cap) ∧
      Own w' w.heap.size 5 g cap (u8s (num x n)) ∧ Below w.heap.size w w' := by
  have hs8 : IntKind.u8.signed = false := rfl
  go_enter Try.func5, Try.ntmps5
  go_wp2
  go_loopw [5] (fun i wr => ∃ k : Nat, k ≤ 8 ∧ i = .int .i64 k ∧ Below w.heap.size w wr)
    (fun i _ => 8 - (intOf i).toNat)
  case atStart => exact ⟨0, Nat.zero_le _, rfl, (Below.refl _ _)⟩
  case round =>
    obtain ⟨k, hk, rfl, hb⟩ := hrel
    have hsz := hb.size
    by_cases hlt : k < 8
    · go_wp2_with fail
      · have hx : x < IntKind.u64.wrap (2 ^ (7 * k + 7)) := by assumption
        have hf : Fits x k := ⟨by omega, .inr (by rw [← pow_wrap k hlt]; exact hx)⟩
        clear hx
        go_quiet (fail)
        go_wp2_with fail
        refine (little_any x k _ h0 h1 (by omega)).mono ?_
        rintro e w1 ⟨g, cap, rfl, hown, hb1⟩
        have hO : Own w1 w.heap.size 5 wr.heap.size 1 (u8s [fst x k]) := by
          refine Own.mono (B := wr.heap.size) ?_ hsz
          exact (Own.new (wr.drewN nq) #[.int .u8 (fst x k)] 5 (by simp [maxLen])).below hb1 (by simp)
        have hB1 : Below w.heap.size w w1 := ((below_drewN hb nq).alloc hsz _).trans (hb1.mono (by simp; omega))
        have hsz1 := hB1.size
        have hS := hown.src
        rw [u8s_length, lit_length] at hS
        go_wp2_with (first | (at_builtin; refine wpl_app _ rfl _ _ 23 rfl 5 Try.underlying23 (.int .u8 0) 1 Try.info5 rfl w.heap.size wr.heap.size 1 1 (u8s [fst x k]) rfl rfl hO (some ⟨g, 0, none⟩) k cap (u8s (lit x k)) rfl hS ?c2 ?c3 ?c4 hsz1 ?_))
        case c2 => exact u8s_one _
        case c3 => omega
        case c4 => omega
        · intro g2 cap2 w2 hown2 hg2 hat2
          rw [num_eq] at hown2
          have hB2 : Below w.heap.size w w2 := hB1.grown hg2 hsz1 (fun j hj => by injection hj with hj; omega)
          go_wp2
          go_ret
          exact ⟨g2, cap2, k, hf, ret_len (by omega), hown2, hB2⟩
      · go_roundw
        case rel => exact ⟨k + 1, hlt, by go_num, hb⟩
        case measure => simp [intOf]; omega
    · obtain rfl : k = 8 := by omega
      have hf : Fits x 8 := ⟨by omega, .inl rfl⟩
      go_wp2_with fail
      refine (little_any x 8 _ h0 h1 (by omega)).mono ?_
      rintro e w1 ⟨g, cap, rfl, hown, hb1⟩
      have hO : Own w1 w.heap.size 5 wr.heap.size 1 (u8s [fst x 8]) := by
        rw [fst_eight x h0 h1]
        refine Own.mono (B := wr.heap.size) ?_ hsz
        exact (Own.new wr #[.int .u8 255] 5 (by simp [maxLen])).below hb1 (by simp)
      have hB1 : Below w.heap.size w w1 := (hb.alloc hsz _).trans (hb1.mono (by simp; omega))
      have hsz1 := hB1.size
      have hS := hown.src
      rw [u8s_length, lit_length] at hS
      go_wp2_with (first | (at_builtin; refine wpl_app _ rfl _ _ 23 rfl 5 Try.underlying23 (.int .u8 0) 1 Try.info5 rfl w.heap.size wr.heap.size 1 1 (u8s [fst x 8]) rfl rfl hO (some ⟨g, 0, none⟩) 8 cap (u8s (lit x 8)) rfl hS ?c2 ?c3 ?c4 hsz1 ?_))
      case c2 => exact u8s_one _
      case c3 => omega
      case c4 => omega
      · intro g2 cap2 w2 hown2 hg2 hat2
        rw [num_eq] at hown2
        have hB2 : Below w.heap.size w w2 := hB1.grown hg2 hsz1 (fun j hj => by injection hj with hj; omega)
        go_wp2
        go_ret
        exact ⟨g2, cap2, 8, hf, rfl, hown2, hB2⟩

set_option maxHeartbeats 400000 in
theorem clone_any (g cap n : Nat) (l : List Int) (w : World) (B : Nat) (hn : l.length = n) (hown : Own w B 5 g cap (u8s l)) (hle : n ≤ 1000) :
    Calls Try.prog 9 #[.slice (some ⟨g, 0, none⟩) n cap] w fun e w' => ∃ g' cap' : Nat, e = .returned (.slice (some ⟨g', 0, none⟩) n cap') ∧
      Own w' w.heap.size 5 g' cap' (u8s l) ∧ Below w.heap.size w w' := by
  have q := fun (w : World) (a : Option Addr) (n c n' c' : Nat) => Lib.run_eql_slice_nil (P := Try.prog) w 23 5 a n c n' c' Try.underlying23
  have hS := hown.src
  rw [u8s_length, hn] at hS
  go_enter Try.func9, Try.ntmps9
  go_wp2_with (first | (at_builtin; refine wpl_app _ rfl _ _ 23 rfl 5 Try.underlying23 (.int .u8 0) 1 Try.info5 rfl w.heap.size w.heap.size 0 0 [] rfl rfl (Own.new w #[] 5 (by simp [maxLen])) (some ⟨g, 0, none⟩) n cap (u8s l) rfl (hS.alloc _) ?c2 ?c3 ?c4 ?c5 ?_))
  case c2 => exact u8s_one _
  case c3 => omega
  case c4 => omega
  case c5 => simp
  · intro g2 cap2 w2 hown2 hg2 hat2
    have hB2 : Below w.heap.size w w2 := ((Below.refl _ _).alloc (Nat.le_refl _) _).grown hg2 (by simp) (fun j hj => by injection hj with hj; omega)
    go_wp2
    go_ret
    exact ⟨g2, cap2, ret_len (by omega), hown2, hB2⟩


/-- How many bits x has. -/
def len8 (k : Nat) : Nat := if k = 0 then 0 else k.log2 + 1
theorem ret_i64 {a b : Int} (h : a = b) : Ending.returned (.int .i64 a) = .returned (.int .i64 b) := by rw [h]

set_option maxRecDepth 100000 in
set_option maxHeartbeats 400000 in
theorem len8_any (k : Nat) (w : World) (h1 : k < 256) :
    Calls Try.prog 14 #[.int .u8 k] w fun e w' => e = .returned (.int .i64 (len8 k)) ∧ w = w' := by
  go_enter Try.func14, Try.ntmps14
  go_wp2
  go_ret
  refine ⟨ret_i64 ?_, rfl⟩
  clear w
  revert k
  decide +kernel

set_option maxHeartbeats 400000 in
theorem lz8_any (k : Nat) (w : World) (h1 : k < 256) :
    Calls Try.prog 13 #[.int .u8 k] w fun e w' => e = .returned (.int .i64 ((8 - len8 k : Nat) : Int)) ∧ w = w' := by
  have hl : len8 k ≤ 8 := by revert k; decide +kernel
  go_enter Try.func13, Try.ntmps13
  go_wp2_with fail
  refine (len8_any k _ h1).mono ?_
  rintro e w' ⟨rfl, rfl⟩
  go_wp2
  go_ret
  exact ⟨ret_i64 (by omega), rfl⟩

theorem two_draws (w : World) (a b : Nat) : ∃ q, (w.drewN a).drewN b = w.drewN q := ⟨a + b, by rw [World.drewN_drewN]⟩

set_option maxHeartbeats 400000 in
theorem rlen_any (g : Nat) (A : Option Addr) (n c i : Nat) (p : Value) (w : World) (hg : Bk w g 41 #[.slice A n c, .int .i64 i, p]) (h1 : i ≤ n) (hn : n ≤ 1000) :
    Calls Try.prog 12 #[.pointer (some ⟨g, 0, none⟩)] w fun e w' => e = .returned (.int .i64 ((n - i : Nat) : Int)) ∧ ∃ q, w' = w.drewN q := by
  have hs : w.cell? ⟨g, 0, none⟩ = some (.slice A n c) := hg.cell 0
  have hi : w.cell? ⟨g, 1, none⟩ = some (.int .i64 i) := hg.cell 1
  clear hg
  by_cases hlt : i < n
  · have h2 : (i : Int) < n := by omega
    go_enter Try.func12, Try.ntmps12
    go_wp2
    go_quiet (fail)
    go_wp2
    go_quiet (fail)
    go_wp2
    go_ret
    exact ⟨ret_i64 (by omega), two_draws _ _ _⟩
  · have h2 : (n : Int) ≤ i := by omega
    go_enter Try.func12, Try.ntmps12
    go_wp2
    go_quiet (fail)
    go_wp2
    go_ret
    exact ⟨ret_i64 (by omega), _, rfl⟩

/-- A reader at block g, over the bytes of block h, that has read i of n. -/
def Rdr (w : World) (g h n c i : Nat) (l : List Int) : Prop := (∃ p : Int, Bk w g 41 #[.slice (some ⟨h, 0, none⟩) n c, .int .i64 i, .int .i64 p]) ∧ l.length = n ∧ n ≤ c ∧ Own w 0 5 h c (u8s l)

set_option maxHeartbeats 400000 in
theorem rb_any (g h c n i : Nat) (l : List Int) (u : Int) (w : World) (hr : Rdr w g h n c i l) (hu : l[i]? = some u) (hn : n ≤ 1000) :
    Calls Try.prog 30 #[.pointer (some ⟨g, 0, none⟩)] w fun e w' => e = .returned (.tuple #[.int .u8 u, .nilIface]) ∧ Rdr w' g h n c (i + 1) l ∧ w.grownBy w' (some g) := by
  obtain ⟨⟨p, hb⟩, hl, hnc, hown⟩ := hr
  have hgh : h ≠ g := hown.ne hb (by decide)
  have hin : i < l.length := (List.getElem?_eq_some_iff.1 hu).1
  have hfin : ∀ q : Nat, Rdr (((w.setCell ⟨g, 2, none⟩ (.int .i64 (-1))).drewN q).setCell ⟨g, 1, none⟩ (.int .i64 (i + 1))) g h n c (i + 1) l ∧
      w.grownBy (((w.setCell ⟨g, 2, none⟩ (.int .i64 (-1))).drewN q).setCell ⟨g, 1, none⟩ (.int .i64 (i + 1))) (some g) := fun q =>
    ⟨⟨⟨-1, ((hb.set 2 (.int .i64 (-1))).drewN q).set 1 (.int .i64 (i + 1))⟩, hl, hnc, ((hown.far (p := ⟨g, 2, none⟩) hgh _).drewN q).far (p := ⟨g, 1, none⟩) hgh _⟩,
      grown_set (grown_drewN (grown_set (World.grownBy.refl w _) 2 _) q) 1 _⟩
  have hs : w.cell? ⟨g, 0, none⟩ = some (.slice (some ⟨h, 0, none⟩) n c) := hb.cell 0
  have hi : w.cell? ⟨g, 1, none⟩ = some (.int .i64 i) := hb.cell 1
  have hp : w.cell? ⟨g, 2, none⟩ = some (.int .i64 p) := hb.cell 2
  have hf2 : w.frozen? ⟨g, 2, none⟩ = false := hb.frozen 2
  have hf1 : w.frozen? ⟨g, 1, none⟩ = false := hb.frozen 1
  have hc : w.cell? ⟨h, i, none⟩ = some (.int .u8 u) := by rw [hown.cell (by rw [u8s_length]; exact hin), u8s_get, hu]; rfl
  have hgh' : g ≠ h := hgh.symm
  have hj : (i : Int) < n := by omega
  clear hb hown hu hl hin
  go_enter Try.func30, Try.ntmps30
  go_wp2
  go_quiet (fail)
  go_wp2
  go_quiet (fail)
  go_wp2
  go_ret2
  exact ⟨rfl, hfin _⟩
end Go.Proofs.Ytfpepghmbeoanaa

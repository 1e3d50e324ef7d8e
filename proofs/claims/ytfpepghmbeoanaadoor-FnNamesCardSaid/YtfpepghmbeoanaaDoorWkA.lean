/-
  The walks of the small functions that the laws of this seat share: the reader, the clones, the check of a count.
-/
import Derived.Test.YtfpepghmbeoanaaDoorRows
import Derived.Test.YtfpepghmbeoanaaDoorWords
namespace Go.Proofs.YtfpepghmbeoanaaDoor
open Go.RowKit

theorem Tryd.info5 : (Tryd.prog.info? 5).map (fun i => (i.zero, i.size, i.bytes)) = some (some (.int .u8 0), 1, 1) := by kernel_rfl
theorem Tryd.info4 : (Tryd.prog.info? 4).map (fun i => (i.zero, i.size, i.bytes)) = some (some (.bool false), 1, 1) := by kernel_rfl
theorem Tryd.info9 : (Tryd.prog.info? 9).map (fun i => (i.zero, i.size, i.bytes)) = some (some (.string ByteArray.empty), 1, 16) := by kernel_rfl

theorem ret_i64 {a b : Int} (h : a = b) : Ending.returned (.int .i64 a) = .returned (.int .i64 b) := by rw [h]
theorem ret_len {A : Option Addr} {a b c : Nat} (h : a = b) : Ending.returned (.slice A a c) = .returned (.slice A b c) := by rw [h]
theorem ret_num {a c : Int} {x y : Value} (h : a = c) : Ending.returned (.tuple #[x, .int .i64 a, y]) = .returned (.tuple #[x, .int .i64 c, y]) := by rw [h]
theorem two_draws (w : World) (a b : Nat) : ∃ q, (w.drewN a).drewN b = w.drewN q := ⟨a + b, by rw [World.drewN_drewN]⟩

set_option maxHeartbeats 400000 in
theorem nr_any (a : Option Addr) (n c : Nat) (w : World) :
    Calls Tryd.prog 19 #[.slice a n c] w fun e w' => e = .returned (.pointer (some ⟨w.heap.size, 0, none⟩)) ∧ w' = w.alloc (.cells #[.slice a n c, .int .i64 0, .int .i64 (-1)] 52) := by
  go_enter Tryd.func19, Tryd.ntmps19
  go_wp2
  go_ret
  exact ⟨rfl, rfl⟩

set_option maxHeartbeats 400000 in
theorem clone_any (g cap n : Nat) (l : List Int) (w : World) (B : Nat) (hn : l.length = n) (hown : Own w B 5 g cap (u8s l)) (hle : n ≤ 100000) :
    Calls Tryd.prog 14 #[.slice (some ⟨g, 0, none⟩) n cap] w fun e w' => ∃ g' cap' : Nat, e = .returned (.slice (some ⟨g', 0, none⟩) n cap') ∧
      Own w' w.heap.size 5 g' cap' (u8s l) ∧ Below w.heap.size w w' := by
  have q := fun (w : World) (a : Option Addr) (n c n' c' : Nat) => Lib.run_eql_slice_nil (P := Tryd.prog) w 23 5 a n c n' c' Tryd.underlying23
  have hS := hown.src
  rw [u8s_length, hn] at hS
  go_enter Tryd.func14, Tryd.ntmps14
  go_wp2_with (first | (at_builtin; refine wpl_app _ rfl _ _ 23 rfl 5 Tryd.underlying23 (.int .u8 0) 1 Tryd.info5 rfl w.heap.size w.heap.size 0 0 [] rfl rfl (Own.new w #[] 5 (by simp [maxLen])) (some ⟨g, 0, none⟩) n cap (u8s l) rfl (hS.alloc _) ?c2 ?c3 ?c4 ?c5 ?_))
  case c2 => exact u8s_one _
  case c3 => omega
  case c4 => omega
  case c5 => simp
  · intro g2 cap2 w2 hown2 hg2 hat2
    have hB2 : Below w.heap.size w w2 := ((Below.refl _ _).alloc (Nat.le_refl _) _).grown hg2 (by simp) (fun j hj => by injection hj with hj; omega)
    go_wp2
    go_ret
    exact ⟨g2, cap2, ret_len (by omega), hown2, hB2⟩

/-- Truths as values; strings as values. -/
def bls (l : List Bool) : List Value := l.map Value.bool
theorem bls_length (l : List Bool) : (bls l).length = l.length := by simp [bls]
theorem bls_append (l m : List Bool) : bls l ++ bls m = bls (l ++ m) := by simp [bls]
theorem bls_one (l : List Bool) : ∀ u ∈ bls l, u.oneCell' = true := by
  intro u hu
  simp only [bls, List.mem_map] at hu
  obtain ⟨x, _, rfl⟩ := hu
  rfl
theorem bls_get (l : List Bool) (j : Nat) : (bls l)[j]? = (l[j]?).map Value.bool := by simp [bls]

set_option maxHeartbeats 400000 in
theorem cloneb_any (g cap n : Nat) (l : List Bool) (w : World) (B : Nat) (hn : l.length = n) (hown : Own w B 4 g cap (bls l)) (hle : n ≤ 100000) :
    Calls Tryd.prog 15 #[.slice (some ⟨g, 0, none⟩) n cap] w fun e w' => ∃ g' cap' : Nat, e = .returned (.slice (some ⟨g', 0, none⟩) n cap') ∧
      Own w' w.heap.size 4 g' cap' (bls l) ∧ Below w.heap.size w w' := by
  have q := fun (w : World) (a : Option Addr) (n c n' c' : Nat) => Lib.run_eql_slice_nil (P := Tryd.prog) w 22 4 a n c n' c' Tryd.underlying22
  have hS := hown.src
  rw [bls_length, hn] at hS
  go_enter Tryd.func15, Tryd.ntmps15
  go_wp2_with (first | (at_builtin; refine wpl_app _ rfl _ _ 22 rfl 4 Tryd.underlying22 (.bool false) 1 Tryd.info4 rfl w.heap.size w.heap.size 0 0 [] rfl rfl (Own.new w #[] 4 (by simp [maxLen])) (some ⟨g, 0, none⟩) n cap (bls l) rfl (hS.alloc _) ?c2 ?c3 ?c4 ?c5 ?_))
  case c2 => exact bls_one _
  case c3 => omega
  case c4 => omega
  case c5 => simp
  · intro g2 cap2 w2 hown2 hg2 hat2
    have hB2 : Below w.heap.size w w2 := ((Below.refl _ _).alloc (Nat.le_refl _) _).grown hg2 (by simp) (fun j hj => by injection hj with hj; omega)
    go_wp2
    go_ret
    exact ⟨g2, cap2, ret_len (by omega), hown2, hB2⟩

set_option maxHeartbeats 400000 in
theorem rlen_any (g : Nat) (A : Option Addr) (n c i : Nat) (p : Value) (w : World) (hg : Bk w g 52 #[.slice A n c, .int .i64 i, p]) (h1 : i ≤ n) (hn : n ≤ 100000) :
    Calls Tryd.prog 21 #[.pointer (some ⟨g, 0, none⟩)] w fun e w' => e = .returned (.int .i64 ((n - i : Nat) : Int)) ∧ ∃ q, w' = w.drewN q := by
  have hs : w.cell? ⟨g, 0, none⟩ = some (.slice A n c) := hg.cell 0
  have hi : w.cell? ⟨g, 1, none⟩ = some (.int .i64 i) := hg.cell 1
  clear hg
  by_cases hlt : i < n
  · have h2 : (i : Int) < n := by omega
    go_enter Tryd.func21, Tryd.ntmps21
    go_wp2
    go_quiet (fail)
    go_wp2
    go_quiet (fail)
    go_wp2
    go_ret
    exact ⟨ret_i64 (by omega), two_draws _ _ _⟩
  · have h2 : (n : Int) ≤ i := by omega
    go_enter Tryd.func21, Tryd.ntmps21
    go_wp2
    go_quiet (fail)
    go_wp2
    go_ret
    exact ⟨ret_i64 (by omega), _, rfl⟩

/-- A reader at block g, over the bytes of block h, that has read i of n. -/
def Rdr (w : World) (g h n c i : Nat) (l : List Int) : Prop := (∃ p : Int, Bk w g 52 #[.slice (some ⟨h, 0, none⟩) n c, .int .i64 i, .int .i64 p]) ∧ l.length = n ∧ n ≤ c ∧ Own w 0 5 h c (u8s l)

theorem Rdr.keep {w w' : World} {g h n c i : Nat} {l : List Int} (hr : Rdr w g h n c i l) {row : Option Nat} (hg : w.grownBy w' row) (h1 : some g ≠ row) (h2 : some h ≠ row) : Rdr w' g h n c i l := by
  obtain ⟨⟨p, hb⟩, h3, h4, hown⟩ := hr
  exact ⟨⟨p, hb.grown hg h1⟩, h3, h4, hown.grown hg h2⟩
theorem Rdr.lt {w : World} {g h n c i : Nat} {l : List Int} (hr : Rdr w g h n c i l) : g < w.heap.size ∧ h < w.heap.size := by
  obtain ⟨⟨p, hb⟩, h3, h4, hown⟩ := hr
  exact ⟨hb.lt, hown.lt⟩
theorem Rdr.below {w w' : World} {g h n c i : Nat} {l : List Int} {B : Nat} (hr : Rdr w g h n c i l) (hb : Below B w w') (h1 : g < B) (h2 : h < B) : Rdr w' g h n c i l := by
  obtain ⟨⟨p, hbk⟩, h3, h4, hown⟩ := hr
  exact ⟨⟨p, hbk.below hb h1⟩, h3, h4, hown.below hb h2⟩

set_option maxHeartbeats 400000 in
theorem rb_any (g h c n i : Nat) (l : List Int) (u : Int) (w : World) (hr : Rdr w g h n c i l) (hu : l[i]? = some u) (hn : n ≤ 100000) :
    Calls Tryd.prog 44 #[.pointer (some ⟨g, 0, none⟩)] w fun e w' => e = .returned (.tuple #[.int .u8 u, .nilIface]) ∧ Rdr w' g h n c (i + 1) l ∧ w.grownBy w' (some g) := by
  obtain ⟨⟨p, hb⟩, hl, hnc, hown⟩ := hr
  have hgh : h ≠ g := hown.ne hb (by decide)
  have hin : i < l.length := (List.getElem?_eq_some_iff.1 hu).1
  have hfin : ∀ q : Nat, Rdr (((w.setCell ⟨g, 2, none⟩ (.int .i64 (-1))).drewN q).setCell ⟨g, 1, none⟩ (.int .i64 (i + 1))) g h n c (i + 1) l ∧
      w.grownBy (((w.setCell ⟨g, 2, none⟩ (.int .i64 (-1))).drewN q).setCell ⟨g, 1, none⟩ (.int .i64 (i + 1))) (some g) := fun q =>
    ⟨⟨⟨-1, ((hb.set 2 (.int .i64 (-1))).drewN q).set 1 (.int .i64 (i + 1))⟩, hl, hnc, ((hown.far (p := ⟨g, 2, none⟩) hgh _).drewN q).far (p := ⟨g, 1, none⟩) hgh _⟩,
      grown_set (grown_drewN (grown_set (World.grownBy.refl w _) 2 _) q) 1 _⟩
  have hs : w.cell? ⟨g, 0, none⟩ = some (.slice (some ⟨h, 0, none⟩) n c) := hb.cell 0
  have hi : w.cell? ⟨g, 1, none⟩ = some (.int .i64 i) := hb.cell 1
  have hp : w.cell? ⟨g, 2, none⟩ = some (.int .i64 p) := hb.cell 2
  have hf2 : w.frozen? ⟨g, 2, none⟩ = false := hb.frozen 2
  have hf1 : w.frozen? ⟨g, 1, none⟩ = false := hb.frozen 1
  have hc : w.cell? ⟨h, i, none⟩ = some (.int .u8 u) := by rw [hown.cell (by rw [u8s_length]; exact hin), u8s_get, hu]; rfl
  have hgh' : g ≠ h := hgh.symm
  have hj : (i : Int) < n := by omega
  clear hb hown hu hl hin
  go_enter Tryd.func44, Tryd.ntmps44
  go_wp2
  go_quiet (fail)
  go_wp2
  go_quiet (fail)
  go_wp2
  go_ret2
  exact ⟨rfl, hfin _⟩

set_option maxHeartbeats 400000 in
theorem check_any (n : Nat) (w : World) (h0 : 0 < n) (h1 : n ≤ 100000) :
    Calls Tryd.prog 24 #[.int .u64 n, .bool true] w fun e w' => e = .returned .nilIface ∧ w = w' := by
  have t1 : ((n : Int) == 0) = false := beq_eq_false_iff_ne.2 (by omega)
  have h2 : (n : Int) ≤ 100000 := by omega
  have h3 : (0 : Int) < (n : Int) := by omega
  go_enter Tryd.func24, Tryd.ntmps24
  go_wp2
  go_ret
  exact ⟨rfl, rfl⟩
end Go.Proofs.YtfpepghmbeoanaaDoor

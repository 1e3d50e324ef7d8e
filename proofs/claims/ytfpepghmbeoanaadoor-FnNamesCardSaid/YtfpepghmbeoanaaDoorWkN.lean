/-
  (*bytes.Reader).Read and (*io.LimitedReader).Read.
-/
import Derived.Test.YtfpepghmbeoanaaDoorWkB
import Derived.Test.YtfpepghmbeoanaaDoorWordsB
import Derived.Laws.CopyOwn
import Derived.LaidEql
import Derived.Lib.AppendStr
import Derived.Deep.RegionHeld3
namespace Go.Proofs.YtfpepghmbeoanaaDoor
open Go.RowKit

/-- copy onto the head of a block that is known whole, as a step of a region that draws its order: nothing else turns. -/
theorem step_copy {P : Program} {ops : Array Oper} {o : Oper} {a : Act} {w : World} {K : Act → World → Prop} {Q : Exit → Act → World → Prop} {E : Prop} (hgd : o.guard = none) (d s : Operand) (T : TypeId)
    (ho : o.op = .call { callee := .builtin .copy, args := #[d, s], argTypes := #[T, T] }) (elem : TypeId) (hu : P.underlying T = some (.slice elem)) (hsz : (P.info? elem).map (·.size) = some 1)
    (g dLen dCap : Nat) (ad : Addr) (sLen sCap : Nat) (hd : a.eval d = .slice (some ⟨g, 0, none⟩) dLen dCap) (hs : a.eval s = .slice (some ad) sLen sCap)
    (cur : Array Value) (t : TypeId) (hg : Bk w g t cur) (cs : List Value) (hn : cs.length = Nat.min sLen dLen)
    (hsrc : ∀ j v, cs[j]? = some v → w.cell? (ad.add j) = some v) (hfit : cs.length ≤ cur.size) (h1 : ∀ v ∈ cs, v.oneCell' = true)
    (h : ∀ w' cur', Bk w' g t cur' → cur'.size = cur.size → cur'.toList.take cs.length = cs → w.grownBy w' (some g) → w'.heap.size = w.heap.size → K (a.put o.dst (goInt cs.length)) w') :
    if Region.wanted o (yielded ops a.tmps) = true then Oper.wp P o a w K Q else E := by
  have hw : Region.wanted o (yielded ops a.tmps) = true := by simp [Region.wanted, hgd]
  rw [if_pos hw]
  have hrun := run_copy_row (P := P) w T T o.type elem g 0 dLen dCap ad sLen sCap cur t cs hu hsz hg hn hsrc (by simpa using hfit) h1
  unfold Oper.wp
  simp only [execOp, ho, resolve, invoke, builtin, Sem.run_bind, Sem.run_pure, Result.andThen_ok, List.map_toArray, List.map_cons, List.map_nil, hd, hs, hrun]
  refine h _ _ (setRow_heap w g _ _ t _ hg) ?_ ?_ ⟨rfl, rfl, rfl, by simp [World.setRow], fun k _ hne => setRow_other w g k _ (fun e => hne (by rw [e]))⟩ (by simp [World.setRow])
  · simp; omega
  · simp

set_option maxHeartbeats 400000 in
theorem lr0_any (g b n c : Nat) (x : Value) (y : Value) (w : World) (hb : Bk w g 70 #[x, .int .i64 0]) (he : w.cell? ⟨3, 0, none⟩ = some y) :
    Calls Tryd.prog 27 #[.pointer (some ⟨g, 0, none⟩), .slice (some ⟨b, 0, none⟩) n c] w fun e w' => e = .returned (.tuple #[.int .i64 0, y]) ∧ ∃ q, w' = w.drewN q := by
  have h1 : w.cell? ⟨g, 1, none⟩ = some (.int .i64 0) := hb.cell 1
  clear hb
  go_enter Tryd.func27, Tryd.ntmps27
  go_wp2
  go_quiet (fail)
  go_wp2
  go_ret2
  exact ⟨rfl, _, rfl⟩


set_option maxHeartbeats 400000 in
theorem rd_any (g f c n i b L c2 : Nat) (l : List Int) (w : World) (hr : Rdr w g f n c i l) (hL : i + L ≤ n) (h0 : 0 < L) (cur : Array Value) (t : TypeId) (hb : Bk w b t cur) (hcur : L ≤ cur.size) (hbg : b ≠ g) (hbf : b ≠ f) (hn : n ≤ 100000) :
    Calls Tryd.prog 43 #[.pointer (some ⟨g, 0, none⟩), .slice (some ⟨b, 0, none⟩) L c2] w fun e w' => e = .returned (.tuple #[.int .i64 L, .nilIface]) ∧ Rdr w' g f n c (i + L) l ∧
      (∃ cur' : Array Value, Bk w' b t cur' ∧ cur'.size = cur.size ∧ cur'.toList.take L = u8s ((l.drop i).take L)) ∧ Kp w w' (fun k => k = g ∨ k = b) ∧ w'.heap.size = w.heap.size := by
  obtain ⟨⟨p, hbk⟩, hl, hnc, hown⟩ := hr
  have hs : w.cell? ⟨g, 0, none⟩ = some (.slice (some ⟨f, 0, none⟩) n c) := hbk.cell 0
  have hi : w.cell? ⟨g, 1, none⟩ = some (.int .i64 i) := hbk.cell 1
  have hp : w.cell? ⟨g, 2, none⟩ = some (.int .i64 p) := hbk.cell 2
  have hf2 : w.frozen? ⟨g, 2, none⟩ = false := hbk.frozen 2
  have hf1 : w.frozen? ⟨g, 1, none⟩ = false := hbk.frozen 1
  have hj : (i : Int) < n := by omega
  have hj0 : (0 : Int) ≤ i := by omega
  have hnc' : (n : Int) ≤ c := by omega
  have hic : (i : Int) < c := by omega
  have hgf : f ≠ g := hown.ne hbk (by decide)
  have hin : i ≤ n := by omega
  have hin' : (i : Int) ≤ n := by omega
  have hci : ¬ c = i := by omega
  have HBK := hid hbk
  have HB := hid hb
  have HO := hid hown
  clear hbk hb hown
  go_enter Tryd.func43, Tryd.ntmps43
  go_wp2
  go_quiet (fail)
  go_wp2_with fail
  have hbw : Hid (Bk ((w.drewN nq).setCell ⟨g, 2, none⟩ (.int .i64 (-1))) b t cur) := (HB.out.drewN nq).far (p := ⟨g, 2, none⟩) hbg _
  have hkw : Hid (Bk ((w.drewN nq).setCell ⟨g, 2, none⟩ (.int .i64 (-1))) g 52 #[.slice (some ⟨f, 0, none⟩) n c, .int .i64 i, .int .i64 (-1)]) := (HBK.out.drewN nq).set 2 (.int .i64 (-1))
  have how : Hid (Own ((w.drewN nq).setCell ⟨g, 2, none⟩ (.int .i64 (-1))) 0 5 f c (u8s l)) := (HO.out.drewN nq).far (p := ⟨g, 2, none⟩) hgf _
  have hKW : Hid (Kp w ((w.drewN nq).setCell ⟨g, 2, none⟩ (.int .i64 (-1))) (fun k => k = g ∨ k = b)) := ((Kp.refl w _).drewN nq).set (p := ⟨g, 2, none⟩) (fun _ => .inl rfl) _
  have hsz : ((w.drewN nq).setCell ⟨g, 2, none⟩ (.int .i64 (-1))).heap.size = w.heap.size := by simp [World.setCell]
  clear hs hi hp hf1 hf2
  generalize (w.drewN nq).setCell ⟨g, 2, none⟩ (.int .i64 (-1)) = W at hbw hkw how hsz hKW ⊢
  have hs : W.cell? ⟨g, 0, none⟩ = some (.slice (some ⟨f, 0, none⟩) n c) := hkw.out.cell 0
  have hi : W.cell? ⟨g, 1, none⟩ = some (.int .i64 i) := hkw.out.cell 1
  have HSZ := hid hsz
  clear hsz
  have hn1 : (u8s ((l.drop i).take L)).length = L := by
    rw [u8s_length, List.length_take, List.length_drop, hl]; omega
  have HN := hid hn1
  have HM : Hid ((u8s ((l.drop i).take L)).length = Nat.min (n - i) L) := by
    show _ = _
    rw [hn1]
    exact (Nat.min_eq_right (by omega)).symm
  have HP : Hid (∀ j v, (u8s ((l.drop i).take L))[j]? = some v → W.drew.cell? ((⟨f, i, none⟩ : Addr).add j) = some v) := fun j v hv => by
    have hjL : j < L := by rw [← hn1]; exact (List.getElem?_eq_some_iff.1 hv).1
    have hadd : (⟨f, i, none⟩ : Addr).add j = ⟨f, i + j, none⟩ := by unfold Addr.add; split <;> simp_all
    rw [hadd]
    show W.cell? _ = _
    rw [how.out.cell (by rw [u8s_length]; omega), u8s_get]
    rw [u8s_get, List.getElem?_take, if_pos hjL, List.getElem?_drop] at hv
    exact hv
  have HF : Hid ((u8s ((l.drop i).take L)).length ≤ cur.size) := by rw [← hn1] at hcur; exact hcur
  have hglt := hkw.out.lt
  have hgb : some g ≠ some b := fun e => hbg (by injection e with e; exact e.symm)
  clear hn1
  go_region_held3 (fun w' => w'.cell? ⟨g, 0, none⟩ = some (.slice (some ⟨f, 0, none⟩) n c) ∧ w'.cell? ⟨g, 1, none⟩ = some (.int .i64 i)) (go_keep)
    ((refine step_copy (by rfl) (.tmp 20) (.tmp 29) 23 (by rfl) 5 Tryd.underlying23 (by kernel_rfl) b L c2 ⟨f, i, none⟩ (n - i) (c - i) (by rfl) (by rfl) cur t hbw.out (u8s ((l.drop i).take L)) HM.out HP.out HF.out (u8s_one _) ?_; rw [HN.out]; intro w5 cur5 hb5 hs5 ht5 hg5 hz5; have hk5 : Hid (Bk w5 g 52 #[.slice (some ⟨f, 0, none⟩) n c, .int .i64 i, .int .i64 (-1)]) := Bk.grown hkw.out.drew hg5 hgb; have f0 := hk5.out.cell 0; have f1 := hk5.out.cell 1; have HT5 := hid ht5; clear ht5))
  have hf1 : w5.frozen? ⟨g, 1, none⟩ = false := hk5.out.frozen 1
  have hgoal : ∀ x : Int, x = ((i + L : Nat) : Int) → Rdr (w5.setCell ⟨g, 1, none⟩ (.int .i64 x)) g f n c (i + L) l ∧ (∃ cur' : Array Value, Bk (w5.setCell ⟨g, 1, none⟩ (.int .i64 x)) b t cur' ∧ cur'.size = cur.size ∧ cur'.toList.take L = u8s ((l.drop i).take L)) ∧
      Kp w (w5.setCell ⟨g, 1, none⟩ (.int .i64 x)) (fun k => k = g ∨ k = b) ∧ (w5.setCell ⟨g, 1, none⟩ (.int .i64 x)).heap.size = w.heap.size := by
    intro x hx
    subst hx
    refine ⟨⟨⟨-1, hk5.out.set 1 _⟩, hl, hnc, (Own.grown (how.out.drew) hg5 (fun e => hbf (by injection e with e; exact e.symm))).far (p := ⟨g, 1, none⟩) hgf _⟩, ⟨cur5, hb5.far (p := ⟨g, 1, none⟩) hbg _, hs5, HT5.out⟩, ?_, ?_⟩
    · exact ((hKW.out.drew).grown hg5 (fun k hk _ => .inr (by injection hk with hk; exact hk.symm))).set (p := ⟨g, 1, none⟩) (fun _ => .inl rfl) _
    · have := hg5.size
      simp [World.setCell]
      exact hz5.trans HSZ.out
  have HG := hid hgoal
  clear hgoal hb5 hs5 hg5 hz5
  go_wp2
  go_ret2
  exact ⟨rfl, HG.out _ (by omega)⟩

theorem method_rd (a : Addr) (w : World) : (method 190 45 (.pointer (some a)) "Read").run Tryd.prog w = .ok (43, .pointer (some a)) w := by kernel_rfl

/-- A reader of at most so many bytes more. -/
def Lim (w : World) (q g rem : Nat) : Prop := Bk w q 70 #[.iface 45 (.pointer (some ⟨g, 0, none⟩)), .int .i64 rem]

theorem lim_fin {q g f n c i rem b K : Nat} {l : List Int} {w w2 : World} {t : TypeId} {cur2 : Array Value} (hqg : q ≠ g) (hqb : q ≠ b) (hq : Lim w2 q g rem) (hr : Rdr w2 g f n c (i + K) l) (hb : Bk w2 b t cur2) (hs : cur2.size = 512)
    (ht : cur2.toList.take K = u8s ((l.drop i).take K)) (hk : Kp w w2 (fun k => k = g ∨ k = b)) (hz : w2.heap.size = w.heap.size) (x : Int) (hx : x = ((rem - K : Nat) : Int)) :
    Lim (w2.setCell ⟨q, 1, none⟩ (.int .i64 x)) q g (rem - K) ∧ Rdr (w2.setCell ⟨q, 1, none⟩ (.int .i64 x)) g f n c (i + K) l ∧
      (∃ cur' : Array Value, Bk (w2.setCell ⟨q, 1, none⟩ (.int .i64 x)) b t cur' ∧ cur'.size = 512 ∧ cur'.toList.take K = u8s ((l.drop i).take K)) ∧ Kp w (w2.setCell ⟨q, 1, none⟩ (.int .i64 x)) (fun k => k = g ∨ k = b ∨ k = q) ∧ (w2.setCell ⟨q, 1, none⟩ (.int .i64 x)).heap.size = w.heap.size := by
  subst hx
  refine ⟨Bk.set hq 1 _, ?_, ⟨cur2, hb.far (p := ⟨q, 1, none⟩) (fun e => hqb e.symm) _, hs, ht⟩, ?_, ?_⟩
  · refine hr.keep (grown_set (World.grownBy.refl w2 q) 1 _) (fun e => hqg (by injection e with e; exact e.symm)) ?_
    intro e
    injection e with e
    obtain ⟨cur, hbk, _⟩ := hr.2.2.2.blk
    subst e
    exact (hbk.ne hq (by decide)) rfl
  · exact (hk.mono (fun k _ h => by rcases h with h | h; exact .inl h; exact .inr (.inl h))).set (p := ⟨q, 1, none⟩) (fun _ => .inr (.inr rfl)) _
  · simp [World.setCell, hz]

set_option maxRecDepth 100000 in
set_option maxHeartbeats 800000 in
theorem lr1_any (q g f c n i rem b : Nat) (l : List Int) (w : World) (hq : Lim w q g rem) (hr : Rdr w g f n c i l) (hrem : i + rem = n) (h0 : 0 < rem) (cur : Array Value) (t : TypeId) (hb : Bk w b t cur) (hcur : cur.size = 512)
    (hbg : b ≠ g) (hbf : b ≠ f) (hqb : q ≠ b) (hn : n ≤ 100000) (K : Nat) (hK : K = min 512 rem) :
    Calls Tryd.prog 27 #[.pointer (some ⟨q, 0, none⟩), .slice (some ⟨b, 0, none⟩) 512 512] w fun e w' => e = .returned (.tuple #[.int .i64 K, .nilIface]) ∧ Lim w' q g (rem - K) ∧ Rdr w' g f n c (i + K) l ∧
      (∃ cur' : Array Value, Bk w' b t cur' ∧ cur'.size = 512 ∧ cur'.toList.take K = u8s ((l.drop i).take K)) ∧ Kp w w' (fun k => k = g ∨ k = b ∨ k = q) ∧ w'.heap.size = w.heap.size := by
  have hm := fun w => method_rd ⟨g, 0, none⟩ w
  have hqg : q ≠ g := by
    obtain ⟨⟨p, hbk⟩, _⟩ := hr
    exact hq.ne hbk (by decide)
  have h1 : w.cell? ⟨q, 1, none⟩ = some (.int .i64 rem) := hq.cell 1
  have h2 : w.cell? ⟨q, 0, none⟩ = some (.iface 45 (.pointer (some ⟨g, 0, none⟩))) := hq.cell 0
  have hr0 : (0 : Int) < rem := by omega
  have HQ := hid hq
  have HB := hid hb
  have HK := hid hK
  have HC := hid hcur
  have HR := hid hrem
  have hrn : rem ≤ 100000 := by omega
  clear hq hb hK hcur hrem
  by_cases hlt : rem < 512
  · have hl2 : (rem : Int) < 512 := by omega
    obtain rfl : K = rem := by rw [HK.out]; omega
    go_enter Tryd.func27, Tryd.ntmps27
    go_wp2_with fail
    refine (rd_any g f c n i b K 512 l _ hr (by rw [HR.out]; exact Nat.le_refl _) h0 cur t HB.out (by rw [HC.out]; omega) hbg hbf hn).mono ?_
    rintro e w2 ⟨rfl, hr2, ⟨cur2, hb2, hs2, ht2⟩, hk2, hz2⟩
    rw [HC.out] at hs2
    have hq2 : Lim w2 q g K := HQ.out.kp hk2 (by rintro (h | h); exact hqg h; exact hqb h)
    have f1 : w2.cell? ⟨q, 1, none⟩ = some (.int .i64 K) := hq2.cell 1
    have f2 : w2.frozen? ⟨q, 1, none⟩ = false := hq2.frozen 1
    have HF := hid (lim_fin hqg hqb hq2 hr2 hb2 hs2 ht2 hk2 hz2)
    clear hq2 h1 h2 ht2 hz2 hs2
    go_wp2
    go_ret2
    exact ⟨rfl, HF.out _ (by omega)⟩
  · have hl2 : (512 : Int) ≤ rem := by omega
    obtain rfl : K = 512 := by rw [HK.out]; omega
    go_enter Tryd.func27, Tryd.ntmps27
    go_wp2_with fail
    refine (rd_any g f c n i b 512 512 l _ hr (by rw [← HR.out]; omega) (by omega) cur t HB.out (by rw [HC.out]; omega) hbg hbf hn).mono ?_
    rintro e w2 ⟨rfl, hr2, ⟨cur2, hb2, hs2, ht2⟩, hk2, hz2⟩
    rw [HC.out] at hs2
    have hq2 : Lim w2 q g rem := HQ.out.kp hk2 (by rintro (h | h); exact hqg h; exact hqb h)
    have f1 : w2.cell? ⟨q, 1, none⟩ = some (.int .i64 rem) := hq2.cell 1
    have f2 : w2.frozen? ⟨q, 1, none⟩ = false := hq2.frozen 1
    have HF := hid (lim_fin hqg hqb hq2 hr2 hb2 hs2 ht2 hk2 hz2)
    clear hq2 h1 h2 ht2 hz2 hs2
    go_wp2
    go_ret2
    exact ⟨rfl, HF.out _ (by omega)⟩
end Go.Proofs.YtfpepghmbeoanaaDoor

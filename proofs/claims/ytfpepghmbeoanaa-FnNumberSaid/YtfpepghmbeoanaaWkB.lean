/-
  The walk of readUint64: what it returns, said by its bytes.
-/
import Derived.Test.YtfpepghmbeoanaaWkA
namespace Go.Proofs.Ytfpepghmbeoanaa
open Go.RowKit

theorem method_read (a : Addr) (w : World) : (method 166 35 (.pointer (some a)) "ReadByte").run Try.prog w = .ok (30, .pointer (some a)) w := by kernel_rfl
theorem u8_not : ∀ b < 256, bits BinOp.xor IntKind.u8 IntKind.u8.max ((b : Nat) : Int) = ((255 - b : Nat) : Int) := by decide +kernel

/-- What the first byte gives; what j more bytes make of it. -/
def acc0 (b k : Nat) : Int := if k < 7 then bits BinOp.or IntKind.u64 0 (IntKind.u64.wrap (IntKind.u64.wrap (bits BinOp.and IntKind.u8 b ((2 ^ (8 - k) - 1) % 256)) * 2 ^ (8 * k))) else 0
def acc (b k : Nat) (l : List Int) : Nat → Int
  | 0 => acc0 b k
  | j + 1 => bits BinOp.or IntKind.u64 (acc b k l j) (IntKind.u64.wrap (IntKind.u64.wrap (l.getD (j + 1) 0) * 2 ^ (8 * j)))

set_option maxHeartbeats 800000 in
theorem ru_any (g h c n : Nat) (l : List Int) (b k : Nat) (w : World) (hr : Rdr w g h n c 0 l) (hu : l[0]? = some (b : Int)) (hn : n ≤ 1000) (hb : b < 256)
    (hk : 8 - len8 (255 - b) = k) (hkn : k < n) :
    Calls Try.prog 11 #[.iface 35 (.pointer (some ⟨g, 0, none⟩))] w fun e w' => e = .returned (.tuple #[.int .u64 (acc b k l k), .nilIface]) ∧ Rdr w' g h n c (1 + k) l ∧ w.grownBy w' (some g) := by
  have hm := fun w => method_read ⟨g, 0, none⟩ w
  have hs8 : IntKind.u8.signed = false := rfl
  have hs64 : IntKind.u64.signed = false := rfl
  have hnot := u8_not b hb
  have hk8 : k ≤ 8 := by omega
  obtain ⟨a0, ha0⟩ : ∃ a0, a0 = acc b k l 0 := ⟨_, rfl⟩
  have hA : Hid (acc0 b k = acc b k l 0) := rfl
  by_cases hk7 : k < 7
  all_goals
    have hk' : decide ((k : Int) < 7) = decide (k < 7) := decide_eq_decide.2 (by omega)
    have hA0 : Hid (acc b k l 0 = if k < 7 then bits BinOp.or IntKind.u64 0 (IntKind.u64.wrap (IntKind.u64.wrap (bits BinOp.and IntKind.u8 b ((2 ^ (8 - k) - 1) % 256)) * 2 ^ (8 * k))) else 0) := rfl
    go_enter Try.func11, Try.ntmps11
    go_wp2_with fail
    refine (rb_any g h c n 0 l b _ hr hu hn).mono ?_
    rintro e w1 ⟨rfl, hr1, hg1⟩
    go_wp2_with fail
    refine (lz8_any (255 - b) _ (by omega)).mono ?_
    rw [hk]
    rintro e w' ⟨rfl, rfl⟩
    clear hk hnot
    go_wp2_with fail
    generalize ((2 : Int) ^ (8 - k) % 256 - 1) % 256 = z1
    go_loopw [7, 37] (fun v i wr => ∃ j : Nat, j ≤ k ∧ i = .int .i64 j ∧ v = .int .u64 (acc b k l j) ∧ Rdr wr g h n c (1 + j) l ∧ w.grownBy wr (some g))
      (fun _ i _ => k - (intOf i).toNat)
    case atStart => exact ⟨0, Nat.zero_le _, rfl, by rw [hA0.out]; first | rw [if_pos hk7] | rw [if_neg hk7], hr1, hg1⟩
    case round =>
      clear hr1 hg1 hA0
      obtain ⟨j, hj, rfl, rfl, hrj, hgj⟩ := hrel
      by_cases hlt : j < k
      · have hacc : Hid (acc b k l (j + 1) = bits BinOp.or IntKind.u64 (acc b k l j) (IntKind.u64.wrap (IntKind.u64.wrap (l.getD (j + 1) 0) * 2 ^ (8 * j)))) := rfl
        have hlj : l[1 + j]? = some (l.getD (j + 1) 0) := by
          have h1 : j + 1 < l.length := by rw [hrj.2.1]; omega
          rw [Nat.add_comm, List.getD_eq_getElem?_getD, List.getElem?_eq_getElem h1]; rfl
        go_wp2_with fail
        refine (rb_any g h c n (1 + j) l (l.getD (j + 1) 0) _ hrj hlj hn).mono ?_
        rintro e w2 ⟨rfl, hr2, hg2⟩
        go_wp2_with fail
        go_roundw
        case rel => exact ⟨j + 1, hlt, by go_num, by rw [hacc.out]; simp, hr2, grown_trans hgj hg2⟩
        case measure => simp [intOf]; omega
      · obtain rfl : j = k := by omega
        go_wp2_with fail
        go_ret2
        exact ⟨rfl, hrj, hgj⟩

theorem ret_num {a c : Int} {x y : Value} (h : a = c) : Ending.returned (.tuple #[x, .int .i64 a, y]) = .returned (.tuple #[x, .int .i64 c, y]) := by rw [h]

set_option maxHeartbeats 800000 in
theorem zz_any (h c m : Nat) (l : List Int) (b k : Nat) (w : World) (B : Nat) (hown : Own w B 5 h c (u8s l)) (hl : l.length = m) (hu : l[0]? = some (b : Int)) (hn : m ≤ 1000) (hb : b < 256)
    (hk : 8 - len8 (255 - b) = k) (hkn : k < m) :
    Calls Try.prog 8 #[.slice (some ⟨h, 0, none⟩) m c] w fun e w' => e = .returned (.tuple #[.int .u64 (acc b k l k), .int .i64 (k + 1), .nilIface]) ∧ Below w.heap.size w w' := by
  have hmc : m ≤ c := by have := hown.le; rw [u8s_length] at this; omega
  have HL := hid hl
  clear hl
  go_enter Try.func8, Try.ntmps8
  go_wp2_with fail
  refine (nr_any _ _ _ _).mono ?_
  rintro e w1 ⟨rfl, rfl⟩
  have hr : Rdr (w.alloc (.cells #[.slice (some ⟨h, 0, none⟩) m c, .int .i64 0, .int .i64 (-1)] 41)) w.heap.size h m c 0 l :=
    ⟨⟨-1, Bk.new _ _ _⟩, HL.out, hmc, (hown.mono (Nat.zero_le _)).alloc _⟩
  go_wp2_with fail
  refine (ru_any w.heap.size h c m l b k _ hr hu hn hb hk hkn).mono ?_
  rintro e w2 ⟨rfl, hr2, hg2⟩
  have hB : Below w.heap.size w w2 := ((Below.refl _ _).alloc (Nat.le_refl _) _).grown hg2 (by simp) (fun j hj => by injection hj with hj; omega)
  obtain ⟨⟨p, hbk⟩, _⟩ := hr2
  have hbk' : Hid _ := hbk
  clear hbk
  go_wp2_with fail
  refine (rlen_any w.heap.size _ m c (1 + k) _ _ hbk'.out (by omega) hn).mono ?_
  rintro e w3 ⟨rfl, q, rfl⟩
  have hB3 := below_drewN hB q
  go_wp2_with fail
  go_ret3
  exact ⟨ret_num (by omega), hB3⟩
end Go.Proofs.Ytfpepghmbeoanaa

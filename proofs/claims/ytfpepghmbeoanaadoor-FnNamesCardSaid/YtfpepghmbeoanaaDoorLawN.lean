/-
  Names as units of two bytes: what splitNames makes of them; what UTF16 makes of a name; a list of names there and back.
-/
import Derived.Test.YtfpepghmbeoanaaDoorWordsB
import Derived.Laws.BytesArg
import Derived.Lib.AppendStr
namespace Go.Proofs.YtfpepghmbeoanaaDoor
open Go.RowKit

def dat (us : List Int) : List Int := us.flatMap fun u => [u, 0]
def stp (s : List (List Int) × List Int) (u : Int) : List (List Int) × List Int := if u = 0 then (s.1 ++ [s.2], []) else (s.1, s.2 ++ [u])
def st (us : List Int) (k : Nat) : List (List Int) × List Int := (us.take k).foldl stp ([], [])
def strs (ss : List (List Int)) : List Value := ss.map fun s => .string (strOfNums s)

theorem strs_length (ss : List (List Int)) : (strs ss).length = ss.length := by simp [strs]
theorem strs_append (a b : List (List Int)) : strs a ++ strs b = strs (a ++ b) := by simp [strs]
theorem strs_one (ss : List (List Int)) : ∀ u ∈ strs ss, u.oneCell' = true := by
  intro u hu
  simp only [strs, List.mem_map] at hu
  obtain ⟨x, _, rfl⟩ := hu
  rfl
theorem st_zero (us : List Int) : st us 0 = ([], []) := by simp [st]
theorem st_next {us : List Int} {k : Nat} {u : Int} (h : us[k]? = some u) : st us (k + 1) = stp (st us k) u := by
  unfold st
  rw [List.take_add_one, h, List.foldl_append]
  rfl
theorem st_nul {us : List Int} {k : Nat} (h : us[k]? = some 0) : st us (k + 1) = ((st us k).1 ++ [(st us k).2], []) := by rw [st_next h]; simp [stp]
theorem st_put {us : List Int} {k : Nat} {u : Int} (h : us[k]? = some u) (h0 : u ≠ 0) : st us (k + 1) = ((st us k).1, (st us k).2 ++ [u]) := by rw [st_next h]; simp [stp, h0]
theorem st_le (us : List Int) : ∀ k, (st us k).1.length + (st us k).2.length ≤ k
  | 0 => by simp [st]
  | k + 1 => by
    have ih := st_le us k
    rcases h : us[k]? with _ | u
    · unfold st at ih ⊢
      rw [List.take_add_one, h]
      simp at ih ⊢
      omega
    · by_cases h0 : u = 0
      · subst h0
        rw [st_nul h]; simp; omega
      · rw [st_put h h0]; simp; omega
theorem dat_length (us : List Int) : (dat us).length = 2 * us.length := by
  unfold dat
  induction us with
  | nil => rfl
  | cons u us ih => simp only [List.flatMap_cons, List.length_append, List.length_cons, List.length_nil, ih]; omega
theorem dat_even : ∀ (us : List Int) (k : Nat), (dat us)[2 * k]? = us[k]?
  | [], k => by simp [dat]
  | u :: us, 0 => by simp [dat]
  | u :: us, k + 1 => by
    have := dat_even us k
    unfold dat at this ⊢
    rw [show 2 * (k + 1) = 2 * k + 1 + 1 from by omega]
    simpa using this
theorem dat_odd : ∀ (us : List Int) (k : Nat), k < us.length → (dat us)[2 * k + 1]? = some 0
  | [], k, h => by simp at h
  | u :: us, 0, _ => by simp [dat]
  | u :: us, k + 1, h => by
    have := dat_odd us k (by simpa using h)
    unfold dat at this ⊢
    rw [show 2 * (k + 1) + 1 = 2 * k + 1 + 1 + 1 from by omega]
    simpa using this
theorem dat_append (a b : List Int) : dat (a ++ b) = dat a ++ dat b := by simp [dat]

/-- A character below 128 in UTF-8. -/
theorem enc_small (u : Int) (h0 : 0 ≤ u) (h1 : u < 128) : Lib.strCells (Utf8.encode u) = u8s [u] := by
  obtain ⟨r, rfl⟩ := Int.eq_ofNat_of_zero_le h0
  have c1 : r < 128 := by omega
  have v : Utf8.valid (r : Int) = true := by simp [Utf8.valid]; omega
  unfold Lib.strCells u8s
  rw [show (Utf8.encode (r : Int)).data.toList = [UInt8.ofNat r] by simp [Utf8.encode, v, c1]]
  simp
  omega
theorem enc_size (u : Int) (h0 : 0 ≤ u) (h1 : u < 128) : (Utf8.encode u).size = 1 := by
  have := congrArg List.length (enc_small u h0 h1)
  rw [Lib.strCells_length] at this
  simpa [u8s] using this

theorem or_zero (u : Int) (h0 : 0 ≤ u) (h1 : u < 128) : bits BinOp.or IntKind.i32 u 0 = u := by
  have key : ∀ r < 128, bits BinOp.or IntKind.i32 ((r : Nat) : Int) 0 = (r : Int) := by decide +kernel
  obtain ⟨r, rfl⟩ := Int.eq_ofNat_of_zero_le h0
  exact key r (by omega)

theorem conv_name {P : Program} (src e dst : TypeId) (hs : P.underlying src = some (.slice e)) (he : P.underlying e = some (.int .u8)) (hd : P.underlying dst = some .string) {W : World} {B n : Nat} {v : Value} {cu : List Int}
    (h : W.ownsRow B e 1 v n (u8s cu)) : (convert src dst v).run P W = .ok (.string (strOfNums cu)) W := by
  have hl : cu.length = n := by have := h.1; rw [u8s_length] at this; simpa using this
  rcases h.2 with ⟨rfl, h0⟩ | ⟨g, cap, cur, rfl, hb, hg, h1, h2, h3, h4⟩
  · have hcu : cu = [] := List.eq_nil_of_length_eq_zero (by omega)
    subst hcu
    exact run_convert_bytes_nil W src e hs he 0 0 dst hd
  · refine run_convert_bytes_arg W src e hs he g 0 n cap cu hl (fun i hi => ?_) dst hd
    rw [Nat.zero_add, World.ownsRow.cellAt h i (by simpa using hi), u8s_get, List.getElem?_eq_getElem (by omega), List.getD_eq_getElem?_getD, List.getElem?_eq_getElem (by omega)]
    rfl

/-- All units of names, each with a nought behind it. -/
def uns (ss : List (List Int)) : List Int := ss.flatMap fun s => s ++ [0]
theorem foldl_put : ∀ (s : List Int) (d : List (List Int)) (c : List Int), (∀ x ∈ s, x ≠ 0) → s.foldl stp (d, c) = (d, c ++ s)
  | [], d, c, _ => by simp
  | x :: s, d, c, h => by
    rw [List.foldl_cons, show stp (d, c) x = (d, c ++ [x]) by simp [stp, h x (by simp)], foldl_put s d (c ++ [x]) (fun y hy => h y (by simp [hy]))]
    simp
theorem foldl_uns : ∀ (ss : List (List Int)) (d : List (List Int)), (∀ s ∈ ss, ∀ x ∈ s, x ≠ 0) → (uns ss).foldl stp (d, []) = (d ++ ss, [])
  | [], d, _ => by simp [uns]
  | s :: ss, d, h => by
    have e : uns (s :: ss) = s ++ [0] ++ uns ss := by simp [uns]
    rw [e, List.foldl_append, List.foldl_append, foldl_put s d [] (h s (by simp))]
    rw [show List.foldl stp (d, [] ++ s) [0] = (d ++ [s], []) by simp [stp], foldl_uns ss (d ++ [s]) (fun t ht => h t (by simp [ht]))]
    simp
theorem st_uns (ss : List (List Int)) (h : ∀ s ∈ ss, ∀ x ∈ s, x ≠ 0) : st (uns ss) (uns ss).length = (ss, []) := by
  unfold st
  rw [List.take_of_length_le (Nat.le_refl _), foldl_uns ss [] h]
  simp

/-- The bytes of a string, as numbers, and back. -/
def nums (s : ByteArray) : List Int := s.data.toList.map fun b => (b.toNat : Int)
theorem strOfNums_nums (s : ByteArray) : strOfNums (nums s) = s := by
  have h : (nums s).map (fun n => UInt8.ofNat n.toNat) = s.data.toList := by
    unfold nums
    rw [List.map_map]
    refine (List.map_congr_left (g := id) fun b _ => ?_).trans (List.map_id _)
    show UInt8.ofNat ((b.toNat : Int).toNat) = b
    rw [Int.toNat_natCast]
    exact UInt8.ofNat_toNat
  unfold strOfNums
  rw [h]
theorem nums_length (s : ByteArray) : (nums s).length = s.size := by unfold nums; rw [List.length_map, Array.length_toList]; rfl
theorem nums_get (s : ByteArray) (k : Nat) (h : k < s.size) : (nums s)[k]? = some (((s[k]'h).toNat : Nat) : Int) := by
  have h' : k < s.data.toList.length := by rw [Array.length_toList]; exact h
  unfold nums
  rw [List.getElem?_map, List.getElem?_eq_getElem h', Array.getElem_toList]
  rfl
end Go.Proofs.YtfpepghmbeoanaaDoor

/-
  Words for the walks of this seat, over whatever program: a block that is known whole; a row of the call's own that is not nil; append onto such a row from whatever source; bytes as values.
-/
import Derived.WalkKit
import Derived.WalkSpells
import Derived.WalkLawsBesides
import Derived.Deep.QuietTactic
import Derived.BigQuiet
import Derived.Deep.LoopGhost
import Derived.Deep.DeepFit
import Derived.Deep.AppendLies
import Derived.Maps.AppendAt
namespace Go.Proofs.YtfpepghmbeoanaaDoor
open Go.RowKit

/-- Block g holds just these cells of type t, none frozen. -/
def Bk (w : World) (g : Nat) (t : TypeId) (cs : Array Value) : Prop := w.heap[g]? = some (.cells cs t (0, 0))

section
variable {w w' : World} {g : Nat} {t : TypeId} {cs : Array Value}
theorem Bk.lt (h : Bk w g t cs) : g < w.heap.size := (Array.getElem?_eq_some_iff.1 h).1
theorem Bk.cell (h : Bk w g t cs) (i : Nat) : w.cell? ⟨g, i, none⟩ = cs[i]? := cell_of_row w g i cs t (0, 0) h
theorem Bk.frozen (h : Bk w g t cs) (i : Nat) : w.frozen? ⟨g, i, none⟩ = false := frozen_of_row w g i cs t h
theorem Bk.new (w : World) (t : TypeId) (cs : Array Value) : Bk (w.alloc (.cells cs t)) w.heap.size t cs := heap_alloc_new w _
theorem Bk.drewN (h : Bk w g t cs) (n : Nat) : Bk (w.drewN n) g t cs := h
theorem Bk.drew (h : Bk w g t cs) : Bk w.drew g t cs := h
theorem Bk.alloc (h : Bk w g t cs) (o : Obj) : Bk (w.alloc o) g t cs := (Below.heap_alloc w o g h.lt).trans h
theorem Bk.set (h : Bk w g t cs) (i : Nat) (u : Value) : Bk (w.setCell ⟨g, i, none⟩ u) g t (cs.setIfInBounds i u) := heap_setCell_same w g i cs t u h
theorem Bk.far (h : Bk w g t cs) {p : Addr} (hp : g ≠ p.block) (u : Value) : Bk (w.setCell p u) g t cs := (Below.heap_setCell w p u g hp).trans h
theorem Bk.below {B : Nat} (h : Bk w g t cs) (hb : Below B w w') (hg : g < B) : Bk w' g t cs := (hb.block g hg).trans h
theorem Bk.grown {row : Option Nat} (h : Bk w g t cs) (hb : w.grownBy w' row) (hg : some g ≠ row) : Bk w' g t cs := (hb.block g h.lt hg).trans h
theorem Bk.ne {g' : Nat} {t' : TypeId} {cs' : Array Value} (h : Bk w g t cs) (h' : Bk w g' t' cs') (hne : t ≠ t') : g ≠ g' := by
  rintro rfl
  unfold Bk at h h'
  rw [h] at h'
  injection h' with h'
  injection h' with _ ht
  exact hne ht
end

theorem hid {p : Prop} (h : p) : Hid p := h
theorem below_drewN {B : Nat} {a w : World} (h : Below B a w) (n : Nat) : Below B a (w.drewN n) := ⟨h.os, h.tape, h.output, h.size, h.block⟩
theorem grown_drewN {a w : World} {row : Option Nat} (h : a.grownBy w row) (n : Nat) : a.grownBy (w.drewN n) row := ⟨h.os, h.tape, h.output, h.size, h.block⟩
theorem grown_set {a w : World} {g : Nat} (h : a.grownBy w (some g)) (i : Nat) (u : Value) : a.grownBy (w.setCell ⟨g, i, none⟩ u) (some g) :=
  ⟨h.os, h.tape, h.output, by simpa [World.setCell] using h.size, fun k hk hne => (Below.heap_setCell w ⟨g, i, none⟩ u k (fun e => hne (by rw [e]))).trans (h.block k hk hne)⟩
theorem grown_alloc {a w : World} {row : Option Nat} (h : a.grownBy w row) (o : Obj) : a.grownBy (w.alloc o) row :=
  ⟨h.os, h.tape, h.output, Nat.le_trans h.size (by simp), fun k hk hne => (Below.heap_alloc w o k (Nat.lt_of_lt_of_le hk h.size)).trans (h.block k hk hne)⟩
theorem grown_trans {a b c : World} {row : Option Nat} (h : a.grownBy b row) (k : b.grownBy c row) : a.grownBy c row :=
  ⟨k.os.trans h.os, k.tape.trans h.tape, k.output.trans h.output, Nat.le_trans h.size k.size, fun i hi hne => (k.block i (Nat.lt_of_lt_of_le hi h.size) hne).trans (h.block i hi hne)⟩
theorem grown_below {a b c : World} {row : Option Nat} (h : a.grownBy b row) (k : Below b.heap.size b c) : a.grownBy c row :=
  ⟨k.os.trans h.os, k.tape.trans h.tape, k.output.trans h.output, Nat.le_trans h.size k.size, fun i hi hne => (k.block i (Nat.lt_of_lt_of_le hi h.size)).trans (h.block i hi hne)⟩

/-- The slice at the head of block g, of the elements xs (one cell each, of type e), is the call's own, from block B on; it is not nil. -/
def Own (w : World) (B : Nat) (e : TypeId) (g cap : Nat) (xs : List Value) : Prop := w.ownsRow B e 1 (.slice (some ⟨g, 0, none⟩) xs.length cap) xs.length xs

section
variable {w w' : World} {B : Nat} {e : TypeId} {g cap : Nat} {xs : List Value}
theorem Own.blk (h : Own w B e g cap xs) : ∃ cur : Array Value, Bk w g e cur ∧ B ≤ g ∧ xs.length ≤ cap ∧ cap ≤ maxLen ∧ cur.size = cap ∧ cur.toList.take xs.length = xs := by
  rcases h.2 with ⟨h', _⟩ | ⟨g', cap', cur, h', hb, hg, hn, hm, hc, ht⟩
  · simp at h'
  · simp only [Value.slice.injEq, Option.some.injEq, Addr.mk.injEq, and_true, true_and] at h'
    obtain ⟨rfl, rfl⟩ := h'
    exact ⟨cur, hg, hb, hn, hm, by simpa using hc, by simpa using ht⟩
theorem Own.mk (cur : Array Value) (hg : Bk w g e cur) (hb : B ≤ g) (hn : xs.length ≤ cap) (hm : cap ≤ maxLen) (hc : cur.size = cap) (ht : cur.toList.take xs.length = xs) : Own w B e g cap xs :=
  ⟨by simp, .inr ⟨g, cap, cur, rfl, hb, hg, hn, hm, by simpa using hc, by simpa using ht⟩⟩
theorem Own.le (h : Own w B e g cap xs) : xs.length ≤ cap := by obtain ⟨_, _, _, h1, _⟩ := h.blk; exact h1
theorem Own.ge (h : Own w B e g cap xs) : B ≤ g := by obtain ⟨_, _, h1, _⟩ := h.blk; exact h1
theorem Own.lt (h : Own w B e g cap xs) : g < w.heap.size := by obtain ⟨_, h1, _⟩ := h.blk; exact h1.lt
theorem Own.cell (h : Own w B e g cap xs) {j : Nat} (hj : j < xs.length) : w.cell? ⟨g, j, none⟩ = xs[j]? := World.ownsRow.cellAt h j (by simpa using hj)
theorem Own.frozen (h : Own w B e g cap xs) (j : Nat) : w.frozen? ⟨g, j, none⟩ = false := World.ownsRow.frozenAt h j
theorem Own.mono {B' : Nat} (h : Own w B e g cap xs) (hB : B' ≤ B) : Own w B' e g cap xs := by
  obtain ⟨cur, h1, h2, h3, h4, h5, h6⟩ := h.blk
  exact .mk cur h1 (Nat.le_trans hB h2) h3 h4 h5 h6
theorem Own.drewN (h : Own w B e g cap xs) (n : Nat) : Own (w.drewN n) B e g cap xs := h
theorem Own.drew (h : Own w B e g cap xs) : Own w.drew B e g cap xs := h
theorem Own.alloc (h : Own w B e g cap xs) (o : Obj) : Own (w.alloc o) B e g cap xs := World.ownsRow.alloc h o
theorem Own.below {C : Nat} (h : Own w B e g cap xs) (hb : Below C w w') (hg : g < C) : Own w' B e g cap xs := by
  obtain ⟨cur, h1, h2, h3, h4, h5, h6⟩ := h.blk
  exact .mk cur (h1.below hb hg) h2 h3 h4 h5 h6
theorem Own.grown {row : Option Nat} (h : Own w B e g cap xs) (hb : w.grownBy w' row) (hg : some g ≠ row) : Own w' B e g cap xs := by
  obtain ⟨cur, h1, h2, h3, h4, h5, h6⟩ := h.blk
  exact .mk cur (h1.grown hb hg) h2 h3 h4 h5 h6
theorem Own.far (h : Own w B e g cap xs) {p : Addr} (hp : g ≠ p.block) (u : Value) : Own (w.setCell p u) B e g cap xs := by
  obtain ⟨cur, h1, h2, h3, h4, h5, h6⟩ := h.blk
  exact .mk cur (h1.far hp u) h2 h3 h4 h5 h6
theorem Own.set (h : Own w B e g cap xs) (j : Nat) (u : Value) : Own (w.setCell ⟨g, j, none⟩ u) B e g cap (xs.set j u) := by
  have := (World.ownsRow.stored h j u).1
  unfold Own
  simpa using this
theorem Own.ne {g' : Nat} {t' : TypeId} {cs' : Array Value} (h : Own w B e g cap xs) (h' : Bk w g' t' cs') (hne : e ≠ t') : g ≠ g' := by
  obtain ⟨cur, h1, _⟩ := h.blk
  exact h1.ne h' hne
theorem Own.new (w : World) (cs : Array Value) (e : TypeId) (hm : cs.size ≤ maxLen) : Own (w.alloc (.cells cs e)) w.heap.size e w.heap.size cs.size cs.toList := by
  refine .mk cs (Bk.new w e cs) (Nat.le_refl _) (by simp) hm rfl ?_
  rw [List.take_of_length_le (Nat.le_refl _)]
end

/-- What append is handed: m cells from the address on, or nothing. -/
def Src (w : World) (A : Option Addr) (m : Nat) (news : List Value) : Prop :=
  news.length = m ∧ (0 < m → ∃ ad, A = some ad ∧ ∀ j u, news[j]? = some u → w.cell? (ad.add j) = some u)

theorem add_lit (g j : Nat) : (⟨g, 0, none⟩ : Addr).add j = ⟨g, j, none⟩ := by unfold Addr.add; split <;> simp_all

theorem Own.src {w : World} {B : Nat} {e : TypeId} {g cap : Nat} {xs : List Value} (h : Own w B e g cap xs) : Src w (some ⟨g, 0, none⟩) xs.length xs :=
  ⟨rfl, fun _ => ⟨_, rfl, fun j u hu => by
    have hj : j < xs.length := (List.getElem?_eq_some_iff.1 hu).1
    rw [add_lit, h.cell hj]; exact hu⟩⟩
theorem Src.one {w : World} {g : Nat} {t : TypeId} {u : Value} (h : Bk w g t #[u]) : Src w (some ⟨g, 0, none⟩) 1 [u] :=
  ⟨rfl, fun _ => ⟨_, rfl, fun j v hv => by
    rw [add_lit, h.cell]
    simpa using hv⟩⟩
theorem Src.keep {w w' : World} {A : Option Addr} {m : Nat} {news : List Value} (h : Src w A m news) (hk : ∀ p v, w.cell? p = some v → w'.cell? p = some v) : Src w' A m news :=
  ⟨h.1, fun hm => by
    obtain ⟨ad, hA, hc⟩ := h.2 hm
    exact ⟨ad, hA, fun j u hu => hk _ _ (hc j u hu)⟩⟩
theorem lt_of_cell {w : World} {p : Addr} {v : Value} (h : w.cell? p = some v) : p.block < w.heap.size := World.block_lt_of_cell? w p h
theorem Src.below {w w' : World} {A : Option Addr} {m : Nat} {news : List Value} (h : Src w A m news) (hb : Below w.heap.size w w') : Src w' A m news :=
  h.keep fun _ _ hc => (hb.cell (lt_of_cell hc)).trans hc
theorem Src.alloc {w : World} {A : Option Addr} {m : Nat} {news : List Value} (h : Src w A m news) (o : Obj) : Src (w.alloc o) A m news := h.below ((Below.refl _ _).alloc (Nat.le_refl _) o)
theorem Src.drewN {w : World} {A : Option Addr} {m : Nat} {news : List Value} (h : Src w A m news) (n : Nat) : Src (w.drewN n) A m news := h

section
variable {P : Program} (w : World)

/-- append onto a row of the call's own that is not nil, from whatever source. -/
theorem run_app (t ty e : TypeId) (ht : P.underlying t = some (.slice e)) (z : Value) (bytes : Nat) (hinf : (P.info? e).map (fun i => (i.zero, i.size, i.bytes)) = some (some z, 1, bytes)) (hzs : z.cells.size = 1)
    (B g cap : Nat) (xs : List Value) (hown : Own w B e g cap xs) (A : Option Addr) (m c : Nat) (news : List Value) (hs : Src w A m news) (h1 : ∀ u ∈ news, u.oneCell' = true)
    (hbytes : (xs.length + m) * bytes ≤ 140737488355328) (hlen : xs.length + m ≤ 140737488355328) (hB : B ≤ w.heap.size) :
    ∃ g' cap' w', (Builtin.append_ #[t, t] ty #[.slice (some ⟨g, 0, none⟩) xs.length cap, .slice A m c]).run P w = .ok (.slice (some ⟨g', 0, none⟩) (xs.length + m) cap') w' ∧
      Own w' B e g' cap' (xs ++ news) ∧ w.grownBy w' (some g) ∧ (g' = g ∨ g' = w.heap.size) := by
  obtain ⟨i, hi, hz, hsize, hby⟩ := info_parts hinf
  have h63 : xs.length + m ≤ maxLen := by unfold maxLen; omega
  rcases A with _ | ad
  · have hm : m = 0 := by
      rcases Nat.eq_zero_or_pos m with h0 | h0
      · exact h0
      · obtain ⟨ad, h, _⟩ := hs.2 h0
        cases h
    subst hm
    have hn : news = [] := List.eq_nil_of_length_eq_zero hs.1
    subst hn
    refine ⟨g, cap, w, ?_, by simpa using hown, World.grownBy.refl w _, .inl rfl⟩
    have hle := hown.le
    simp [Builtin.append_, run_underlying ht, sizeOf, typeInfo, hi, Builtin.lenOf, Builtin.firstCells, hle, storeCells]
  · have hcells : ∀ j u, news[j]? = some u → w.cell? (ad.add j) = some u := by
      intro j u hu
      rcases Nat.eq_zero_or_pos m with h0 | h0
      · subst h0
        have hn : news = [] := List.eq_nil_of_length_eq_zero hs.1
        subst hn
        simp at hu
      · obtain ⟨ad', h, hc⟩ := hs.2 h0
        injection h with h
        subst h
        exact hc j u hu
    obtain ⟨v', w', hrun, h2, h3, h4, h5⟩ := run_append_own_at (P := P) w B t ty e i z 1 bytes ht hi hz hsize hby hzs (by omega) _ xs.length xs hown ad m c news (by simpa using hs.1) hcells h1 h63 hbytes hB
    have hne : v' ≠ .slice none 0 0 := fun hv => by have := (h4.1 hv).1; simp at this
    rcases h2.2 with ⟨hv, _⟩ | ⟨g', cap', cur, hv, _⟩
    · exact absurd hv hne
    · subst hv
      refine ⟨g', cap', w', hrun, ?_, h3, ?_⟩
      · have hl : (xs ++ news).length = xs.length + m := by rw [List.length_append, hs.1]
        unfold Own
        rw [hl]
        exact h2
      · simpa [Value.ownBlock] using h5

theorem wpl_app {ops : Array Oper} {rest : List Oper} {o : Oper} {a : Act} {Q : Exit → Act → World → Prop} (hgd : o.guard = none) (s x : Operand) (t : TypeId)
    (ho : o.op = .call { callee := .builtin .append, args := #[s, x], argTypes := #[t, t] })
    (e : TypeId) (ht : P.underlying t = some (.slice e)) (z : Value) (bytes : Nat) (hinf : (P.info? e).map (fun i => (i.zero, i.size, i.bytes)) = some (some z, 1, bytes)) (hzs : z.cells.size = 1)
    (B g n cap : Nat) (xs : List Value) (hv : a.eval s = .slice (some ⟨g, 0, none⟩) n cap) (hn : xs.length = n) (hown : Own w B e g cap xs)
    (A : Option Addr) (m c : Nat) (news : List Value) (hx : a.eval x = .slice A m c) (hs : Src w A m news) (h1 : ∀ u ∈ news, u.oneCell' = true)
    (hbytes : (n + m) * bytes ≤ 140737488355328) (hlen : n + m ≤ 140737488355328) (hB : B ≤ w.heap.size)
    (h : ∀ g' cap' w', Own w' B e g' cap' (xs ++ news) → w.grownBy w' (some g) → (g' = g ∨ g' = w.heap.size) → wpList P ops Q rest (a.put o.dst (.slice (some ⟨g', 0, none⟩) (n + m) cap')) w') : wpList P ops Q (o :: rest) a w := by
  subst hn
  obtain ⟨g', cap', w', hr, h2, h3, h4⟩ := run_app (P := P) w t o.type e ht z bytes hinf hzs B g cap xs hown A m c news hs h1 hbytes hlen hB
  refine wpList_plain hgd fun K hK => ?_
  unfold Oper.wp execOp
  simp only [ho, resolve, invoke, builtin, Sem.run_bind, Sem.run_pure, Result.andThen_ok, List.map_toArray, List.map_cons, List.map_nil, hv, hx, hr]
  exact hK _ _ (h g' cap' w' h2 h3 h4)

/-- make of a slice: l elements of c, each the zero value. -/
theorem wpl_make {ops : Array Oper} {rest : List Oper} {o : Oper} {a : Act} {Q : Exit → Act → World → Prop} (hgd : o.guard = none) (sl sc : Operand) (t : TypeId) (hop : o.op = Op.makeSlice t sl sc)
    (e : TypeId) (ht : P.underlying t = some (.slice e)) (z : Value) (bytes : Nat) (hinf : (P.info? e).map (fun i => (i.zero, i.size, i.bytes)) = some (some z, 1, bytes)) (hzs : z.cells = #[z])
    (kl kc : IntKind) (L C : Int) (l c : Nat) (hl : a.eval sl = .int kl L) (hc : a.eval sc = .int kc C) (hL : L = (l : Int)) (hC : C = (c : Int)) (hlc : l ≤ c) (hb : bytes * c ≤ 281474976710656) (hm : c ≤ 140737488355328)
    (h : ∀ w', Own w' w.heap.size e w.heap.size c (List.replicate l z) → Below w.heap.size w w' → wpList P ops Q rest (a.put o.dst (.slice (some ⟨w.heap.size, 0, none⟩) l c)) w') : wpList P ops Q (o :: rest) a w := by
  obtain ⟨i, hi, hz, hsize, hby⟩ := info_parts hinf
  subst hL
  subst hC
  subst hby
  have hr := run_make (P := P) w t e i z ht hi hz kl kc l c (by omega) (by omega) (by omega) (by omega)
  rw [Int.toNat_natCast, Int.toNat_natCast, hsize, Nat.mul_one, hzs] at hr
  refine wpList_plain hgd fun K hK => ?_
  unfold Oper.wp
  simp [execOp, hop, hl, hc, hr, Result.andThen]
  refine hK _ _ (h _ ?_ ((Below.refl _ _).alloc (Nat.le_refl _) _))
  refine .mk _ (Bk.new w e _) (Nat.le_refl _) (by simpa using hlc) (by unfold maxLen; omega) (size_madeCells _ _) ?_
  rw [toList_madeCells_one, List.length_replicate, List.take_replicate, Nat.min_eq_left hlc]
end

/-- Bytes as values. -/
def u8s (l : List Int) : List Value := l.map (Value.int .u8)
theorem u8s_length (l : List Int) : (u8s l).length = l.length := by simp [u8s]
theorem u8s_append (l m : List Int) : u8s l ++ u8s m = u8s (l ++ m) := by simp [u8s]
theorem u8s_one (l : List Int) : ∀ u ∈ u8s l, u.oneCell' = true := by
  intro u hu
  simp only [u8s, List.mem_map] at hu
  obtain ⟨x, _, rfl⟩ := hu
  rfl
theorem u8s_get (l : List Int) (j : Nat) : (u8s l)[j]? = (l[j]?).map (Value.int .u8) := by simp [u8s]

end Go.Proofs.YtfpepghmbeoanaaDoor

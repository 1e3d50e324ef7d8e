/-
  Words for the walks, more: a world that keeps all old blocks but those of a set.
-/
import Derived.Test.YtfpepghmbeoanaaDoorWords
namespace Go.Proofs.YtfpepghmbeoanaaDoor
open Go.RowKit

/-- w' is w with new blocks, and with whatever in the blocks of S. -/
def Kp (w w' : World) (S : Nat → Prop) : Prop :=
  w'.os = w.os ∧ w'.tape = w.tape ∧ w'.output = w.output ∧ w.heap.size ≤ w'.heap.size ∧ ∀ k, k < w.heap.size → ¬ S k → w'.heap[k]? = w.heap[k]?
section
variable {a w w' : World} {S : Nat → Prop}
theorem Kp.os (h : Kp w w' S) : w'.os = w.os := h.1
theorem Kp.tape (h : Kp w w' S) : w'.tape = w.tape := h.2.1
theorem Kp.output (h : Kp w w' S) : w'.output = w.output := h.2.2.1
theorem Kp.size (h : Kp w w' S) : w.heap.size ≤ w'.heap.size := h.2.2.2.1
theorem Kp.block (h : Kp w w' S) : ∀ k, k < w.heap.size → ¬ S k → w'.heap[k]? = w.heap[k]? := h.2.2.2.2
theorem Kp.refl (w : World) (S : Nat → Prop) : Kp w w S := ⟨rfl, rfl, rfl, Nat.le_refl _, fun _ _ _ => rfl⟩
theorem Kp.trans (h : Kp a w S) (k : Kp w w' S) : Kp a w' S :=
  ⟨k.os.trans h.os, k.tape.trans h.tape, k.output.trans h.output, Nat.le_trans h.size k.size, fun i hi hn => (k.block i (Nat.lt_of_lt_of_le hi h.size) hn).trans (h.block i hi hn)⟩
theorem Kp.trans2 {T : Nat → Prop} (h : Kp a w S) (k : Kp w w' T) (hT : ∀ i, i < a.heap.size → T i → S i) : Kp a w' S :=
  ⟨k.os.trans h.os, k.tape.trans h.tape, k.output.trans h.output, Nat.le_trans h.size k.size, fun i hi hn => (k.block i (Nat.lt_of_lt_of_le hi h.size) fun e => hn (hT i hi e)).trans (h.block i hi hn)⟩
theorem Kp.mono {T : Nat → Prop} (h : Kp a w S) (hs : ∀ k, k < a.heap.size → S k → T k) : Kp a w T := ⟨h.os, h.tape, h.output, h.size, fun k hk hn => h.block k hk fun e => hn (hs k hk e)⟩
theorem Kp.drewN (h : Kp a w S) (n : Nat) : Kp a (w.drewN n) S := ⟨h.os, h.tape, h.output, h.size, h.block⟩
theorem Kp.drew (h : Kp a w S) : Kp a w.drew S := ⟨h.os, h.tape, h.output, h.size, h.block⟩
theorem Kp.alloc (h : Kp a w S) (o : Obj) : Kp a (w.alloc o) S :=
  ⟨h.os, h.tape, h.output, Nat.le_trans h.size (by simp), fun k hk hn => (Below.heap_alloc w o k (Nat.lt_of_lt_of_le hk h.size)).trans (h.block k hk hn)⟩
theorem Kp.set (h : Kp a w S) {p : Addr} (hp : p.block < a.heap.size → S p.block) (u : Value) : Kp a (w.setCell p u) S :=
  ⟨h.os, h.tape, h.output, by simpa [World.setCell] using h.size, fun k hk hn => (Below.heap_setCell w p u k (fun e => hn (by rw [e]; exact hp (by rw [← e]; exact hk)))).trans (h.block k hk hn)⟩
theorem Kp.grown {row : Option Nat} (h : Kp a w S) (hg : w.grownBy w' row) (hr : ∀ k, row = some k → k < a.heap.size → S k) : Kp a w' S :=
  ⟨hg.os.trans h.os, hg.tape.trans h.tape, hg.output.trans h.output, Nat.le_trans h.size hg.size,
    fun k hk hn => (hg.block k (Nat.lt_of_lt_of_le hk h.size) (fun e => hn (hr k e.symm hk))).trans (h.block k hk hn)⟩
theorem Kp.below (h : Kp a w S) (hb : Below w.heap.size w w') : Kp a w' S :=
  ⟨hb.os.trans h.os, hb.tape.trans h.tape, hb.output.trans h.output, Nat.le_trans h.size hb.size, fun k hk hn => (hb.block k (Nat.lt_of_lt_of_le hk h.size)).trans (h.block k hk hn)⟩
theorem Kp.toBelow {B : Nat} (h : Kp a w S) (hB : B ≤ a.heap.size) (hs : ∀ k, k < B → ¬ S k) : Below B a w := ⟨h.os, h.tape, h.output, h.size, fun k hk => h.block k (Nat.lt_of_lt_of_le hk hB) (hs k hk)⟩
theorem Kp.toGrown {g : Nat} (h : Kp a w (fun k => k = g)) : a.grownBy w (some g) := ⟨h.os, h.tape, h.output, h.size, fun k hk hn => h.block k hk fun e => hn (by rw [e])⟩
theorem Bk.kp {g : Nat} {t : TypeId} {cs : Array Value} (h : Bk w g t cs) (hk : Kp w w' S) (hg : ¬ S g) : Bk w' g t cs := (hk.block g h.lt hg).trans h
theorem Own.kp {B : Nat} {e : TypeId} {g cap : Nat} {xs : List Value} (h : Own w B e g cap xs) (hk : Kp w w' S) (hg : ¬ S g) : Own w' B e g cap xs := by
  obtain ⟨cur, h1, h2, h3, h4, h5, h6⟩ := h.blk
  exact .mk cur (h1.kp hk hg) h2 h3 h4 h5 h6
theorem ownsRow_kp {B : Nat} {e : TypeId} {size n : Nat} {v : Value} {xs : List Value} (h : w.ownsRow B e size v n xs) (hk : Kp w w' S) (hg : ∀ g, v.ownBlock = some g → ¬ S g) : w'.ownsRow B e size v n xs := by
  refine ⟨h.1, ?_⟩
  rcases h.2 with hn | ⟨g, cap, cur, rfl, hb, hgg, rest⟩
  · exact .inl hn
  · exact .inr ⟨g, cap, cur, rfl, hb, (hk.block g (Array.getElem?_eq_some_iff.1 hgg).1 (hg g rfl)).trans hgg, rest⟩
theorem cell_kp (hk : Kp w w' S) {p : Addr} {v : Value} (h : w.cell? p = some v) (hp : ¬ S p.block) : w'.cell? p = some v :=
  (World.cell?_of_block (hk.block p.block (lt_of_cell h) hp)).trans h
theorem own_ne {B B' : Nat} {e e' : TypeId} {g g' c c' : Nat} {xs xs' : List Value} (h : Own w B e g c xs) (h' : Own w B' e' g' c' xs') (hne : e ≠ e') : g ≠ g' := by
  obtain ⟨cur, hb, _⟩ := h'.blk
  exact h.ne hb hne
theorem ownsRow_ne {B B' : Nat} {e e' : TypeId} {g c n : Nat} {v : Value} {xs xs' : List Value} (h : w.ownsRow B e 1 v n xs) (h' : Own w B' e' g c xs') (hne : e ≠ e') : some g ≠ v.ownBlock := by
  intro hv
  obtain ⟨cur, hb, _⟩ := h'.blk
  rcases h.2 with ⟨rfl, _⟩ | ⟨g2, cap, cur2, rfl, _, hg, _⟩
  · simp [Value.ownBlock] at hv
  · simp [Value.ownBlock] at hv
    subst hv
    exact (Bk.ne (hb : Bk w g e' cur) (hg : Bk w g e cur2) (fun e => hne e.symm)) rfl
end

end Go.Proofs.YtfpepghmbeoanaaDoor

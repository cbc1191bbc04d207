/- Words and small lemmas for the walks of the signatures' reader and writer: where a cut slice begins, a slice that reads as bytes, a variable in a block of its own, what a call may have changed. -/
import Derived.Test.YtlmidbmmnjnagaaProg
import Derived.WalkKit
import Derived.Deep.Draws
namespace Go.Proofs.Ytlmidbmmnjnagaa
open Go.RowKit

/-- where a slice begins behind a cut at n -/
def tl (A : Option Addr) (n c s : Nat) : Option Addr := if c = n then A else A.map (·.add (n * s))
theorem tl_zero (A : Option Addr) (c s : Nat) : tl A 0 c s = A := by
  unfold tl; cases A <;> simp [Addr.add]
theorem sliced_tl (A : Option Addr) (l h m s : Nat) : sliced A l h m s = .slice (tl A l m s) (h - l) (m - l) := by
  simp [sliced, tl]
theorem tl_some (a : Addr) (n c s : Nat) : ∃ a', tl (some a) n c s = some a' := by
  unfold tl; split <;> simp
theorem tl_isNone (A : Option Addr) (n c s : Nat) : (tl A n c s).isNone = A.isNone := by
  unfold tl; split <;> simp

/-- A reads as the bytes xs, below block B -/
def Rd (w : World) (B : Nat) (A : Option Addr) (xs : List Int) : Prop :=
  (∀ x ∈ xs, 0 ≤ x ∧ x ≤ 255) ∧
  (xs ≠ [] → ∃ b off, A = some ⟨b, off, none⟩ ∧ b < B ∧ ∀ i x, xs[i]? = some x → w.cell? ⟨b, off + i, none⟩ = some (.int .u8 x))

section
variable {w w' : World} {B B' : Nat} {A : Option Addr} {xs : List Int}
theorem Rd.nil (w : World) (B : Nat) (A : Option Addr) : Rd w B A [] := ⟨by simp, fun h => absurd rfl h⟩
theorem Rd.byte (h : Rd w B A xs) {i : Nat} {x : Int} (hx : xs[i]? = some x) : 0 ≤ x ∧ x ≤ 255 := h.1 x (List.mem_of_getElem? hx)
theorem Rd.keep (h : Rd w B A xs) (hk : ∀ p : Addr, p.block < B → w'.cell? p = w.cell? p) : Rd w' B A xs :=
  ⟨h.1, fun hn => by
    obtain ⟨b, off, e, hb, hc⟩ := h.2 hn
    exact ⟨b, off, e, hb, fun i x hx => (hk _ hb).trans (hc i x hx)⟩⟩
theorem Rd.more (h : Rd w B A xs) (hB : B ≤ B') : Rd w B' A xs :=
  ⟨h.1, fun hn => by
    obtain ⟨b, off, e, hb, hc⟩ := h.2 hn
    exact ⟨b, off, e, by omega, hc⟩⟩
theorem Rd.below (h : Rd w B A xs) (hb : Below B w w') : Rd w' B A xs := h.keep fun _ hp => hb.cell hp
theorem Rd.take (h : Rd w B A xs) (k : Nat) : Rd w B A (xs.take k) :=
  ⟨fun x hx => h.1 x (List.mem_of_mem_take hx), fun hn => by
    obtain ⟨b, off, e, hb, hc⟩ := h.2 (by rintro rfl; simp at hn)
    refine ⟨b, off, e, hb, fun i x hx => hc i x ?_⟩
    rw [List.getElem?_take] at hx
    split at hx
    · exact hx
    · cases hx⟩
theorem Rd.cut (h : Rd w B A xs) {k c : Nat} (hc : xs.length ≤ c) : Rd w B (tl A k c 1) (xs.drop k) :=
  ⟨fun x hx => h.1 x (List.mem_of_mem_drop hx), fun hn => by
    have hl : k < xs.length := by
      rcases Nat.lt_or_ge k xs.length with h' | h'
      · exact h'
      · exact absurd (List.drop_eq_nil_of_le h') hn
    obtain ⟨b, off, e, hb, hcell⟩ := h.2 (by rintro rfl; simp at hl)
    subst e
    refine ⟨b, off + k, ?_, hb, fun i x hx => ?_⟩
    · unfold tl
      rw [if_neg (by omega)]
      by_cases hk : k = 0 <;> simp [Addr.add, hk]
    · rw [Nat.add_assoc]
      exact hcell (k + i) x (by rw [← hx, List.getElem?_drop])⟩
theorem Rd.at_ (h : Rd w B A xs) (hl : 0 < xs.length) : ∃ b off, A = some ⟨b, off, none⟩ ∧ b < B ∧ ∀ i x, xs[i]? = some x → w.cell? ⟨b, off + i, none⟩ = some (.int .u8 x) :=
  h.2 (by rintro rfl; simp at hl)
end

/-- block P is a variable of type t that holds v -/
def Box (w : World) (P : Nat) (t : TypeId) (v : Value) : Prop := w.heap[P]? = some (.cells #[v] t (0, 0))
section
variable {w w' : World} {P : Nat} {t : TypeId} {v u : Value}
theorem Box.cell (h : Box w P t v) : w.cell? ⟨P, 0, none⟩ = some v := cell_of_one h
theorem Box.free (h : Box w P t v) : w.frozen? ⟨P, 0, none⟩ = false := free_of_one h
theorem Box.lt (h : Box w P t v) : P < w.heap.size := lt_of_block h
theorem Box.new (w : World) (t : TypeId) (v : Value) : Box (w.alloc (.cells #[v] t)) w.heap.size t v := heap_alloc_new w _
theorem Box.new' {g : Nat} (hg : w.heap.size = g) (t : TypeId) (v : Value) : Box (w.alloc (.cells #[v] t)) g t v := by subst hg; exact Box.new w t v
theorem Box.alloc (h : Box w P t v) (o : Obj) : Box (w.alloc o) P t v := (Below.heap_alloc w o P h.lt).trans h
theorem Box.drew (h : Box w P t v) : Box w.drew P t v := h
theorem Box.drewN (h : Box w P t v) (n : Nat) : Box (w.drewN n) P t v := h
theorem Box.set_ (h : Box w P t v) (u : Value) : Box (w.setCell ⟨P, 0, none⟩ u) P t u := one_setCell h
theorem Box.far (h : Box w P t v) {p : Addr} (hp : P ≠ p.block) (u : Value) : Box (w.setCell p u) P t v := (Below.heap_setCell w p u P hp).trans h
theorem Box.far2 (h : Box w P t v) {g o : Nat} (hp : P ≠ g) (u : Value) : Box (w.setCell ⟨g, o, none⟩ u) P t v := h.far (p := ⟨g, o, none⟩) hp u
theorem Box.below {B : Nat} (h : Box w P t v) (hb : Below B w w') (hP : P < B) : Box w' P t v := (hb.block P hP).trans h
end

/-- of what was there only the blocks of S may have changed -/
structure Keeps (S : List Nat) (w w' : World) : Prop where
  os : w'.os = w.os
  tape : w'.tape = w.tape
  output : w'.output = w.output
  size : w.heap.size ≤ w'.heap.size
  block : ∀ k, k < w.heap.size → k ∉ S → w'.heap[k]? = w.heap[k]?

section
variable {S S' : List Nat} {a w w' : World}
theorem Keeps.refl (S : List Nat) (w : World) : Keeps S w w := ⟨rfl, rfl, rfl, Nat.le_refl _, fun _ _ _ => rfl⟩
theorem Keeps.trans (h : Keeps S a w) (k : Keeps S' w w') (hS : ∀ i, i < a.heap.size → i ∈ S' → i ∈ S) : Keeps S a w' :=
  ⟨k.os.trans h.os, k.tape.trans h.tape, k.output.trans h.output, Nat.le_trans h.size k.size,
    fun i hi hn => (k.block i (Nat.lt_of_lt_of_le hi h.size) (fun hm => hn (hS i hi hm))).trans (h.block i hi hn)⟩
theorem Keeps.drew (h : Keeps S a w) : Keeps S a w.drew := ⟨h.os, h.tape, h.output, h.size, h.block⟩
theorem Keeps.drewN (h : Keeps S a w) (n : Nat) : Keeps S a (w.drewN n) := ⟨h.os, h.tape, h.output, h.size, h.block⟩
theorem Keeps.alloc (h : Keeps S a w) (o : Obj) : Keeps S a (w.alloc o) :=
  ⟨h.os, h.tape, h.output, Nat.le_trans h.size (by simp), fun i hi hn => (Below.heap_alloc w o i (Nat.lt_of_lt_of_le hi h.size)).trans (h.block i hi hn)⟩
theorem Keeps.setCell (h : Keeps S a w) {p : Addr} (hp : p.block ∈ S ∨ a.heap.size ≤ p.block) (u : Value) : Keeps S a (w.setCell p u) :=
  ⟨h.os, h.tape, h.output, by simpa [World.setCell] using h.size, fun i hi hn => (Below.heap_setCell w p u i (by
    rintro rfl
    rcases hp with hp | hp
    · exact hn hp
    · omega)).trans (h.block i hi hn)⟩
theorem Keeps.grown {row : Option Nat} (h : Keeps S a w) (hg : w.grownBy w' row) (hr : ∀ g, row = some g → g ∈ S ∨ a.heap.size ≤ g) : Keeps S a w' :=
  ⟨hg.os.trans h.os, hg.tape.trans h.tape, hg.output.trans h.output, Nat.le_trans h.size hg.size,
    fun i hi hn => (hg.block i (Nat.lt_of_lt_of_le hi h.size) (fun e => by
      rcases hr i e.symm with h' | h'
      · exact hn h'
      · omega)).trans (h.block i hi hn)⟩
theorem Keeps.below {B : Nat} (h : Keeps S w w') (hB : B ≤ w.heap.size) (hS : ∀ i ∈ S, B ≤ i) : Below B w w' :=
  ⟨h.os, h.tape, h.output, h.size, fun k hk => h.block k (Nat.lt_of_lt_of_le hk hB) (fun hm => by have := hS k hm; omega)⟩
theorem Keeps.of_below (h : Below w.heap.size w w') (S : List Nat) : Keeps S w w' := ⟨h.os, h.tape, h.output, h.size, fun k hk _ => h.block k hk⟩
theorem Keeps.mono (h : Keeps S w w') (hS : ∀ i ∈ S, i < w.heap.size → i ∈ S') : Keeps S' w w' :=
  ⟨h.os, h.tape, h.output, h.size, fun k hk hn => h.block k hk (fun hm => hn (hS k hm hk))⟩
theorem Keeps.box {P : Nat} {t : TypeId} {v : Value} (h : Keeps S w w') (hb : Box w P t v) (hP : P ∉ S) : Box w' P t v := (h.block P hb.lt hP).trans hb
theorem below_drewN {B : Nat} (h : Below B a w) (n : Nat) : Below B a (w.drewN n) := ⟨h.os, h.tape, h.output, h.size, h.block⟩
end

theorem hide {p : Prop} (h : p) : Hid p := h

end Go.Proofs.Ytlmidbmmnjnagaa

/- A Builder in memory, what a call on it may change, and the walks of add, AddUint8, AddBytes, SetError. -/
import Derived.Test.YtlmidbmmnjnagaaSpec
import Derived.Test.YtlmidbmmnjnagaaParse
namespace Go.Proofs.Ytlmidbmmnjnagaa
open Go.RowKit

attribute [local go_sem ↓] sliced_tl
attribute [local go_sem] tl_zero

/-- block P is a Builder that is not of a fixed size -/
def Bl (w : World) (P : Nat) (err res child : Value) (off pend : Int) (asn : Bool) (ic : Value) : Prop :=
  w.heap[P]? = some (.cells #[err, res, .bool false, child, .int .i64 off, .int .i64 pend, .bool asn, ic] 51 (0, 0))

section
variable {w w' : World} {P base B : Nat} {err res child ic u : Value} {off pend : Int} {asn : Bool}
theorem Bl.lt (h : Bl w P err res child off pend asn ic) : P < w.heap.size := lt_of_block h
theorem Bl.c0 (h : Bl w P err res child off pend asn ic) : w.cell? ⟨P, 0, none⟩ = some err := (cell_of_row w P 0 _ 51 (0, 0) h).trans rfl
theorem Bl.c1 (h : Bl w P err res child off pend asn ic) : w.cell? ⟨P, 1, none⟩ = some res := (cell_of_row w P 1 _ 51 (0, 0) h).trans rfl
theorem Bl.c2 (h : Bl w P err res child off pend asn ic) : w.cell? ⟨P, 2, none⟩ = some (.bool false) := (cell_of_row w P 2 _ 51 (0, 0) h).trans rfl
theorem Bl.c3 (h : Bl w P err res child off pend asn ic) : w.cell? ⟨P, 3, none⟩ = some child := (cell_of_row w P 3 _ 51 (0, 0) h).trans rfl
theorem Bl.c4 (h : Bl w P err res child off pend asn ic) : w.cell? ⟨P, 4, none⟩ = some (.int .i64 off) := (cell_of_row w P 4 _ 51 (0, 0) h).trans rfl
theorem Bl.c5 (h : Bl w P err res child off pend asn ic) : w.cell? ⟨P, 5, none⟩ = some (.int .i64 pend) := (cell_of_row w P 5 _ 51 (0, 0) h).trans rfl
theorem Bl.c6 (h : Bl w P err res child off pend asn ic) : w.cell? ⟨P, 6, none⟩ = some (.bool asn) := (cell_of_row w P 6 _ 51 (0, 0) h).trans rfl
theorem Bl.c7 (h : Bl w P err res child off pend asn ic) : w.cell? ⟨P, 7, none⟩ = some ic := (cell_of_row w P 7 _ 51 (0, 0) h).trans rfl
theorem Bl.fr (h : Bl w P err res child off pend asn ic) (i : Nat) : w.frozen? ⟨P, i, none⟩ = false := frozen_of_row w P i _ 51 h
theorem Bl.drewN (h : Bl w P err res child off pend asn ic) (n : Nat) : Bl (w.drewN n) P err res child off pend asn ic := h
theorem Bl.alloc (h : Bl w P err res child off pend asn ic) (o : Obj) : Bl (w.alloc o) P err res child off pend asn ic := (Below.heap_alloc w o P h.lt).trans h
theorem Bl.far2 (h : Bl w P err res child off pend asn ic) {g o : Nat} (hg : P ≠ g) (u : Value) : Bl (w.setCell ⟨g, o, none⟩ u) P err res child off pend asn ic := (Below.heap_setCell w ⟨g, o, none⟩ u P hg).trans h
theorem Bl.set0 (h : Bl w P err res child off pend asn ic) (u : Value) : Bl (w.setCell ⟨P, 0, none⟩ u) P u res child off pend asn ic := heap_setCell_same w P 0 _ 51 u h
theorem Bl.set1 (h : Bl w P err res child off pend asn ic) (u : Value) : Bl (w.setCell ⟨P, 1, none⟩ u) P err u child off pend asn ic := heap_setCell_same w P 1 _ 51 u h
theorem Bl.set3 (h : Bl w P err res child off pend asn ic) (u : Value) : Bl (w.setCell ⟨P, 3, none⟩ u) P err res u off pend asn ic := heap_setCell_same w P 3 _ 51 u h
theorem Bl.set4 (h : Bl w P err res child off pend asn ic) (u : Int) : Bl (w.setCell ⟨P, 4, none⟩ (.int .i64 u)) P err res child u pend asn ic := heap_setCell_same w P 4 _ 51 _ h
theorem Bl.set5 (h : Bl w P err res child off pend asn ic) (u : Int) : Bl (w.setCell ⟨P, 5, none⟩ (.int .i64 u)) P err res child off u asn ic := heap_setCell_same w P 5 _ 51 _ h
theorem Bl.set7 (h : Bl w P err res child off pend asn ic) (u : Value) : Bl (w.setCell ⟨P, 7, none⟩ u) P err res child off pend asn u := heap_setCell_same w P 7 _ 51 u h
theorem Bl.ne_own {v : Value} {xs : List Int} (h : Bl w P err res child off pend asn ic) (ho : Own w base v xs) : v.ownBlock ≠ some P := by
  rcases ho.1.2 with ⟨rfl, _⟩ | ⟨g, cap, cur, rfl, _, hg, _⟩
  · simp [Value.ownBlock]
  · intro e
    have e' : g = P := by simpa [Value.ownBlock] using e
    subst e'
    unfold Bl at h
    rw [h] at hg
    cases hg
theorem Bl.grown {row : Option Nat} (h : Bl w P err res child off pend asn ic) (hg : w.grownBy w' row) (hne : some P ≠ row) : Bl w' P err res child off pend asn ic := (hg.block P h.lt hne).trans h
end

theorem Own.form {w : World} {base : Nat} {v : Value} {xs : List Int} (h : Own w base v xs) : ∃ A n c, v = .slice A n c := by
  obtain ⟨A, c, e, _⟩ := h.rd
  exact ⟨A, _, c, e⟩

/-- what a call on a Builder may have changed: nothing below block base; of the rest only blocks of S and rows of bytes -/
structure Fr (base : Nat) (S : List Nat) (w w' : World) : Prop where
  os : w'.os = w.os
  tape : w'.tape = w.tape
  output : w'.output = w.output
  size : w.heap.size ≤ w'.heap.size
  low : ∀ k, k < base → w'.heap[k]? = w.heap[k]?
  box : ∀ k t cs fz, w.heap[k]? = some (.cells cs t fz) → t ≠ 5 → k ∉ S → w'.heap[k]? = some (.cells cs t fz)

section
variable {base : Nat} {S S' : List Nat} {a w w' : World}
theorem Fr.refl (base : Nat) (S : List Nat) (w : World) : Fr base S w w := ⟨rfl, rfl, rfl, Nat.le_refl _, fun _ _ => rfl, fun _ _ _ _ h _ _ => h⟩
theorem Fr.trans (h : Fr base S a w) (k : Fr base S' w w') (hS : ∀ i, i ∈ S' → i ∈ S ∨ a.heap.size ≤ i) : Fr base S a w' :=
  ⟨k.os.trans h.os, k.tape.trans h.tape, k.output.trans h.output, Nat.le_trans h.size k.size, fun i hi => (k.low i hi).trans (h.low i hi),
    fun i t cs fz hc ht hn => k.box i t cs fz (h.box i t cs fz hc ht hn) ht (fun hm => by
      rcases hS i hm with h' | h'
      · exact hn h'
      · have := lt_of_block hc
        omega)⟩
theorem Fr.drewN (h : Fr base S a w) (n : Nat) : Fr base S a (w.drewN n) := ⟨h.os, h.tape, h.output, h.size, h.low, h.box⟩
theorem Fr.alloc (h : Fr base S a w) (hB : base ≤ w.heap.size) (o : Obj) : Fr base S a (w.alloc o) :=
  ⟨h.os, h.tape, h.output, Nat.le_trans h.size (by simp), fun k hk => (Below.heap_alloc w o k (by omega)).trans (h.low k hk),
    fun k t cs fz hc ht hn => by
      have h1 := h.box k t cs fz hc ht hn
      exact (Below.heap_alloc w o k (lt_of_block h1)).trans h1⟩
theorem Fr.setCell (h : Fr base S a w) {g o : Nat} (hg : g ∈ S ∨ a.heap.size ≤ g) (hB : base ≤ g) (u : Value) : Fr base S a (w.setCell ⟨g, o, none⟩ u) :=
  ⟨h.os, h.tape, h.output, by simpa [World.setCell] using h.size, fun k hk => (Below.heap_setCell w ⟨g, o, none⟩ u k (by show k ≠ g; omega)).trans (h.low k hk),
    fun k t cs fz hc ht hn => by
      have h1 := h.box k t cs fz hc ht hn
      refine (Below.heap_setCell w ⟨g, o, none⟩ u k ?_).trans h1
      rintro rfl
      rcases hg with h' | h'
      · exact hn h'
      · have h2 := lt_of_block hc
        have h3 : a.heap.size ≤ k := h'
        omega⟩
theorem Fr.row {v : Value} {xs : List Int} (h : Fr base S a w) (ho : Own w base v xs) (hg : w.grownBy w' v.ownBlock) (hB : base ≤ w.heap.size) : Fr base S a w' :=
  ⟨hg.os.trans h.os, hg.tape.trans h.tape, hg.output.trans h.output, Nat.le_trans h.size hg.size,
    fun k hk => (hg.block k (by omega) (fun e => by have := (ho.1.lt k e.symm).1; omega)).trans (h.low k hk),
    fun k t cs fz hc ht hn => by
      have h1 := h.box k t cs fz hc ht hn
      refine (hg.block k (lt_of_block h1) (fun e => ?_)).trans h1
      rcases ho.1.2 with ⟨rfl, _⟩ | ⟨g, cap, cur, rfl, _, hg', _⟩
      · simp [Value.ownBlock] at e
      · have e' : k = g := by simpa [Value.ownBlock] using e
        subst e'
        rw [h1] at hg'
        cases hg'
        exact ht rfl⟩
theorem Fr.below (h : Fr base S w w') {B : Nat} (hB : B ≤ base) : Below B w w' := ⟨h.os, h.tape, h.output, h.size, fun k hk => h.low k (by omega)⟩
theorem Fr.mono (h : Fr base S w w') (hS : ∀ i, i ∈ S → i ∈ S' ∨ w.heap.size ≤ i) : Fr base S' w w' :=
  ⟨h.os, h.tape, h.output, h.size, h.low, fun k t cs fz hc ht hn => h.box k t cs fz hc ht (fun hm => by
    rcases hS k hm with h' | h'
    · exact hn h'
    · have := lt_of_block hc
      omega)⟩
theorem Fr.bl {P : Nat} {err res child ic : Value} {off pend : Int} {asn : Bool} (h : Fr base S w w') (hb : Bl w P err res child off pend asn ic) (hP : P ∉ S) : Bl w' P err res child off pend asn ic :=
  h.box P 51 _ (0, 0) hb (by decide) hP
theorem Fr.bx {P : Nat} {t : TypeId} {v : Value} (h : Fr base S w w') (hb : Box w P t v) (ht : t ≠ 5) (hP : P ∉ S) : Box w' P t v := h.box P t _ (0, 0) hb ht hP
end

section
variable {w : World} {P base B m c : Nat} {A : Option Addr} {err res ic : Value} {off pend : Int} {asn : Bool} {xs ys : List Int}

/-- what add leaves -/
def AddPost (P base : Nat) (off pend : Int) (asn : Bool) (ic : Value) (zs : List Int) (w : World) (e : Ending) (w' : World) : Prop :=
  e = .returned (.tuple #[]) ∧ (∃ v', Bl w' P .nilIface v' (.pointer none) off pend asn ic ∧ Own w' base v' zs) ∧ Fr base [P] w w'

theorem add_any (hb : Bl w P .nilIface res (.pointer none) off pend asn ic) (ho : Own w base res ys) (hr : Rd w B A xs) (hn : xs.length = m) (hlen : ys.length + m ≤ 200000) (hbase : base ≤ w.heap.size) (hP : base ≤ P) :
    Calls Try.prog 37 #[.pointer (some ⟨P, 0, none⟩), .slice A m c] w (AddPost P base off pend asn ic (ys ++ xs) w) := by
  have k0 := hb.c0
  have k1 := hb.c1
  have k2 := hb.c2
  have k3 := hb.c3
  obtain ⟨A0, c0, rfl, hc0, hm0, r0⟩ := ho.rd
  have HO := hide ho
  have HR := hide hr
  have HN := hide hn
  obtain ⟨n, hny⟩ : ∃ n, ys.length = n := ⟨_, rfl⟩
  have hne := hb.ne_own ho
  have HNe := hide hne
  rw [hny] at k1 hlen HO HNe hc0
  have HB := hide hb
  have HNy := hide hny
  clear ho hr hn hb hne hny r0 hm0
  go_enter Try.func37, Try.ntmps37
  go_wp2_with fail
  go_quiet (fail)
  go_wp2_with (first
    | (at_builtin; refine wpList_append_rd (w := w.drewN nq) (v := .slice A0 n c0) (ys := ys) (base := base) rfl (.tmp 58) (.tmp 59) rfl rfl (HO.out.drewN nq) rfl (HR.out.below (below_drewN (Below.refl _ _) nq)) HN.out (by rw [HNy.out]; omega) hbase ?_; intro v1 w1 hown1 hg1 hat1; obtain ⟨A1, N1, C1, rfl⟩ := hown1.form; have B1 := hide ((HB.out.drewN nq).grown hg1 (fun e => HNe.out e.symm)); have q0 := B1.out.c1; have q1 := B1.out.fr 1; have O1 := hide hown1; have G1 := hide hg1; clear hown1 hg1 hat1)
    | fail)
  go_end0
  refine ⟨rfl, ⟨_, B1.out.set1 _, O1.out.far ?_ _⟩, ?_⟩
  · exact B1.out.ne_own O1.out
  · exact (((Fr.refl base [P] w).drewN nq).row (HO.out.drewN nq) G1.out hbase).setCell (.inl (by simp)) hP _

theorem AddUint8_any {z : Int} (hb : Bl w P .nilIface res (.pointer none) off pend asn ic) (ho : Own w base res ys) (hz : 0 ≤ z ∧ z ≤ 255) (hlen : ys.length ≤ 100000) (hbase : base ≤ w.heap.size) (hP : base ≤ P) :
    Calls Try.prog 30 #[.pointer (some ⟨P, 0, none⟩), .int .u8 z] w (AddPost P base off pend asn ic (ys ++ [z]) w) := by
  have r1 : Rd (w.alloc (.cells #[.int .u8 z] 5)) (w.heap.size + 1) (some ⟨w.heap.size, 0, none⟩) [z] := Rd.lit (xs := [z]) rfl (by simpa using hz)
  have H := hide (add_any (c := 1) (hb.alloc _) (ho.alloc _) r1 rfl (by simp; omega) (by simp; omega) hP)
  clear r1 hb ho
  go_enter Try.func30, Try.ntmps30
  go_wp2_with fail
  refine H.out.mono ?_
  rintro e w' ⟨rfl, h1, h2⟩
  have H1 := hide h1
  have H2 := hide h2
  clear h1 h2
  go_wp2_with fail
  go_end0
  exact ⟨rfl, H1.out, ((Fr.refl base [P] w).alloc hbase _).trans H2.out (fun i hi => .inl hi)⟩

theorem AddBytes_any (hb : Bl w P .nilIface res (.pointer none) off pend asn ic) (ho : Own w base res ys) (hr : Rd w B A xs) (hn : xs.length = m) (hlen : ys.length + m ≤ 200000) (hbase : base ≤ w.heap.size) (hP : base ≤ P) :
    Calls Try.prog 34 #[.pointer (some ⟨P, 0, none⟩), .slice A m c] w (AddPost P base off pend asn ic (ys ++ xs) w) := by
  have H := hide (add_any (c := c) hb ho hr hn hlen hbase hP)
  clear hb ho hr hn
  go_enter Try.func34, Try.ntmps34
  go_wp2_with fail
  refine H.out.mono ?_
  rintro e w' ⟨rfl, h1, h2⟩
  have H1 := hide h1
  have H2 := hide h2
  clear h1 h2
  go_wp2_with fail
  go_end0
  exact ⟨rfl, H1.out, H2.out⟩

theorem SetError_any {err child u : Value} (hb : Bl w P err res child off pend asn ic) :
    Calls Try.prog 32 #[.pointer (some ⟨P, 0, none⟩), .iface 58 u] w fun e w' => e = .returned (.tuple #[]) ∧ w.setCell ⟨P, 0, none⟩ (.iface 58 u) = w' := by
  have k0 := hb.c0
  have f0 := hb.fr 0
  clear hb
  go_enter Try.func32, Try.ntmps32
  go_wp2_with fail
  go_end0
  exact ⟨rfl, rfl⟩
end
end Go.Proofs.Ytlmidbmmnjnagaa

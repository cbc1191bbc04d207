/- A slice of bytes that the call itself has made, and append onto it from whatever source; the walk of the thin package's 'copied'. -/
import Derived.Test.YtlmidbmmnjnagaaStr
import Derived.Maps.AppendAt
import Derived.Laws.AppendOwnNone
import Derived.OwnWalk
namespace Go.Proofs.Ytlmidbmmnjnagaa
open Go.RowKit

theorem info5 : (Try.prog.info? 5).map (fun i => (i.zero, i.size, i.bytes)) = some (some (.int .u8 0), 1, 1) := by kernel_rfl

/-- v is a slice of the call's own, in a block from base on, that holds the bytes xs -/
def Own (w : World) (base : Nat) (v : Value) (xs : List Int) : Prop :=
  w.ownsRow base 5 1 v xs.length (xs.map (Value.int .u8)) ∧ ∀ x ∈ xs, 0 ≤ x ∧ x ≤ 255

section
variable {w w' : World} {base B : Nat} {v : Value} {xs ys : List Int}
theorem Own.nil (w : World) (base : Nat) : Own w base (.slice none 0 0) [] := ⟨World.ownsRow_nil w base 5 1, by simp⟩
theorem Own.rd (h : Own w base v xs) : ∃ A c, v = .slice A xs.length c ∧ xs.length ≤ c ∧ c ≤ maxLen ∧ Rd w w.heap.size A xs := by
  obtain ⟨⟨hl, h2⟩, hb⟩ := h
  rcases h2 with ⟨rfl, h0⟩ | ⟨g, cap, cur, rfl, hbg, hg, hnc, hcm, hcs, htake⟩
  · have : xs = [] := List.eq_nil_of_length_eq_zero h0
    subst this
    exact ⟨none, 0, rfl, by simp, by simp [maxLen], Rd.nil _ _ _⟩
  · refine ⟨some ⟨g, 0, none⟩, cap, rfl, hnc, hcm, hb, fun _ => ⟨g, 0, rfl, lt_of_block hg, fun i x hx => ?_⟩⟩
    rw [cell_of_row w g (0 + i) cur 5 (0, 0) hg, Nat.zero_add]
    have h1 : (xs.map (Value.int .u8))[i]? = some (.int .u8 x) := by rw [List.getElem?_map, hx]; rfl
    rw [← htake, List.getElem?_take] at h1
    split at h1
    · simpa using h1
    · cases h1
theorem Own.kept {row : Option Nat} (h : Own w base v xs) (hg : w.grownBy w' row) (hne : v.ownBlock = none ∨ v.ownBlock ≠ row) : Own w' base v xs := ⟨h.1.kept hg hne, h.2⟩
theorem Own.alloc (h : Own w base v xs) (o : Obj) : Own (w.alloc o) base v xs := ⟨h.1.alloc o, h.2⟩
theorem Own.drewN (h : Own w base v xs) (n : Nat) : Own (w.drewN n) base v xs := h
theorem Own.far (h : Own w base v xs) {g o : Nat} (hg : v.ownBlock ≠ some g) (u : Value) : Own (w.setCell ⟨g, o, none⟩ u) base v xs := ⟨ownsRow_setCell_other h.1 hg u, h.2⟩

theorem cells_of_rd {A : Option Addr} (hr : Rd w B A xs) {ad : Addr} (hA : A = some ad) : ∀ j u, (xs.map (Value.int .u8))[j]? = some u → w.cell? (ad.add j) = some u := by
  intro j u hu
  rw [List.getElem?_map] at hu
  cases hx : xs[j]? with
  | none => rw [hx] at hu; simp at hu
  | some x =>
    rw [hx] at hu
    simp only [Option.map_some, Option.some.injEq] at hu
    subst hu
    obtain ⟨b, off, e, _, hc⟩ := hr.2 (by rintro rfl; simp at hx)
    rw [hA] at e
    injection e with e
    subst e
    rw [Addr.add_lit]
    exact hc j x hx

theorem run_append_rd (ty : TypeId) {A : Option Addr} {m c : Nat} (hown : Own w base v ys) (hr : Rd w B A xs) (hm : xs.length = m) (hsm : ys.length + m ≤ 1048576) (hbase : base ≤ w.heap.size) :
    ∃ v' w', (Builtin.append_ #[22, 22] ty #[v, .slice A m c]).run Try.prog w = .ok v' w' ∧ Own w' base v' (ys ++ xs) ∧ w.grownBy w' v.ownBlock ∧
      (v'.ownBlock = v.ownBlock ∨ v'.ownBlock = some w.heap.size) := by
  subst hm
  obtain ⟨i0, hi0, hz0, hz1, hz2⟩ := info_parts info5
  have hall : ∀ x ∈ ys ++ xs, 0 ≤ x ∧ x ≤ 255 := by
    intro x hx
    rcases List.mem_append.1 hx with h | h
    · exact hown.2 x h
    · exact hr.1 x h
  rcases A with _ | ad
  · have h0 : xs = [] := by
      by_cases h : xs = []
      · exact h
      · obtain ⟨_, _, e, _⟩ := hr.2 h; cases e
    subst h0
    refine ⟨v, w, ?_, by simpa using hown, ⟨rfl, rfl, rfl, Nat.le_refl _, fun _ _ _ => rfl⟩, .inl rfl⟩
    rcases hown.1.2 with ⟨rfl, _⟩ | ⟨g, cap, cur, rfl, _, _, hnc, _⟩
    · simp [Builtin.append_, run_underlying Try.underlying22, sizeOf, typeInfo, hi0, Builtin.lenOf, Builtin.firstCells]
    · simp [Builtin.append_, run_underlying Try.underlying22, sizeOf, typeInfo, hi0, Builtin.lenOf, Builtin.firstCells, hnc, storeCells]
  · obtain ⟨v', w', hrun, h2, h3, _, h5⟩ := run_append_own_at (P := Try.prog) w base 22 ty 5 i0 _ 1 1 Try.underlying22 hi0 hz0 hz1 hz2 rfl (by omega) v ys.length _ hown.1 ad xs.length c (xs.map (Value.int .u8))
      (by simp) (cells_of_rd hr rfl) (by intro u hu; obtain ⟨x, _, rfl⟩ := List.mem_map.1 hu; rfl) (by unfold maxLen; omega) (by omega) hbase
    exact ⟨v', w', hrun, ⟨by simpa using h2, hall⟩, h3, h5⟩

theorem wp_append_rd {o : Oper} {a : Act} {K : Act → World → Prop} {Q : Exit → Act → World → Prop} (s x : Operand)
    (ho : o.op = .call { callee := .builtin .append, args := #[s, x], argTypes := #[22, 22] }) {A : Option Addr} {m c : Nat}
    (hs : a.eval s = v) (hown : Own w base v ys) (hx : a.eval x = .slice A m c) (hr : Rd w B A xs) (hm : xs.length = m) (hsm : ys.length + m ≤ 1048576) (hbase : base ≤ w.heap.size)
    (h : ∀ v' w', Own w' base v' (ys ++ xs) → w.grownBy w' v.ownBlock → (v'.ownBlock = v.ownBlock ∨ v'.ownBlock = some w.heap.size) → K (a.put o.dst v') w') : o.wp Try.prog a w K Q := by
  obtain ⟨v', w', hrun, h2, h3, h4⟩ := run_append_rd o.type (c := c) hown hr hm hsm hbase
  unfold Oper.wp execOp
  simp only [ho, resolve, invoke, builtin, Sem.run_bind, Sem.run_pure, Result.andThen_ok, List.map_toArray, List.map_cons, List.map_nil, hs, hx, hrun]
  exact h v' w' h2 h3 h4

theorem wpList_append_rd {ops : Array Oper} {rest : List Oper} {o : Oper} {a : Act} {Q : Exit → Act → World → Prop} (hgd : o.guard = none) (s x : Operand)
    (ho : o.op = .call { callee := .builtin .append, args := #[s, x], argTypes := #[22, 22] }) {A : Option Addr} {m c : Nat}
    (hs : a.eval s = v) (hown : Own w base v ys) (hx : a.eval x = .slice A m c) (hr : Rd w B A xs) (hm : xs.length = m) (hsm : ys.length + m ≤ 1048576) (hbase : base ≤ w.heap.size)
    (h : ∀ v' w', Own w' base v' (ys ++ xs) → w.grownBy w' v.ownBlock → (v'.ownBlock = v.ownBlock ∨ v'.ownBlock = some w.heap.size) → wpList Try.prog ops Q rest (a.put o.dst v') w') :
    wpList Try.prog ops Q (o :: rest) a w :=
  wpList_plain hgd fun _ hK => wp_append_rd s x ho hs hown hx hr hm hsm hbase fun v' w' h2 h3 h4 => hK _ _ (h v' w' h2 h3 h4)
end

theorem copied_any {w : World} {B l c : Nat} {A : Option Addr} {xs : List Int} (hr : Rd w B A xs) (hn : xs.length = l) (hl : l ≤ 65536) :
    Calls Try.prog 14 #[.slice A l c] w fun e w' => ∃ A' c', e = .returned (.slice A' l c') ∧ l ≤ c' ∧ Below w.heap.size w w' ∧ Rd w' w'.heap.size A' xs := by
  go_enter Try.func14, Try.ntmps14
  go_wp2_with (at_builtin; refine wpList_append_rd (v := .slice none 0 0) rfl (.const (.slice none 0 0)) (.tmp 3) rfl rfl (Own.nil w w.heap.size) rfl hr hn (by simp; omega) (Nat.le_refl _) ?_; intro v1 w1 hown1 hg1 hat1)
  go_ret
  obtain ⟨A', c', hv, hc, _, hrd⟩ := hown1.rd
  simp only [List.nil_append] at hv hc hrd
  rw [hn] at hv hc
  refine ⟨A', c', by rw [← hv]; rfl, hc, (Below.refl _ _).grown hg1 (Nat.le_refl _) (by simp [Value.ownBlock]), hrd⟩
end Go.Proofs.Ytlmidbmmnjnagaa

/- A slice of bytes that came in, as the walks read it. -/
import Derived.Test.YtlmidbmmnjnagaaBase
import Derived.OpenShut
namespace Go.Proofs.Ytlmidbmmnjnagaa
open Go.RowKit

/-- a slice of integers that came in: nil, or a row of 'cap' cells with the numbers zs -/
def IsRow (k : IntKind) (w : World) (a : Option Addr) (len cap : Nat) (zs : List Int) : Prop :=
  (a = none ∧ len = 0 ∧ cap = 0 ∧ zs = []) ∨
  ∃ x, a = some x ∧ len ≤ cap ∧ cap ≤ maxLen ∧ zs.length = cap ∧ (∀ i, i < zs.length → w.cell? (x.add i) = some (.int k (zs.getD i 0))) ∧ ∀ n ∈ zs, (Lit.int k n).wf = true

theorem IsRow.rd {w : World} {a : Option Addr} {len cap : Nat} {zs : List Int} (h : IsRow .u8 w a len cap zs) :
    Rd w w.heap.size a (zs.take len) ∧ (zs.take len).length = len ∧ len ≤ cap ∧ cap ≤ maxLen := by
  rcases h with ⟨rfl, rfl, rfl, rfl⟩ | ⟨x, rfl, hl, hm, hz, hc, hw⟩
  · exact ⟨Rd.nil _ _ _, rfl, Nat.le_refl _, by simp [maxLen]⟩
  · refine ⟨⟨fun y hy => bounds_u8 (hw y (List.mem_of_mem_take hy)), fun hne => ?_⟩, by rw [List.length_take]; omega, hl, hm⟩
    have hpos : 0 < zs.length := by
      cases zs with
      | nil => simp at hne
      | cons y ys => simp
    obtain ⟨b, off, rfl, hcell⟩ := ints_at hc hpos
    have hlt : b < w.heap.size := World.block_lt_of_cell? w ⟨b, off + 0, none⟩ (hcell 0 hpos)
    refine ⟨b, off, rfl, hlt, fun i y hy => ?_⟩
    rw [List.getElem?_take] at hy
    split at hy
    · have hi : i < zs.length := (List.getElem?_eq_some_iff.1 hy).1
      rw [hcell i hi]
      simp [List.getD, hy]
    · cases hy
end Go.Proofs.Ytlmidbmmnjnagaa

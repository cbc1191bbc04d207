/- The walk of the statement FnParse. -/
import Derived.Test.YtlmidbmmnjnagaaImpl
import Derived.Test.YtlmidbmmnjnagaaRefs
import Derived.Test.YtlmidbmmnjnagaaEq
namespace Go.Proofs.Ytlmidbmmnjnagaa
open Go.RowKit

attribute [local go_sem ↓] sliced_tl
attribute [local go_sem] tl_zero

theorem parsed_one : parsed [48, 6, 2, 1, 7, 2, 1, 9] = some ([7], [9]) := by decide

theorem Rd.made (w : World) (xs : List Int) (hb : ∀ x ∈ xs, 0 ≤ x ∧ x ≤ 255) : Rd (w.alloc (.cells (xs.map (Value.int .u8)).toArray 5)) (w.heap.size + 1) (some ⟨w.heap.size, 0, none⟩) xs := by
  refine ⟨hb, fun _ => ⟨w.heap.size, 0, rfl, Nat.lt_succ_self _, fun i x hx => ?_⟩⟩
  rw [cell_of_row (w.alloc (.cells (xs.map (Value.int .u8)).toArray 5)) w.heap.size (0 + i) _ 5 (0, 0) (heap_alloc_new w _), Nat.zero_add]
  simp [hx]

theorem Parse_one (w : World) : Calls Try.prog 6 #[.slice (some ⟨w.heap.size, 0, none⟩) 8 8] (w.alloc (.cells #[.int .u8 48, .int .u8 6, .int .u8 2, .int .u8 1, .int .u8 7, .int .u8 2, .int .u8 1, .int .u8 9] 5))
    fun e w' => (∃ v0 v1, e = .returned (.tuple #[v0, v1, .bool true])) ∧ Below w.heap.size w w' := by
  have h : Rd (w.alloc (.cells #[.int .u8 48, .int .u8 6, .int .u8 2, .int .u8 1, .int .u8 7, .int .u8 2, .int .u8 1, .int .u8 9] 5)) (w.heap.size + 1) (some ⟨w.heap.size, 0, none⟩) [48, 6, 2, 1, 7, 2, 1, 9] :=
    Rd.made w [48, 6, 2, 1, 7, 2, 1, 9] (by decide)
  refine (Parse_any h rfl (by decide)).mono ?_
  rintro e w' ⟨hb, hm⟩
  rw [parsed_one] at hm
  obtain ⟨A1, c1, A2, c2, he, _⟩ := hm
  exact ⟨⟨_, _, he⟩, ((Below.refl _ _).alloc (Nat.le_refl _) _).trans (hb.mono (by simp))⟩

section
variable {l c : Nat} {A : Option Addr} {xs : List Int} {w : World}

theorem law_long (hl : 400 < l) (hm : l ≤ 9223372036854775807) : Calls Try.prog 3 #[.slice A l c] w fun e w' => e = .returned (.bool true) ∧ Below w.heap.size w w' := by
  by_cases h : 2147483647 < l
  all_goals
    go_enter Try.func3, Try.ntmps3
    go_wp2_with fail
    go_ret
    exact ⟨rfl, Below.refl _ _⟩

theorem law_short (hr : Rd w w.heap.size A xs) (hn : xs.length = l) (hlc : l ≤ c) (hl : l ≤ 400) :
    Calls Try.prog 3 #[.slice A l c] w fun e w' => e = .returned (.bool true) ∧ Below w.heap.size w w' := by
  have HR := hide hr
  have HN := hide hn
  clear hr hn
  go_enter Try.func3, Try.ntmps3
  go_wp2_with fail
  refine (Parsed_any (B := w.heap.size) HR.out (Nat.le_refl _) HN.out hlc (by omega)).mono ?_
  rintro e w1 ⟨hb1, r, s, A1, A2, c1, c2, rfl, l1, l2, r1, r2, hyes⟩
  have HB1 := hide hb1
  have HZ1 := hb1.size
  have R1 := hide r1
  have R2 := hide r2
  have HY := hide hyes
  clear hb1 r1 r2 hyes
  cases hp : parsed xs with
  | none =>
    have HP := hide hp
    have ho : (parsed xs).isSome = false := by rw [hp]; rfl
    rw [show (none : Option (List Int × List Int)).isSome = false from rfl]
    clear HY hp ho
    go_wp2_with fail
    refine (Parse_any (c := c) (HR.out.below HB1.out) HN.out (by omega)).mono ?_
    rintro e w2 ⟨hb2, hm2⟩
    have HB2 := hide hb2
    have HZ2 := hb2.size
    clear hb2
    rw [HP.out] at hm2
    obtain rfl := hm2
    go_wp2_with fail
    refine (Parse_one w2).mono ?_
    rintro e w3 ⟨⟨v0, v1, rfl⟩, hb3⟩
    have HB3 := hide hb3
    clear hb3
    go_wp2_with fail
    go_ret
    exact ⟨rfl, (HB1.out.trans (HB2.out.mono HZ1)).trans (HB3.out.mono (by omega))⟩
  | some p =>
    have HP := hide hp
    rw [show (some p).isSome = true from rfl]
    have hy := HY.out (by rw [hp]; rfl)
    have HY' := hide hy
    clear hp HY hy
    go_wp2_with fail
    refine (Parse_any (c := c) (HR.out.below HB1.out) HN.out (by omega)).mono ?_
    rintro e w2 ⟨hb2, hm2⟩
    have HB2 := hide hb2
    have HZ2 := hb2.size
    clear hb2
    rw [HY'.out] at hm2
    obtain ⟨A3, c3, A4, c4, rfl, l3, l4, r3, r4⟩ := hm2
    have R3 := hide r3
    have R4 := hide r4
    clear r3 r4
    obtain ⟨nr, hnr⟩ : ∃ n, r.length = n := ⟨_, rfl⟩
    obtain ⟨ns, hns⟩ : ∃ n, s.length = n := ⟨_, rfl⟩
    rw [hnr, hns]
    have HNr := hide hnr
    have HNs := hide hns
    clear hnr hns l1 l2 l3 l4
    go_wp2_with fail
    refine (Parse_one w2).mono ?_
    rintro e w3 ⟨⟨v0, v1, rfl⟩, hb3⟩
    have HB3 := hide hb3
    have HZ3 := hb3.size
    clear hb3
    go_wp2_with fail
    refine (Equal_any (R3.out.below HB3.out) HNr.out (R1.out.below ((HB2.out.mono HZ1).trans (HB3.out.mono (by omega)))) HNr.out).mono ?_
    rintro e w4 ⟨rfl, rfl⟩
    rw [decide_eq_true (rfl : r = r)]
    go_wp2_with fail
    refine (Equal_any (R4.out.below HB3.out) HNs.out (R2.out.below ((HB2.out.mono HZ1).trans (HB3.out.mono (by omega)))) HNs.out).mono ?_
    rintro e w4 ⟨rfl, rfl⟩
    rw [decide_eq_true (rfl : s = s)]
    go_wp2_with fail
    go_ret
    exact ⟨rfl, (HB1.out.trans (HB2.out.mono HZ1)).trans (HB3.out.mono (by omega))⟩
end
end Go.Proofs.Ytlmidbmmnjnagaa

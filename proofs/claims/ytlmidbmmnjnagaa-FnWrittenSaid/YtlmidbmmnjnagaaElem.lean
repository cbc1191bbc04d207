/- The walk of the reference's element. -/
import Derived.Test.YtlmidbmmnjnagaaParse
import Derived.Test.YtlmidbmmnjnagaaPlain3
namespace Go.Proofs.Ytlmidbmmnjnagaa
open Go.RowKit

attribute [local go_sem ↓] sliced_tl
attribute [local go_sem] tl_zero

section
variable {l c B b off k m : Nat} {A : Option Addr} {xs : List Int} {tag x0 x1 : Int} {w : World}

/-- the reference's element, by head and content -/
def RefPost (l c : Nat) (a : Addr) (o : Option (Nat × Nat)) (w : World) (e : Ending) (w' : World) : Prop :=
  Below w.heap.size w w' ∧ match o with
    | none => e = .returned (.tuple #[.slice none 0 0, .slice none 0 0, .bool false])
    | some (h, n) => e = .returned (.tuple #[.slice (tl (some a) h c 1) n (c - h), .slice (tl (some a) (h + n) c 1) (l - (h + n)) (c - (h + n)), .bool true])

/-- the head of an element in the longer form, by the number N in its k bytes, as the reference tells it -/
def refHead (l k : Nat) (N : Int) : Option (Nat × Nat) := if N < 128 ∨ (l : Int) < 2 + k + N then none else some (2 + k, N.toNat)

theorem element_tiny {a : Addr} (hl : l < 2) : Calls Try.prog 11 #[.int .u8 tag, .slice A l c] w (RefPost l c a none w) := by
  go_enter Try.func11, Try.ntmps11
  go_wp2_with fail
  go_ret3
  exact ⟨Below.refl _ _, rfl⟩

theorem element_other (hl : 2 ≤ l) (hc0 : w.cell? ⟨b, off, none⟩ = some (.int .u8 x0)) (ht : x0 ≠ tag) :
    Calls Try.prog 11 #[.int .u8 tag, .slice (some ⟨b, off, none⟩) l c] w (RefPost l c ⟨b, off, none⟩ none w) := by
  have e0 : (x0 != tag) = true := by simpa using ht
  go_enter Try.func11, Try.ntmps11
  go_wp2_with fail
  go_ret3
  exact ⟨Below.refl _ _, rfl⟩

set_option maxRecDepth 100000 in
theorem element_short (hlc : l ≤ c) (hc0 : w.cell? ⟨b, off, none⟩ = some (.int .u8 tag)) (hc1 : w.cell? ⟨b, off + 1, none⟩ = some (.int .u8 (m : Int))) (hm : m < 128) (hfit : m + 2 ≤ l) (hl : l ≤ 65536) :
    Calls Try.prog 11 #[.int .u8 tag, .slice (some ⟨b, off, none⟩) l c] w (RefPost l c ⟨b, off, none⟩ (some (2, m)) w) := by
  have e0 : (tag != tag) = false := by simp
  go_enter Try.func11, Try.ntmps11
  go_wp2_with fail
  go_quiet (fail)
  go_wp2_with fail
  go_ret3
  refine ⟨below_drewN (Below.refl _ _) _, ?_⟩
  have e1 : 2 + m - 2 = m := by omega
  show Ending.returned (.tuple #[.slice (tl (some ⟨b, off, none⟩) 2 c 1) (2 + m - 2) (c - 2), _, _]) = _
  rw [e1]
  rfl

set_option maxRecDepth 100000 in
theorem element_short_no (hc0 : w.cell? ⟨b, off, none⟩ = some (.int .u8 tag)) (hc1 : w.cell? ⟨b, off + 1, none⟩ = some (.int .u8 (m : Int))) (hm : m < 128) (h2 : 2 ≤ l) (hfit : l < m + 2) (hl : l ≤ 65536) :
    Calls Try.prog 11 #[.int .u8 tag, .slice (some ⟨b, off, none⟩) l c] w (RefPost l c ⟨b, off, none⟩ none w) := by
  have e0 : (tag != tag) = false := by simp
  go_enter Try.func11, Try.ntmps11
  go_wp2_with fail
  go_ret3
  exact ⟨Below.refl _ _, rfl⟩

set_option maxRecDepth 100000 in
theorem element_len (hc0 : w.cell? ⟨b, off, none⟩ = some (.int .u8 tag)) (hc1 : w.cell? ⟨b, off + 1, none⟩ = some (.int .u8 ((k : Int) + 128))) (hk : k ≤ 127) (h2 : 2 ≤ l) (hbad : k < 1 ∨ 4 < k) :
    Calls Try.prog 11 #[.int .u8 tag, .slice (some ⟨b, off, none⟩) l c] w (RefPost l c ⟨b, off, none⟩ none w) := by
  have e0 : (tag != tag) = false := by simp
  rcases hbad with h | h
  all_goals
    go_enter Try.func11, Try.ntmps11
    go_wp2_with fail
    go_ret3
    exact ⟨Below.refl _ _, rfl⟩

set_option maxRecDepth 100000 in
theorem element_cut (hc0 : w.cell? ⟨b, off, none⟩ = some (.int .u8 tag)) (hc1 : w.cell? ⟨b, off + 1, none⟩ = some (.int .u8 ((k : Int) + 128))) (hk1 : 1 ≤ k) (hk4 : k ≤ 4) (h2 : 2 ≤ l) (hcut : l < k + 2) :
    Calls Try.prog 11 #[.int .u8 tag, .slice (some ⟨b, off, none⟩) l c] w (RefPost l c ⟨b, off, none⟩ none w) := by
  have e0 : (tag != tag) = false := by simp
  go_enter Try.func11, Try.ntmps11
  go_wp2_with fail
  go_ret3
  exact ⟨Below.refl _ _, rfl⟩

set_option maxRecDepth 100000 in
theorem element_nought (hc0 : w.cell? ⟨b, off, none⟩ = some (.int .u8 tag)) (hc1 : w.cell? ⟨b, off + 1, none⟩ = some (.int .u8 ((k : Int) + 128))) (hc2 : w.cell? ⟨b, off + 2, none⟩ = some (.int .u8 0)) (hk1 : 1 ≤ k) (hk4 : k ≤ 4) (hfit : k + 2 ≤ l) :
    Calls Try.prog 11 #[.int .u8 tag, .slice (some ⟨b, off, none⟩) l c] w (RefPost l c ⟨b, off, none⟩ none w) := by
  have e0 : (tag != tag) = false := by simp
  go_enter Try.func11, Try.ntmps11
  go_wp2_with fail
  go_ret3
  exact ⟨Below.refl _ _, rfl⟩

set_option maxRecDepth 100000 in
theorem element_long {ys : List Int} {N x2 : Int} (hN : num ys = N) (hlc : l ≤ c) (hc0 : w.cell? ⟨b, off, none⟩ = some (.int .u8 tag)) (hc1 : w.cell? ⟨b, off + 1, none⟩ = some (.int .u8 ((k : Int) + 128)))
    (hc2 : w.cell? ⟨b, off + 2, none⟩ = some (.int .u8 x2)) (hx2 : x2 ≠ 0)
    (hys : ∀ i x, ys[i]? = some x → w.cell? ⟨b, off + 2 + i, none⟩ = some (.int .u8 x)) (hyb : ∀ x ∈ ys, 0 ≤ x ∧ x ≤ 255) (hyl : ys.length = k)
    (hk1 : 1 ≤ k) (hk4 : k ≤ 4) (hfit : k + 2 ≤ l) (hl : l ≤ 65536) :
    Calls Try.prog 11 #[.int .u8 tag, .slice (some ⟨b, off, none⟩) l c] w
      (RefPost l c ⟨b, off, none⟩ (refHead l k N) w) := by
  have e0 : (tag != tag) = false := by simp
  have e2 : (x2 == 0) = false := by simpa using hx2
  have htl : tl (some ⟨b, off, none⟩) 2 c 1 = some ⟨b, off + 2, none⟩ := by unfold tl; rw [if_neg (by omega)]; rfl
  have HN := hide hN
  have HY := hide hys
  have HYB := hide hyb
  have HYL := hide hyl
  clear hN hys hyb hyl
  go_enter Try.func11, Try.ntmps11
  go_wp2_with fail
  go_loop [7, 54] (fun n i => ∃ j : Nat, j ≤ k ∧ i = .int .i64 j ∧ n = .int .i64 (num (ys.take j))) (fun _ i => k - (intOf i).toNat)
  case atStart => exact ⟨0, Nat.zero_le _, rfl, rfl⟩
  case round =>
    obtain ⟨j, hj, rfl, rfl⟩ := hrel
    have hb := num_bound ys HYB.out j (by omega)
    by_cases hlt : j < k
    · have hlt' : j < ys.length := by rw [HYL.out]; exact hlt
      have g := HY.out j ys[j] (List.getElem?_eq_getElem hlt')
      have hx := HYB.out _ (List.getElem_mem hlt')
      have h4 : (256 : Int) ^ j ≤ 16777216 := by
        have : j = 0 ∨ j = 1 ∨ j = 2 ∨ j = 3 := by omega
        rcases this with rfl | rfl | rfl | rfl <;> decide
      have hb2 : num (ys.take j) < 16777216 := by omega
      have hb1 := hb.1
      clear hb h4
      go_wp2_with fail
      go_round
      case rel =>
        refine ⟨j + 1, by omega, by go_num, ?_⟩
        rw [num_take ys j ys[j] (List.getElem?_eq_getElem hlt')]
        rw [or_round hb1 hb2 hx]
      case measure => simp [intOf]; omega
    · have ej : ys.take j = ys := List.take_of_length_le (by rw [HYL.out]; omega)
      rw [ej, HN.out]
      rw [ej, HN.out] at hb
      have hN0 := hb.1
      clear hb ej
      obtain ⟨m, rfl⟩ := Int.eq_ofNat_of_zero_le hN0
      go_wp2_with fail
      · go_ret3
        refine ⟨Below.refl _ _, ?_⟩
        have hlt : (m : Int) < 128 := by assumption
        rw [show refHead l k m = none from if_pos (.inl hlt)]
        rfl
      · go_ret3
        refine ⟨Below.refl _ _, ?_⟩
        have hlt : (l : Int) - (2 + k) < m := by assumption
        rw [show refHead l k m = none from if_pos (.inr (by omega))]
        rfl
      · have h128 : 128 ≤ (m : Int) := by assumption
        have hle : (m : Int) ≤ (l : Int) - (2 + k) := by assumption
        go_quiet (fail)
        go_wp2_with fail
        go_ret3
        refine ⟨below_drewN (Below.refl _ _) _, ?_⟩
        rw [show refHead l k m = some (2 + k, m) from if_neg (by omega)]
        have e1 : 2 + k + m - (2 + k) = m := by omega
        show Ending.returned (.tuple #[.slice (tl (some ⟨b, off, none⟩) (2 + k) c 1) (2 + k + m - (2 + k)) (c - (2 + k)), _, _]) = _
        rw [e1]
        rfl
end
end Go.Proofs.Ytlmidbmmnjnagaa

/- The walk of the statement FnWritten. -/
import Derived.Test.YtlmidbmmnjnagaaEnc
import Derived.Test.YtlmidbmmnjnagaaSpec2
import Derived.Test.YtlmidbmmnjnagaaLawP
namespace Go.Proofs.Ytlmidbmmnjnagaa
open Go.RowKit

attribute [local go_sem ↓] sliced_tl
attribute [local go_sem] tl_zero

theorem Written_one (w : World) : Calls Try.prog 9 #[.slice (some ⟨w.heap.size, 0, none⟩) 1 1, .slice (some ⟨w.heap.size + 1, 0, none⟩) 1 1] ((w.alloc (.cells #[.int .u8 7] 5)).alloc (.cells #[.int .u8 9] 5))
    fun e w' => (∃ v0, e = .returned (.tuple #[v0, .bool true])) ∧ Below w.heap.size w w' := by
  have hb : Below (w.heap.size + 1) (w.alloc (.cells #[.int .u8 7] 5)) ((w.alloc (.cells #[.int .u8 7] 5)).alloc (.cells #[.int .u8 9] 5)) := (Below.refl _ _).alloc (by simp) _
  have h1 : Rd ((w.alloc (.cells #[.int .u8 7] 5)).alloc (.cells #[.int .u8 9] 5)) (w.heap.size + 1) (some ⟨w.heap.size, 0, none⟩) [7] := (Rd.made w [7] (by decide)).below hb
  have h2 : Rd ((w.alloc (.cells #[.int .u8 7] 5)).alloc (.cells #[.int .u8 9] 5)) (w.heap.size + 2) (some ⟨w.heap.size + 1, 0, none⟩) [9] := Rd.lit (xs := [9]) (by simp) (by decide)
  refine (Written_any (c := 1) (c' := 1) (h1.more (by omega)) rfl h2 rfl (by decide) (by decide) (by simp)).mono ?_
  rintro e w' ⟨hb, h⟩
  refine ⟨?_, (((Below.refl _ _).alloc (Nat.le_refl _) _).alloc (by simp) _).trans (hb.mono (by simp; omega))⟩
  rcases h with ⟨_, _, A, n, c, rfl, _⟩ | ⟨h, _⟩
  · exact ⟨_, rfl⟩
  · rcases h with h | h <;> exact absurd h (by decide)

section
variable {l c l' c' : Nat} {A A' : Option Addr} {xs ys : List Int} {w : World}

theorem lawW_long (hl : 300 < l ∨ 300 < l') (hm : l ≤ 9223372036854775807) (hm' : l' ≤ 9223372036854775807) : Calls Try.prog 4 #[.slice A l c, .slice A' l' c'] w fun e w' => e = .returned (.bool true) ∧ Below w.heap.size w w' := by
  by_cases h1 : 2147483647 < l
  · clear hl
    go_enter Try.func4, Try.ntmps4
    go_wp2_with fail
    go_ret
    exact ⟨rfl, Below.refl _ _⟩
  · by_cases h2 : 2147483647 < l'
    · clear hl
      go_enter Try.func4, Try.ntmps4
      go_wp2_with fail
      go_ret
      exact ⟨rfl, Below.refl _ _⟩
    · by_cases h3 : 300 < l
      · clear hl
        go_enter Try.func4, Try.ntmps4
        go_wp2_with fail
        go_ret
        exact ⟨rfl, Below.refl _ _⟩
      · have h4 : 300 < l' := by omega
        clear hl
        go_enter Try.func4, Try.ntmps4
        go_wp2_with fail
        go_ret
        exact ⟨rfl, Below.refl _ _⟩

set_option maxRecDepth 100000 in
set_option maxHeartbeats 1000000 in
theorem lawW_short (hr : Rd w w.heap.size A xs) (hn : xs.length = l) (hlc : l ≤ c) (hl : l ≤ 300) (hr' : Rd w w.heap.size A' ys) (hn' : ys.length = l') (hlc' : l' ≤ c') (hl' : l' ≤ 300) :
    Calls Try.prog 4 #[.slice A l c, .slice A' l' c'] w fun e w' => e = .returned (.bool true) ∧ Below w.heap.size w w' := by
  have H1 := hide (Stripped_any hr hn hlc)
  have H2 := hide (Stripped_any hr' hn' hlc')
  have H3 := hide (Written_any (c := c) (c' := c') hr hn hr' hn' hl hl' (Nat.le_refl _))
  have hs1 := strip_length xs
  have hs2 := strip_length ys
  rw [hn] at hs1
  rw [hn'] at hs2
  obtain ⟨p, hp⟩ : ∃ p, strip xs = p := ⟨_, rfl⟩
  obtain ⟨q, hq⟩ : ∃ q, strip ys = q := ⟨_, rfl⟩
  have hp0 : ∀ a, p[0]? = some a → a ≠ 0 := by rw [← hp]; exact fun a h => strip_head h
  have hq0 : ∀ a, q[0]? = some a → a ≠ 0 := by rw [← hq]; exact fun a h => strip_head h
  unfold WrPost at H3
  rw [hp] at H1 hs1 H3
  rw [hq] at H2 hs2 H3
  obtain ⟨n, hnp⟩ : ∃ n, p.length = n := ⟨_, rfl⟩
  obtain ⟨n', hnq⟩ : ∃ n, q.length = n := ⟨_, rfl⟩
  rw [hnp] at H1 hs1
  rw [hnq] at H2 hs2
  have HP0 := hide hp0
  have HQ0 := hide hq0
  have HNp := hide hnp
  have HNq := hide hnq
  clear hr hn hr' hn' hp hq hp0 hq0 hnp hnq
  go_enter Try.func4, Try.ntmps4
  go_wp2_with fail
  refine H1.out.mono ?_
  rintro e _ ⟨⟨A1, c1, rfl, hc1, r1⟩, rfl⟩
  have R1 := hide r1
  clear r1
  go_wp2_with fail
  refine H2.out.mono ?_
  rintro e _ ⟨⟨A2, c2, rfl, hc2, r2⟩, rfl⟩
  have R2 := hide r2
  clear r2
  go_wp2_with fail
  refine H3.out.mono ?_
  rintro e w3 ⟨b3, ⟨n1, n2, A3, m, c3, rfl, hm, r3⟩ | ⟨n1, rfl⟩⟩
  · have B3 := hide b3
    have hz3 := b3.size
    have R3 := hide r3
    have HM := hide hm
    have e1 : ((n : Int) == 0) = false := by rw [beq_eq_false_iff_ne]; have := List.length_pos_iff.2 n1; rw [HNp.out] at this; omega
    have e2 : ((n' : Int) == 0) = false := by rw [beq_eq_false_iff_ne]; have := List.length_pos_iff.2 n2; rw [HNq.out] at this; omega
    have N1 := hide n1
    have N2 := hide n2
    have hml : m ≤ 1000 := by
      have h1 := derInt_length p
      have h3 := derInt_length q
      have h5 := tagged_length 48 (derInt p ++ derInt q)
      rw [List.length_append] at h5
      rw [HNp.out] at h1
      rw [HNq.out] at h3
      rw [← hm]; unfold der; omega
    clear b3 r3 hm n1 n2
    go_wp2_with fail
    refine (Written_one w3).mono ?_
    rintro e w4 ⟨⟨v4, rfl⟩, b4⟩
    have hz4 := b4.size
    have B4 := hide b4
    have R4 := hide (R3.out.below b4)
    clear b4
    go_wp2_with fail
    refine (Parse_any (c := c3) R4.out HM.out (by omega)).mono ?_
    rintro e w5 ⟨b5, h5⟩
    rw [parsed_der N1.out N2.out HP0.out HQ0.out (by rw [HNp.out]; omega) (by rw [HNq.out]; omega)] at h5
    obtain ⟨A5, c5, A6, c6, rfl, _, _, r5, r6⟩ := h5
    rw [HNp.out, HNq.out]
    have hz5 := b5.size
    have R5 := hide r5
    have R6 := hide r6
    have B5 := hide ((B3.out.trans (B4.out.mono hz3)).trans (b5.mono (by omega)))
    have R45 := hide ((R4.out.more hz4).below b5)
    clear b5 r5 r6
    go_wp2_with fail
    refine (Signed_any (c := c1) (c' := c2) (R1.out.below B5.out) HNp.out hc1 (R2.out.below B5.out) HNq.out hc2 (by omega) (by omega) (by omega)).mono ?_
    rintro e w6 ⟨A7, c7, rfl, r7, b6⟩
    rw [strip_of_head HP0.out, strip_of_head HQ0.out] at r7 ⊢
    rw [HM.out]
    have hz6 := b6.size
    have B6 := hide (B5.out.trans (b6.mono (by omega)))
    have R7 := hide r7
    have R46 := hide ((R45.out.more hz5).below b6)
    have R56 := hide (R5.out.below b6)
    have R66 := hide (R6.out.below b6)
    clear r7 b6
    go_wp2_with fail
    refine (Equal_any R46.out HM.out R7.out HM.out).mono ?_
    rintro e w7 ⟨rfl, rfl⟩
    rw [decide_eq_true (rfl : der p q = der p q)]
    go_wp2_with fail
    refine (Equal_any R56.out HNp.out (R1.out.below B6.out) HNp.out).mono ?_
    rintro e w7 ⟨rfl, rfl⟩
    rw [decide_eq_true (rfl : p = p)]
    go_wp2_with fail
    refine (Equal_any R66.out HNq.out (R2.out.below B6.out) HNq.out).mono ?_
    rintro e w7 ⟨rfl, rfl⟩
    rw [decide_eq_true (rfl : q = q)]
    go_wp2_with fail
    go_ret
    exact ⟨rfl, B6.out⟩
  · have B3 := hide b3
    have hz3 := b3.size
    have N1 := hide n1
    clear b3 n1
    go_wp2_with fail
    refine (Written_one w3).mono ?_
    rintro e w4 ⟨⟨v4, rfl⟩, b4⟩
    have B4 := hide (B3.out.trans (b4.mono hz3))
    clear b4
    by_cases h0 : n = 0
    · subst h0
      go_wp2_with fail
      go_ret
      exact ⟨rfl, B4.out⟩
    · have e1 : ((n : Int) == 0) = false := by rw [beq_eq_false_iff_ne]; omega
      have h2 : n' = 0 := by
        rcases N1.out with h | h
        · exact absurd (by rw [← HNp.out, h]; rfl) h0
        · rw [← HNq.out, h]; rfl
      subst h2
      go_wp2_with fail
      go_ret
      exact ⟨rfl, B4.out⟩
end
end Go.Proofs.Ytlmidbmmnjnagaa

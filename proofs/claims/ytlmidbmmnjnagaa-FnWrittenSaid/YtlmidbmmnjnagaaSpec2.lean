/- The walks of the reference's integer and Signed. -/
import Derived.Test.YtlmidbmmnjnagaaSpec
namespace Go.Proofs.Ytlmidbmmnjnagaa
open Go.RowKit

attribute [local go_sem ↓] sliced_tl
attribute [local go_sem] tl_zero

section
variable {l c B : Nat} {A : Option Addr} {xs : List Int} {tag : Int} {w : World}

theorem int_done {ys : List Int} {A1 : Option Addr} {c1 m B1 : Nat} {w1 : World} (h1 : Rd w1 B1 A1 ys) (h2 : ys.length = m) (h3 : m ≤ 50001) (h4 : B1 ≤ w1.heap.size) (h5 : Below w.heap.size w w1) (h6 : intContent (strip xs) = ys) :
    Calls Try.prog 16 #[.int .u8 2, .slice A1 m c1] w1 fun e w' => (∃ v, e = .returned v ∧ Own w' w.heap.size v (derInt (strip xs))) ∧ Below w.heap.size w w' := by
  refine (tagged_any h1 h2 (by omega) (by decide) h4).mono ?_
  rintro e w2 ⟨v, he, ho, hb⟩
  exact ⟨⟨v, he, by rw [show derInt (strip xs) = tagged 2 ys by unfold derInt; rw [h6]]; exact ho.less h5.size⟩, h5.trans (hb.mono h5.size)⟩

theorem integer_any (hr : Rd w B A xs) (hn : xs.length = l) (hlc : l ≤ c) (hl : l ≤ 50000) (hB : B ≤ w.heap.size) :
    Calls Try.prog 17 #[.slice A l c] w fun e w' => ∃ v, e = .returned v ∧ Own w' w.heap.size v (derInt (strip xs)) ∧ Below w.heap.size w w' := by
  have HC := hide (Stripped_any hr hn hlc)
  have hsl := strip_length xs
  rw [hn] at hsl
  clear hr hn
  go_enter Try.func17, Try.ntmps17
  go_wp2_with fail
  refine HC.out.mono ?_
  rintro e _ ⟨⟨A', c', rfl, hc', hr'⟩, rfl⟩
  obtain ⟨n, hn⟩ : ∃ n, (strip xs).length = n := ⟨_, rfl⟩
  have HR := hide hr'
  rw [hn] at hc' hsl ⊢
  have HN := hide hn
  clear hr' hn
  by_cases h0 : n = 0
  · have HI : Hid (intContent (strip xs) = [0] ++ strip xs) := hide (by rw [List.eq_nil_of_length_eq_zero (HN.out.trans h0)]; rfl)
    subst h0
    have o1 : Own (w.alloc (.cells #[.int .u8 0] 5)) w.heap.size (.slice (some ⟨w.heap.size, 0, none⟩) 1 1) [0] := Own.lit (xs := [0]) rfl (Nat.le_refl _) (by simp) (by simp)
    have O1 := hide o1
    clear o1
    go_wp2_with (first
      | (at_builtin; refine wpList_append_rd (v := .slice (some ⟨w.heap.size, 0, none⟩) 1 1) (ys := [0]) (base := w.heap.size) rfl (.tmp 14) (.tmp 15) rfl rfl O1.out rfl (HR.out.below ((Below.refl _ _).alloc hB _)) HN.out (by show 1 + _ ≤ _; omega) (by simp) ?_; intro v1 w1 hown1 hg1 hat1)
      | fail)
    have hb1 : Below w.heap.size w w1 := ((Below.refl _ _).alloc (Nat.le_refl _) _).grown hg1 (by simp) (by intro k hk; cases hk; exact Nat.le_refl _)
    obtain ⟨A1, c1, hv, hc1, _, hrd⟩ := hown1.rd
    have hlen : ([0] ++ strip xs).length = 1 + 0 := by rw [List.length_append, HN.out]; rfl
    rw [hlen] at hv
    have HL := hide hlen
    have HD := hide hrd
    clear hlen hrd hown1 hg1 hat1 hc1
    subst hv
    refine (int_done HD.out HL.out (by omega) (Nat.le_refl _) hb1 HI.out).mono ?_
    rintro e w2 ⟨⟨v, rfl, ho⟩, hb2⟩
    go_wp2_with fail
    go_ret
    exact ⟨v, rfl, ho, hb2⟩
  · obtain ⟨a, ha⟩ : ∃ a, (strip xs)[0]? = some a := ⟨_, List.getElem?_eq_getElem (show 0 < (strip xs).length by rw [HN.out]; omega)⟩
    obtain ⟨g, off, rfl, hgB, hcell⟩ := HR.out.at_ (show 0 < (strip xs).length by rw [HN.out]; omega)
    have hc0 := hcell 0 a ha
    rw [Nat.add_zero] at hc0
    have hab := HR.out.byte ha
    have e0 : ((n : Int) == 0) = false := by rw [beq_eq_false_iff_ne]; omega
    have HA := hide ha
    clear ha hcell
    by_cases h128 : 128 ≤ a
    · have HI : Hid (intContent (strip xs) = [0] ++ strip xs) := hide (intContent_high HA.out h128)
      have o1 : Own (w.alloc (.cells #[.int .u8 0] 5)) w.heap.size (.slice (some ⟨w.heap.size, 0, none⟩) 1 1) [0] := Own.lit (xs := [0]) rfl (Nat.le_refl _) (by simp) (by simp)
      have O1 := hide o1
      clear o1
      go_wp2_with (first
        | (at_builtin; refine wpList_append_rd (v := .slice (some ⟨w.heap.size, 0, none⟩) 1 1) (ys := [0]) (base := w.heap.size) rfl (.tmp 14) (.tmp 15) rfl rfl O1.out rfl (HR.out.below ((Below.refl _ _).alloc hB _)) HN.out (by show 1 + _ ≤ _; omega) (by simp) ?_; intro v1 w1 hown1 hg1 hat1)
        | fail)
      have hb1 : Below w.heap.size w w1 := ((Below.refl _ _).alloc (Nat.le_refl _) _).grown hg1 (by simp) (by intro k hk; cases hk; exact Nat.le_refl _)
      obtain ⟨A1, c1, hv, hc1, _, hrd⟩ := hown1.rd
      have hlen : ([0] ++ strip xs).length = 1 + n := by rw [List.length_append, HN.out]; rfl
      rw [hlen] at hv
      have HL := hide hlen
      have HD := hide hrd
      clear hlen hrd hown1 hg1 hat1 hc1
      subst hv
      refine (int_done HD.out HL.out (by omega) (Nat.le_refl _) hb1 HI.out).mono ?_
      rintro e w2 ⟨⟨v, rfl, ho⟩, hb2⟩
      go_wp2_with fail
      go_ret
      exact ⟨v, rfl, ho, hb2⟩
    · have HI : Hid (intContent (strip xs) = strip xs) := hide (intContent_low HA.out h128)
      go_wp2_with fail
      refine (int_done HR.out HN.out (by omega) hB (Below.refl _ _) HI.out).mono ?_
      rintro e w2 ⟨⟨v, rfl, ho⟩, hb2⟩
      go_wp2_with fail
      go_ret
      exact ⟨v, rfl, ho, hb2⟩

theorem Signed_any {l' c' : Nat} {A' : Option Addr} {ys : List Int} (hr : Rd w B A xs) (hn : xs.length = l) (hlc : l ≤ c) (hr' : Rd w B A' ys) (hn' : ys.length = l') (hlc' : l' ≤ c') (hl : l ≤ 20000) (hl' : l' ≤ 20000) (hB : B ≤ w.heap.size) :
    Calls Try.prog 10 #[.slice A l c, .slice A' l' c'] w fun e w' => ∃ A1 c1, e = .returned (.slice A1 (der (strip xs) (strip ys)).length c1) ∧ Rd w' w'.heap.size A1 (der (strip xs) (strip ys)) ∧ Below w.heap.size w w' := by
  have H1 := hide (integer_any hr hn hlc (by omega) hB)
  have HR' := hide hr'
  have HN' := hide hn'
  have l1 : (derInt (strip xs)).length ≤ l + 5 := by have := derInt_length (strip xs); have := strip_length xs; omega
  have l2 : (derInt (strip ys)).length ≤ l' + 5 := by have := derInt_length (strip ys); have := strip_length ys; omega
  clear hr hn hr' hn'
  obtain ⟨p, hp⟩ : ∃ p, derInt (strip xs) = p := ⟨_, rfl⟩
  obtain ⟨q, hq⟩ : ∃ q, derInt (strip ys) = q := ⟨_, rfl⟩
  have hd : der (strip xs) (strip ys) = tagged 48 (p ++ q) := by unfold der; rw [hp, hq]
  rw [hp] at l1 H1
  rw [hq] at l2
  rw [hd]
  have HQ := hide hq
  clear hp hq hd
  go_enter Try.func10, Try.ntmps10
  go_wp2_with fail
  refine H1.out.mono ?_
  rintro e w1 ⟨v1, rfl, o1, b1⟩
  have O1 := hide o1
  have B1 := hide b1
  have hz1 := b1.size
  clear o1 b1
  go_wp2_with fail
  refine (integer_any (c := c') (HR'.out.below (B1.out.mono hB)) HN'.out hlc' (by omega) (by omega)).mono ?_
  rintro e w2 ⟨v2, rfl, o2, b2⟩
  rw [HQ.out] at o2
  obtain ⟨A2, c2, hv2, hc2, _, r2⟩ := o2.rd
  have R2 := hide r2
  have hz2 := b2.size
  have O1' : Hid (Own w2 w.heap.size v1 p) := hide (O1.out.kept_below b2)
  have B2 := hide (B1.out.trans (b2.mono hz1))
  clear o2 r2 b2
  obtain ⟨nq, hnq⟩ : ∃ n, q.length = n := ⟨_, rfl⟩
  rw [hnq] at hv2 hc2 l2
  have HNq := hide hnq
  clear hnq
  subst hv2
  go_wp2_with (first
    | (at_builtin; refine wpList_append_rd (v := v1) (ys := p) (base := w.heap.size) rfl (.tmp 6) (.tmp 8) rfl rfl O1'.out rfl R2.out HNq.out (by omega) B2.out.size ?_; intro v3 w3 hown3 hg3 hat3)
    | fail)
  have hb3 : Below w.heap.size w w3 := B2.out.grown hg3 B2.out.size (fun k hk => (O1'.out.1.lt k hk).1)
  obtain ⟨A3, c3, hv3, hc3, _, hrd⟩ := hown3.rd
  have hlen : (p ++ q).length = p.length + nq := by rw [List.length_append, HNq.out]
  rw [hlen] at hv3
  have HL := hide hlen
  have HD := hide hrd
  clear hlen hrd hown3 hg3 hat3 hc3
  subst hv3
  refine (tagged_any HD.out HL.out (by omega) (by decide) (Nat.le_refl _)).mono ?_
  rintro e w4 ⟨v4, rfl, o4, b4⟩
  obtain ⟨A4, c4, hv4, hc4, _, r4⟩ := o4.rd
  have R4 := hide r4
  have B4 := hide (hb3.trans (b4.mono hb3.size))
  obtain ⟨nt, hnt⟩ : ∃ n, (tagged 48 (p ++ q)).length = n := ⟨_, rfl⟩
  rw [hnt] at hv4
  have HT := hide hnt
  clear r4 b4 o4 hc4 hnt
  subst hv4
  go_wp2_with fail
  go_ret
  rw [HT.out]
  exact ⟨A4, c4, rfl, R4.out, B4.out⟩
end
end Go.Proofs.Ytlmidbmmnjnagaa

/- The contracts of the reference's element, natural and Parsed. -/
import Derived.Test.YtlmidbmmnjnagaaElem
namespace Go.Proofs.Ytlmidbmmnjnagaa
open Go.RowKit

attribute [local go_sem ↓] sliced_tl
attribute [local go_sem] tl_zero

theorem refHead_eq {l k : Nat} {y : Int} {r : List Int} (hb : ∀ x ∈ y :: r, 0 ≤ x ∧ x ≤ 255) (hk : (y :: r).length = k) (hk4 : k ≤ 4) (hy : y ≠ 0) : refHead l k (num (y :: r)) = longHead l k (num (y :: r)) := by
  have h := num_top (y := y) (r := r) (fun x hx => hb x (by simp [hx])) (by simp at hk; omega)
  rw [hk] at h
  unfold refHead longHead
  rw [h]
  simp [hy]
theorem longHead_nought {l k : Nat} {r : List Int} (hb : ∀ x ∈ (0 : Int) :: r, 0 ≤ x ∧ x ≤ 255) (hk : ((0 : Int) :: r).length = k) (hk4 : k ≤ 4) : longHead l k (num (0 :: r)) = none := by
  have h := num_top (y := 0) (r := r) (fun x hx => hb x (by simp [hx])) (by simp at hk; omega)
  rw [hk] at h
  unfold longHead
  rw [if_pos (.inr (.inl h))]

section
variable {l c B : Nat} {A : Option Addr} {xs : List Int} {tag : Int} {w : World}

/-- what the reference's element gives -/
def RefElem (B : Nat) (o : Option (List Int × List Int)) (w : World) (e : Ending) (w' : World) : Prop :=
  Below w.heap.size w w' ∧ match o with
    | none => e = .returned (.tuple #[.slice none 0 0, .slice none 0 0, .bool false])
    | some (x, rest) => ∃ A1 c1 A2 c2, e = .returned (.tuple #[.slice A1 x.length c1, .slice A2 rest.length c2, .bool true]) ∧ x.length ≤ c1 ∧ rest.length ≤ c2 ∧ Rd w' B A1 x ∧ Rd w' B A2 rest

theorem RefElem.no {e : Ending} {w' : World} {a : Addr} (h : elem tag xs = none) (hp : RefPost l c a none w e w') : RefElem B (elem tag xs) w e w' := by
  rw [h]
  exact hp
theorem RefElem.of_post {a : Addr} {e : Ending} {w' : World} (hr : Rd w B A xs) (hA : A = some a) (hBw : B ≤ w.heap.size) (hn : xs.length = l) (hlc : l ≤ c) (ht : xs.headD 0 = tag) (h : RefPost l c a (hdr xs) w e w') :
    RefElem B (elem tag xs) w e w' := by
  obtain ⟨hb, hm⟩ := h
  refine ⟨hb, ?_⟩
  unfold elem
  rw [if_pos ht]
  cases hh : hdr xs with
  | none => rw [hh] at hm; exact hm
  | some p =>
    obtain ⟨h, n⟩ := p
    rw [hh] at hm
    have hle := hdr_le hh
    rw [hn] at hle
    have e1 : (xs.drop (h + n)).length = l - (h + n) := by rw [List.length_drop, hn]
    have e2 : ((xs.drop h).take n).length = n := by rw [List.length_take, List.length_drop, hn]; omega
    have hr' : Rd w' B A xs := hr.below (hb.mono hBw)
    refine ⟨tl (some a) h c 1, c - h, tl (some a) (h + n) c 1, c - (h + n), ?_, ?_, ?_, ?_, ?_⟩
    · show e = .returned (.tuple #[.slice _ ((xs.drop h).take n).length _, .slice _ (xs.drop (h + n)).length _, _])
      rw [e1, e2]; exact hm
    · show ((xs.drop h).take n).length ≤ _
      omega
    · show (xs.drop (h + n)).length ≤ _
      omega
    · rw [← hA]; exact (hr'.cut (by rw [hn]; exact hlc)).take n
    · rw [← hA]; exact hr'.cut (by rw [hn]; exact hlc)

theorem element_any (hr : Rd w B A xs) (hBw : B ≤ w.heap.size) (hn : xs.length = l) (hlc : l ≤ c) (hl : l ≤ 65536) (ht : tag % 32 ≠ 31) :
    Calls Try.prog 11 #[.int .u8 tag, .slice A l c] w (RefElem B (elem tag xs) w) := by
  match xs, hn, hr with
  | [], hn, hr => exact (element_tiny (a := default) (by simp at hn; omega)).mono fun e w' h => .no (by simp [elem, hdr]) h
  | [x0], hn, hr => exact (element_tiny (a := default) (by simp at hn; omega)).mono fun e w' h => .no (by simp [elem, hdr]) h
  | x0 :: x1 :: r, hn, hr =>
    obtain ⟨b, off, hA, hbB, hcell⟩ := hr.at_ (by simp)
    have hc0 := hcell 0 x0 rfl
    have hc1 := hcell 1 x1 rfl
    rw [Nat.add_zero] at hc0
    have hb1 := hr.byte (i := 1) (x := x1) rfl
    have hl2 : 2 ≤ l := by rw [← hn]; simp
    by_cases ht0 : x0 = tag
    · subst ht0
      have go : ∀ {o : Option (Nat × Nat)}, hdr (x0 :: x1 :: r) = o → Calls Try.prog 11 #[.int .u8 x0, .slice A l c] w (RefPost l c ⟨b, off, none⟩ o w) → Calls Try.prog 11 #[.int .u8 x0, .slice A l c] w (RefElem B (elem x0 (x0 :: x1 :: r)) w) := by
        intro o ho hc
        exact hc.mono fun e w' h => RefElem.of_post hr hA hBw hn hlc rfl (by rw [ho]; exact h)
      rw [hA]
      rw [hA] at go
      by_cases h128 : x1 < 128
      · obtain ⟨m, rfl⟩ := Int.eq_ofNat_of_zero_le hb1.1
        by_cases hfit : m + 2 ≤ l
        · refine go ?_ (element_short hlc hc0 hc1 (by omega) hfit hl)
          unfold hdr
          simp only []
          rw [if_neg ht, if_pos h128, if_pos (by rw [hn]; simpa using hfit)]
          simp
        · refine go ?_ (element_short_no hc0 hc1 (by omega) hl2 (by omega) hl)
          unfold hdr
          simp only []
          rw [if_neg ht, if_pos h128, if_neg (by rw [hn]; simpa using hfit)]
      · obtain ⟨k, hk⟩ : ∃ k : Nat, x1 = (k : Int) + 128 := ⟨(x1 - 128).toNat, by omega⟩
        subst hk
        have ek : ((k : Int) + 128 - 128).toNat = k := by omega
        by_cases hkb : k < 1 ∨ 4 < k
        · refine go ?_ (element_len hc0 hc1 (by omega) hl2 hkb)
          unfold hdr
          simp only []
          rw [if_neg ht, if_neg h128, if_pos]
          rcases hkb with h | h
          · exact .inl (by omega)
          · exact .inr (.inl (by omega))
        · by_cases hlk : l < k + 2
          · exact go (by unfold hdr; simp only []; rw [if_neg ht, if_neg h128, if_pos (.inr (.inr (by rw [ek, hn]; omega)))]) (element_cut hc0 hc1 (by omega) (by omega) hl2 hlk)
          · have hyl : (r.take k).length = k := by
              rw [List.length_take]
              simp at hn
              omega
            have hdrE : hdr (x0 :: ((k : Int) + 128) :: r) = longHead l k (num (r.take k)) := by
              unfold hdr
              simp only []
              rw [if_neg ht, if_neg h128, if_neg (by rw [ek, hn]; omega), ek, hn]
            have hyb : ∀ x ∈ r.take k, 0 ≤ x ∧ x ≤ 255 := fun x hx => hr.1 x (by simp [List.mem_of_mem_take hx])
            have hys : ∀ i x, (r.take k)[i]? = some x → w.cell? ⟨b, off + 2 + i, none⟩ = some (.int .u8 x) := by
              intro i x hx
              rw [Nat.add_assoc]
              refine hcell (2 + i) x ?_
              rw [List.getElem?_take] at hx
              split at hx
              · rw [Nat.add_comm 2 i]; simpa using hx
              · cases hx
            cases hy : r.take k with
            | nil => rw [hy] at hyl; simp at hyl; omega
            | cons y rr =>
              rw [hy] at hyl hdrE hyb hys
              have hc2 := hys 0 y rfl
              rw [Nat.add_zero] at hc2
              by_cases hy0 : y = 0
              · subst hy0
                exact go (hdrE.trans (longHead_nought hyb hyl (by omega))) (element_nought hc0 hc1 hc2 (by omega) (by omega) (by omega))
              · exact go (hdrE.trans (refHead_eq hyb hyl (by omega) hy0).symm) (element_long rfl hlc hc0 hc1 hc2 hy0 hys hyb hyl (by omega) (by omega) (by omega) hl)
    · rw [hA]
      exact (element_other hl2 hc0 ht0).mono fun e w' h => .no (by simp [elem, ht0]) h

theorem natural_any (hr : Rd w B A xs) (hBw : B ≤ w.heap.size) (hn : xs.length = l) (hlc : l ≤ c) (hl : l ≤ 65536) :
    Calls Try.prog 12 #[.slice A l c] w (RefElem B (natural xs) w) := by
  have HC := hide (element_any (tag := 2) hr hBw hn hlc hl (by decide))
  have hn' := hide hn
  clear hr hn
  go_enter Try.func12, Try.ntmps12
  go_wp2_with fail
  refine HC.out.mono ?_
  rintro e w1 ⟨hb, hm⟩
  have HB := hide hb
  clear hb
  cases hh : elem 2 xs with
  | none =>
    have HH : Hid (natural xs = none) := hide (by simp [natural, hh])
    rw [hh] at hm
    obtain rfl := hm
    clear hh
    go_wp2_with fail
    go_ret3
    refine ⟨HB.out, ?_⟩
    rw [HH.out]
    rfl
  | some p =>
    obtain ⟨x, rest⟩ := p
    rw [hh] at hm
    obtain ⟨A1, c1, A2, c2, rfl, l1, l2, r1, r2⟩ := hm
    have HN : Hid (natural xs = (natOf x).map fun y => (y, rest)) := hide (by simp [natural, hh])
    have R1 := hide r1
    have R2 := hide r2
    have HXle := elem_length hh
    rw [hn'.out] at HXle
    clear hh
    obtain ⟨n, hnx⟩ : ∃ n, x.length = n := ⟨_, rfl⟩
    rw [hnx] at l1 HXle
    have HNx := hide hnx
    obtain ⟨nr, hnr⟩ : ∃ n, rest.length = n := ⟨_, rfl⟩
    rw [hnr] at l2
    have HNr := hide hnr
    rw [hnx, hnr]
    by_cases h0 : n = 0
    · have HH : Hid (natural xs = none) := hide (by rw [HN.out, List.eq_nil_of_length_eq_zero (hnx.trans h0)]; rfl)
      clear hnx hnr
      subst h0
      go_wp2_with fail
      go_ret3
      refine ⟨HB.out, ?_⟩
      rw [HH.out]
      rfl
    · obtain ⟨a, ha⟩ : ∃ a, x[0]? = some a := ⟨_, List.getElem?_eq_getElem (show 0 < x.length by omega)⟩
      obtain ⟨g, off, rfl, hgB, hcell⟩ := R1.out.at_ (show 0 < x.length by omega)
      have hc0 := hcell 0 a ha
      rw [Nat.add_zero] at hc0
      have hab := R1.out.byte ha
      have HCell := hide hcell
      have HA := hide ha
      clear hcell ha hnx hnr
      have e0 : ((n : Int) == 0) = false := by rw [beq_eq_false_iff_ne]; omega
      by_cases h128 : 128 ≤ a
      · have HH : Hid (natural xs = none) := hide (by rw [HN.out, natOf_high HA.out h128]; rfl)
        go_wp2_with fail
        go_ret3
        refine ⟨HB.out, ?_⟩
        rw [HH.out]
        rfl
      · by_cases h1 : n = 1
        · have HH : Hid (natural xs = some (x, rest)) := hide (by rw [HN.out, natOf_one (HNx.out.trans h1) HA.out h128]; rfl)
          have e1 : (((1 : Nat) : Int) == 0) = false := by decide
          subst h1
          by_cases ha0 : a = 0
          · subst ha0
            go_wp2_with fail
            go_ret3
            refine ⟨HB.out, ?_⟩
            rw [HH.out]
            exact ⟨_, c1, _, c2, by rw [HNx.out, HNr.out]; rfl, by rw [HNx.out]; exact l1, by rw [HNr.out]; exact l2, R1.out, R2.out⟩
          · have ea : (a == 0) = false := by rw [beq_eq_false_iff_ne]; exact ha0
            go_wp2_with fail
            go_ret3
            refine ⟨HB.out, ?_⟩
            rw [HH.out]
            exact ⟨_, c1, _, c2, by rw [HNx.out, HNr.out]; rfl, by rw [HNx.out]; exact l1, by rw [HNr.out]; exact l2, R1.out, R2.out⟩
        · by_cases ha0 : a = 0
          · subst ha0
            obtain ⟨b, hb⟩ : ∃ b, x[1]? = some b := ⟨_, List.getElem?_eq_getElem (show 1 < x.length by rw [HNx.out]; omega)⟩
            have hc1 := HCell.out 1 b hb
            have hbb := R1.out.byte hb
            have hno := natOf_two (show 2 ≤ x.length by rw [HNx.out]; omega) HA.out hb
            by_cases hb128 : b < 128
            · have HH : Hid (natural xs = none) := hide (by rw [HN.out, hno, if_pos hb128]; rfl)
              clear hno hb
              go_wp2_with fail
              go_ret3
              refine ⟨HB.out, ?_⟩
              rw [HH.out]
              rfl
            · have HH : Hid (natural xs = some (x.drop 1, rest)) := hide (by rw [HN.out, hno, if_neg hb128]; rfl)
              have HL1 : Hid ((x.drop 1).length = n - 1) := hide (by rw [List.length_drop, HNx.out])
              clear hno hb
              go_wp2_with fail
              go_ret3
              refine ⟨HB.out, ?_⟩
              rw [HH.out]
              exact ⟨tl (some ⟨g, off, none⟩) 1 c1 1, c1 - 1, _, c2, by rw [HL1.out, HNr.out]; rfl, by rw [HL1.out]; omega, by rw [HNr.out]; exact l2, R1.out.cut (by rw [HNx.out]; exact l1), R2.out⟩
          · have HH : Hid (natural xs = some (x, rest)) := hide (by rw [HN.out, natOf_low HA.out h128 ha0]; rfl)
            have ea : (a == 0) = false := by rw [beq_eq_false_iff_ne]; exact ha0
            go_wp2_with fail
            go_ret3
            refine ⟨HB.out, ?_⟩
            rw [HH.out]
            exact ⟨_, c1, _, c2, by rw [HNx.out, HNr.out]; rfl, by rw [HNx.out]; exact l1, by rw [HNr.out]; exact l2, R1.out, R2.out⟩

/-- what the reference's Parsed gives: where it answers false nothing is said of what else it hands back but that these are slices that can be read -/
def RefSig (B : Nat) (xs : List Int) (w : World) (e : Ending) (w' : World) : Prop :=
  Below w.heap.size w w' ∧ ∃ (r s : List Int) (A1 A2 : Option Addr) (c1 c2 : Nat),
    e = .returned (.tuple #[.slice A1 r.length c1, .slice A2 s.length c2, .bool (parsed xs).isSome]) ∧ r.length ≤ c1 ∧ s.length ≤ c2 ∧ Rd w' B A1 r ∧ Rd w' B A2 s ∧ ((parsed xs).isSome = true → parsed xs = some (r, s))
theorem RefSig.mk' {r s : List Int} {A1 A2 : Option Addr} {c1 c2 : Nat} {o : Bool} {e : Ending} {w' : World} (hb : Below w.heap.size w w') (ho : (parsed xs).isSome = o) (he : e = .returned (.tuple #[.slice A1 r.length c1, .slice A2 s.length c2, .bool o]))
    (h1 : r.length ≤ c1) (h2 : s.length ≤ c2) (h3 : Rd w' B A1 r) (h4 : Rd w' B A2 s) (h5 : o = true → parsed xs = some (r, s)) : RefSig B xs w e w' := by
  subst ho
  exact ⟨hb, r, s, A1, A2, c1, c2, he, h1, h2, h3, h4, h5⟩

theorem Parsed_any (hr : Rd w B A xs) (hBw : B ≤ w.heap.size) (hn : xs.length = l) (hlc : l ≤ c) (hl : l ≤ 65536) :
    Calls Try.prog 5 #[.slice A l c] w (RefSig B xs w) := by
  have HC := hide (element_any (tag := 48) hr hBw hn hlc hl (by decide))
  have hn' := hide hn
  clear hr hn
  go_enter Try.func5, Try.ntmps5
  go_wp2_with fail
  refine HC.out.mono ?_
  rintro e w1 ⟨hb, hm⟩
  have HB := hide hb
  have hz1 := hb.size
  clear hb
  cases hh : elem 48 xs with
  | none =>
    have HH := hide (parsed_elem_none hh)
    rw [hh] at hm
    obtain rfl := hm
    clear hh
    go_wp2_with fail
    go_ret3
    exact .mk' (r := []) (s := []) HB.out (by rw [HH.out]; rfl) rfl (by simp) (by simp) (Rd.nil _ _ _) (Rd.nil _ _ _) (by simp)
  | some p =>
    obtain ⟨x, rest⟩ := p
    rw [hh] at hm
    obtain ⟨A1, c1, A2, c2, rfl, l1, l2, r1, r2⟩ := hm
    have HE := hide hh
    have R1 := hide r1
    have HXle := elem_length hh
    rw [hn'.out] at HXle
    clear hh r1 r2
    obtain ⟨n, hnx⟩ : ∃ n, x.length = n := ⟨_, rfl⟩
    rw [hnx] at l1 HXle
    have HNx := hide hnx
    obtain ⟨m, hm⟩ : ∃ n, rest.length = n := ⟨_, rfl⟩
    have HM := hide hm
    rw [hnx, hm]
    clear hnx hm l2
    by_cases hm0 : m = 0
    · have HE' : Hid (elem 48 xs = some (x, [])) := hide (by rw [HE.out, List.eq_nil_of_length_eq_zero (HM.out.trans hm0)])
      subst hm0
      go_wp2_with fail
      refine (natural_any (c := c1) R1.out (by omega) HNx.out l1 (by omega)).mono ?_
      rintro e w2 ⟨hb2, hm2⟩
      have HB2 := hide (HB.out.trans (hb2.mono hz1))
      have hz2 := hb2.size
      clear hb2
      cases hh : natural x with
      | none =>
        have HH := hide (parsed_one_none HE'.out hh)
        rw [hh] at hm2
        obtain rfl := hm2
        clear hh
        go_wp2_with fail
        refine (natural_any (xs := []) (l := 0) (B := B) (Rd.nil _ _ _) (by omega) rfl (by omega) (by omega)).mono ?_
        rintro e w3 ⟨hb3, hm3⟩
        have HB3 := hide (HB2.out.trans (hb3.mono (by omega)))
        clear hb3
        rw [show natural [] = none from rfl] at hm3
        obtain rfl := hm3
        go_wp2_with fail
        go_ret3
        exact .mk' (r := []) (s := []) HB3.out (by rw [HH.out]; rfl) rfl (by simp) (by simp) (Rd.nil _ _ _) (Rd.nil _ _ _) (by simp)
      | some q =>
        obtain ⟨r, y⟩ := q
        have HN1 := hide hh
        have HYl := (natural_both hh).2
        rw [HNx.out] at HYl
        rw [hh] at hm2
        obtain ⟨A3, c3, A4, c4, rfl, l3, l4, r3, r4⟩ := hm2
        have R3 := hide r3
        have R4 := hide r4
        clear hh r3 r4
        obtain ⟨nr, hnr⟩ : ∃ n, r.length = n := ⟨_, rfl⟩
        have HNr := hide hnr
        obtain ⟨ny, hny⟩ : ∃ n, y.length = n := ⟨_, rfl⟩
        have HNy := hide hny
        rw [hnr] at l3
        rw [hny] at l4 HYl
        rw [hnr, hny]
        clear hnr hny
        go_wp2_with fail
        refine (natural_any (c := c4) R4.out (by omega) HNy.out l4 (by omega)).mono ?_
        rintro e w3 ⟨hb3, hm3⟩
        have HR3 := hide (R3.out.below (hb3.mono (by omega)))
        have HB3 := hide (HB2.out.trans (hb3.mono (by omega)))
        clear hb3
        cases hh : natural y with
        | none =>
          have HH := hide (parsed_two_none HE'.out HN1.out hh)
          rw [hh] at hm3
          obtain rfl := hm3
          clear hh
          go_wp2_with fail
          go_ret3
          exact .mk' (r := r) (s := []) (A1 := A3) (c1 := c3) HB3.out (by rw [HH.out]) (by rw [HNr.out]; rfl) (by rw [HNr.out]; exact l3) (by simp) HR3.out (Rd.nil _ _ _) (by simp)
        | some q =>
          obtain ⟨s, z⟩ := q
          have HN2 := hide hh
          rw [hh] at hm3
          obtain ⟨A5, c5, A6, c6, rfl, l5, l6, r5, r6⟩ := hm3
          have R5 := hide r5
          clear hh r5 r6
          obtain ⟨ns, hns⟩ : ∃ n, s.length = n := ⟨_, rfl⟩
          have HNs := hide hns
          obtain ⟨nz, hnz⟩ : ∃ n, z.length = n := ⟨_, rfl⟩
          have HNz := hide hnz
          rw [hns] at l5
          rw [hns, hnz]
          clear hns hnz l6
          by_cases hz0 : nz = 0
          · have HYes : Hid (parsed xs = some (r, s)) := hide (parsed_yes HE'.out HN1.out (by rw [HN2.out, List.eq_nil_of_length_eq_zero (HNz.out.trans hz0)]))
            subst hz0
            go_wp2_with fail
            go_ret3
            exact .mk' (r := r) (s := s) (A1 := A3) (c1 := c3) (A2 := A5) (c2 := c5) HB3.out (by rw [HYes.out]) (by rw [HNr.out, HNs.out]; rfl) (by rw [HNr.out]; exact l3) (by rw [HNs.out]; exact l5) HR3.out R5.out (fun _ => HYes.out)
          · have HH := hide (parsed_end HE'.out HN1.out HN2.out (by intro h; have h2 := HNz.out; rw [h] at h2; simp at h2; omega))
            have ez : ((nz : Int) == 0) = false := by rw [beq_eq_false_iff_ne]; omega
            go_wp2_with fail
            go_ret3
            exact .mk' (r := r) (s := s) (A1 := A3) (c1 := c3) (A2 := A5) (c2 := c5) HB3.out (by rw [HH.out]) (by rw [HNr.out, HNs.out]; rfl) (by rw [HNr.out]; exact l3) (by rw [HNs.out]; exact l5) HR3.out R5.out (by simp)
    · have HH := hide (parsed_behind HE.out (by intro h; have h2 := HM.out; rw [h] at h2; simp at h2; omega))
      go_wp2_with fail
      go_ret3
      exact .mk' (r := []) (s := []) HB.out (by rw [HH.out]; rfl) rfl (by simp) (by simp) (Rd.nil _ _ _) (Rd.nil _ _ _) (by simp)
end
end Go.Proofs.Ytlmidbmmnjnagaa

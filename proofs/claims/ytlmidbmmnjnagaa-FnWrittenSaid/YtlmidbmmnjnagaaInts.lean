/- The walks of cryptobyte's checkASN1Integer and readASN1Bytes: an integer that is not below 0. -/
import Derived.Test.YtlmidbmmnjnagaaRead
import Derived.Test.YtlmidbmmnjnagaaPlain2
namespace Go.Proofs.Ytlmidbmmnjnagaa
open Go.RowKit

attribute [local go_sem ↓] sliced_tl
attribute [local go_sem] tl_zero

section
variable {P Q T l c B : Nat} {A : Option Addr} {xs : List Int} {tag : Int} {uq ut : Value} {w : World}

theorem check_any (hr : Rd w B A xs) (hn : xs.length = l) :
    Calls Try.prog 36 #[.slice A l c] w fun e w' => e = .returned (.bool (minimal xs)) ∧ w = w' := by
  subst hn
  match xs, hr with
  | [], hr =>
    go_enter Try.func36, Try.ntmps36
    go_wp2
    go_ret
    exact ⟨rfl, rfl⟩
  | [a], hr =>
    go_enter Try.func36, Try.ntmps36
    go_wp2
    go_ret
    exact ⟨rfl, rfl⟩
  | a :: b :: r, hr =>
    obtain ⟨g, off, rfl, hbB, hcell⟩ := hr.at_ (by simp)
    have hc0 := hcell 0 a rfl
    have hc1 := hcell 1 b rfl
    rw [Nat.add_zero] at hc0
    have hb0 := hr.byte (i := 0) (x := a) rfl
    have hb1 := hr.byte (i := 1) (x := b) rfl
    obtain ⟨l, hl⟩ : ∃ l, (a :: b :: r).length = l := ⟨_, rfl⟩
    have hl2 : 2 ≤ l := by rw [← hl]; simp
    rw [hl]
    have e0 : ((l : Int) == 0) = false := by rw [beq_eq_false_iff_ne]; omega
    have e1 : ((l : Int) == 1) = false := by rw [beq_eq_false_iff_ne]; omega
    have e2 : (bits BinOp.and IntKind.u8 b 128 == 0) = decide (b < 128) := by
      rw [u8_and128 (by omega) (by omega)]; by_cases h : b < 128 <;> simp [h]
    have e3 : (bits BinOp.and IntKind.u8 b 128 == 128) = decide (128 ≤ b) := by
      rw [u8_and128 (by omega) (by omega)]; by_cases h : b < 128
      · simp [h]
      · simp [h]; omega
    clear hcell hr hl
    have HM : Hid (minimal (a :: b :: r) = !(decide (a = 0) && decide (b < 128) || decide (a = 255) && decide (128 ≤ b))) := hide rfl
    by_cases ha : a = 0
    · subst ha
      by_cases hb : b < 128
      · have d : decide (b < 128) = true := by simpa using hb
        go_enter Try.func36, Try.ntmps36
        go_wp2
        go_ret
        exact ⟨by rw [HM.out]; simp [hb], rfl⟩
      · have d : decide (b < 128) = false := by simpa using hb
        go_enter Try.func36, Try.ntmps36
        go_wp2
        go_ret
        exact ⟨by rw [HM.out]; simp; omega, rfl⟩
    · have d0 : (a == 0) = false := by rw [beq_eq_false_iff_ne]; exact ha
      by_cases ha' : a = 255
      · subst ha'
        by_cases hb : b < 128
        · have d : decide (128 ≤ b) = false := by simpa using hb
          go_enter Try.func36, Try.ntmps36
          go_wp2
          go_ret
          exact ⟨by rw [HM.out]; simp; omega, rfl⟩
        · have d : decide (128 ≤ b) = true := by simp; omega
          go_enter Try.func36, Try.ntmps36
          go_wp2
          go_ret
          exact ⟨by rw [HM.out]; simp; omega, rfl⟩
      · have d1 : (a == 255) = false := by rw [beq_eq_false_iff_ne]; exact ha'
        go_enter Try.func36, Try.ntmps36
        go_wp2
        go_ret
        exact ⟨by rw [HM.out]; simp [ha, ha'], rfl⟩

/-- what readASN1Bytes leaves -/
def NatPost (P Q B : Nat) (xs : List Int) (w : World) (e : Ending) (w' : World) : Prop :=
  Keeps [P, Q] w w' ∧ match natural xs with
    | none => e = .returned (.bool false) ∧ ∃ u, Box w' Q 22 u
    | some (x, rest) => e = .returned (.bool true) ∧ ∃ A1 c1 A2 c2, Box w' P 40 (.slice A1 rest.length c1) ∧ rest.length ≤ c1 ∧ Rd w' B A1 rest ∧ Box w' Q 22 (.slice A2 x.length c2) ∧ x.length ≤ c2 ∧ Rd w' B A2 x

theorem NatPost.no {e : Ending} {w' : World} (hn : natural xs = none) (he : e = .returned (.bool false)) (hk : Keeps [P, Q] w w') (hq : Box w' Q 22 uq) : NatPost P Q B xs w e w' := ⟨hk, by rw [hn]; exact ⟨he, _, hq⟩⟩
theorem NatPost.yes {e : Ending} {w' : World} {x rest : List Int} {A1 A2 : Option Addr} {c1 c2 : Nat} (hn : natural xs = some (x, rest)) (he : e = .returned (.bool true)) (hk : Keeps [P, Q] w w')
    (h1 : Box w' P 40 (.slice A1 rest.length c1)) (h2 : rest.length ≤ c1) (h3 : Rd w' B A1 rest) (h4 : Box w' Q 22 (.slice A2 x.length c2)) (h5 : x.length ≤ c2) (h6 : Rd w' B A2 x) : NatPost P Q B xs w e w' :=
  ⟨hk, by rw [hn]; exact ⟨he, A1, c1, A2, c2, h1, h2, h3, h4, h5, h6⟩⟩

theorem readASN1Bytes_any (hr : Rd w B A xs) (hn : xs.length = l) (hp : Box w P 40 (.slice A l c)) (hq : Box w Q 22 uq)
    (hPQ : P ≠ Q) (hBP : B ≤ P) (hBQ : B ≤ Q) (hlc : l ≤ c) (hl : l ≤ 65536) :
    Calls Try.prog 29 #[.pointer (some ⟨P, 0, none⟩), .pointer (some ⟨Q, 0, none⟩)] w (NatPost P Q B xs w) := by
  have hPw := hp.lt
  have hQw := hq.lt
  have hr1 : Rd (w.alloc (.cells #[.slice none 0 0] 40)) B A xs := hr.below ((Below.refl _ _).alloc (by omega) _)
  have HC := hide (ReadASN1_any (tag := 2) hr1 hn (hp.alloc _) (Box.new w 40 (.slice none 0 0)) (by omega) hBP (by omega) hlc hl)
  have HK0 : Hid (Keeps [P, Q] w (w.alloc (.cells #[.slice none 0 0] 40))) := hide ((Keeps.refl _ _).alloc _)
  have HQ0 := hide (hq.alloc (.cells #[.slice none 0 0] 40))
  clear hr1 hn hr
  go_enter Try.func29, Try.ntmps29
  go_wp2_with fail
  refine HC.out.mono ?_
  rintro e w' ⟨hk, hm⟩
  have HK := hide (HK0.out.trans (S' := [P, w.heap.size]) hk (by intro i hi hm; simp at hm; simp; omega))
  have hq' := hk.box HQ0.out (by simp; omega)
  clear hk
  cases hh : elem 2 xs with
  | none =>
    rw [hh] at hm
    obtain rfl := hm
    have HH := hide hh
    clear hh
    go_wp2_with fail
    go_ret
    exact .no (by simp [natural, HH.out]) rfl HK.out hq'
  | some p =>
    obtain ⟨x, rest⟩ := p
    rw [hh] at hm
    obtain ⟨rfl, A1, c1, A2, c2, b1, b2, b3, b4, b5, b6⟩ := hm
    have HN : Hid (natural xs = (natOf x).map fun y => (y, rest)) := hide (by simp [natural, hh])
    have c4 := b4.cell
    have f4 := b4.free
    have cq := hq'.cell
    have fq := hq'.free
    clear hh
    have HB6 := hide b6
    cases hmin : minimal x with
    | false =>
      have hno : natOf x = none := natOf_of_not_minimal b6.1 hmin
      have HM : Hid (natural xs = none) := hide (by rw [HN.out, hno]; rfl)
      have HCk := hide (check_any (c := c2) b6 rfl)
      rw [hmin] at HCk
      clear hmin b6 hno
      go_wp2_with fail
      refine HCk.out.mono ?_
      rintro e w'' ⟨rfl, rfl⟩
      go_wp2_with fail
      go_ret
      exact .no HM.out rfl HK.out hq'
    | true =>
      have hx1 := minimal_pos hmin
      obtain ⟨a, ha⟩ : ∃ a, x[0]? = some a := ⟨_, List.getElem?_eq_getElem (show 0 < x.length by omega)⟩
      obtain ⟨n, hn⟩ : ∃ n, x.length = n := ⟨_, rfl⟩
      have HCk := hide (check_any (c := c2) b6 hn)
      rw [hmin] at HCk
      obtain ⟨g, off, rfl, hgB, hcell⟩ := b6.at_ hx1
      have hc0 := hcell 0 a ha
      rw [Nat.add_zero] at hc0
      have hab := b6.byte ha
      rw [hn] at c4 b4 b5 hx1
      have HNl := hide hn
      have HB4 := hide b4
      have HA := hide ha
      have HM0 := hide hmin
      have HCell := hide hcell
      clear hn b4 ha hmin b6 hcell
      by_cases h128 : 128 ≤ a
      · have HM : Hid (natural xs = none) := hide (by rw [HN.out, natOf_high HA.out h128]; rfl)
        have e3 : (bits BinOp.and IntKind.u8 a 128 == 128) = true := by rw [u8_and128_hi h128 (by omega)]; rfl
        go_wp2_with fail
        refine HCk.out.mono ?_
        rintro e w'' ⟨rfl, rfl⟩
        go_wp2_with fail
        go_ret
        exact .no HM.out rfl HK.out hq'
      · have e3 : (bits BinOp.and IntKind.u8 a 128 == 128) = false := by rw [u8_and128_lo hab.1 (by omega)]; rfl
        by_cases h1 : n = 1
        · subst h1
          have HM : Hid (natural xs = some (x, rest)) := hide (by rw [HN.out, natOf_one HNl.out HA.out h128]; rfl)
          go_wp2_with fail
          refine HCk.out.mono ?_
          rintro e w'' ⟨rfl, rfl⟩
          go_wp2_with fail
          refine wp_loop_rounds 1 ?_
          rw [rounds_succ]
          go_wp2_with fail
          go_ret
          exact .yes HM.out rfl (HK.out.setCell (by simp) _) (b1.far2 hPQ _) b2 (b3.below ((Below.refl _ _).setCell hBQ _)) (by rw [HNl.out]; exact hq'.set_ _) (by rw [HNl.out]; exact b5) (HB6.out.below ((Below.refl _ _).setCell hBQ _))
        · by_cases h0 : a = 0
          · subst h0
            obtain ⟨b, hb⟩ : ∃ b, x[1]? = some b := ⟨_, List.getElem?_eq_getElem (show 1 < x.length by rw [HNl.out]; omega)⟩
            obtain ⟨hy, hb128⟩ := natOf_nought (by rw [HNl.out]; omega) HA.out hb HM0.out
            have hc1 := HCell.out 1 b hb
            have e4 : (b == 0) = false := by rw [beq_eq_false_iff_ne]; omega
            have htl : tl (some ⟨g, off, none⟩) 1 c2 1 = some ⟨g, off + 1, none⟩ := by unfold tl; rw [if_neg (by omega)]; rfl
            have HM : Hid (natural xs = some (x.drop 1, rest)) := hide (by rw [HN.out, hy]; rfl)
            have HR1 : Hid (Rd w' B (some ⟨g, off + 1, none⟩) (x.drop 1)) := hide (by have h := HB6.out.cut (k := 1) (c := c2) (by rw [HNl.out]; exact b5); rw [htl] at h; exact h)
            have HL1 : Hid ((x.drop 1).length = n - 1) := hide (by rw [List.length_drop, HNl.out])
            clear hb hy
            go_wp2_with fail
            refine HCk.out.mono ?_
            rintro e w'' ⟨rfl, rfl⟩
            go_wp2_with fail
            refine wp_loop_rounds 2 ?_
            rw [rounds_succ]
            go_wp2_with fail
            rw [rounds_succ]
            go_wp2_with fail
            all_goals
              go_ret
              refine .yes HM.out rfl ((HK.out.setCell (.inr (Nat.le_refl _)) _).setCell (by simp) _) ((b1.far2 (by omega) _).far2 hPQ _) b2 (b3.below (((Below.refl _ _).setCell (by show B ≤ w.heap.size; omega) _).setCell hBQ _)) (c2 := c2 - 1) ?_ ?_ (HR1.out.below (((Below.refl _ _).setCell (by show B ≤ w.heap.size; omega) _).setCell hBQ _))
              · rw [HL1.out]; exact (hq'.far2 (by omega) _).set_ _
              · rw [HL1.out]; omega
          · have e4 : (a == 0) = false := by rw [beq_eq_false_iff_ne]; exact h0
            have HM : Hid (natural xs = some (x, rest)) := hide (by rw [HN.out, natOf_low HA.out h128 h0]; rfl)
            go_wp2_with fail
            refine HCk.out.mono ?_
            rintro e w'' ⟨rfl, rfl⟩
            go_wp2_with fail
            refine wp_loop_rounds 1 ?_
            rw [rounds_succ]
            go_wp2_with fail
            go_ret
            exact .yes HM.out rfl (HK.out.setCell (by simp) _) (b1.far2 hPQ _) b2 (b3.below ((Below.refl _ _).setCell hBQ _)) (by rw [HNl.out]; exact hq'.set_ _) (by rw [HNl.out]; exact b5) (HB6.out.below ((Below.refl _ _).setCell hBQ _))

theorem ReadASN1IntegerBytes_any (hr : Rd w B A xs) (hn : xs.length = l) (hp : Box w P 40 (.slice A l c)) (hq : Box w Q 22 uq)
    (hPQ : P ≠ Q) (hBP : B ≤ P) (hBQ : B ≤ Q) (hlc : l ≤ c) (hl : l ≤ 65536) :
    Calls Try.prog 22 #[.pointer (some ⟨P, 0, none⟩), .pointer (some ⟨Q, 0, none⟩)] w (NatPost P Q B xs w) := by
  have HC := hide (readASN1Bytes_any hr hn hp hq hPQ hBP hBQ hlc hl)
  go_enter Try.func22, Try.ntmps22
  go_wp2_with fail
  refine HC.out.mono ?_
  intro e w' h
  obtain ⟨bo, rfl⟩ : ∃ bo, e = .returned (.bool bo) := by
    obtain ⟨_, hm⟩ := h
    cases hh : natural xs with
    | none => rw [hh] at hm; exact ⟨_, hm.1⟩
    | some p => rw [hh] at hm; exact ⟨_, hm.1⟩
  have H := hide h
  clear h
  go_wp2_with fail
  go_ret
  exact H.out
end
end Go.Proofs.Ytlmidbmmnjnagaa

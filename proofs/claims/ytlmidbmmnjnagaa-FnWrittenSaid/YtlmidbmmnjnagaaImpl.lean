/- The walks of ZZParse and of the thin package's Parse. -/
import Derived.Test.YtlmidbmmnjnagaaParse
import Derived.Test.YtlmidbmmnjnagaaOwn
namespace Go.Proofs.Ytlmidbmmnjnagaa
open Go.RowKit

section
variable {l c B : Nat} {A : Option Addr} {xs : List Int} {w : World}

theorem ZZParse_any {R : Nat} (hR : w.heap.size = R) (hr : Rd w R A xs) (hn : xs.length = l) (hlc : l ≤ c) (hl : l ≤ 65536) :
    Calls Try.prog 13 #[.slice A l c] w (SigPost R xs w) := by
  have HC := hide (parse_any hR hr hn hlc hl)
  clear hr hn hR
  go_enter Try.func13, Try.ntmps13
  go_wp2_with fail
  refine HC.out.mono ?_
  intro e w' h
  obtain ⟨v0, v1, v2, rfl⟩ : ∃ v0 v1 v2, e = .returned (.tuple #[v0, v1, v2]) := by
    obtain ⟨_, hm⟩ := h
    cases hh : parsed xs with
    | none => rw [hh] at hm; obtain ⟨a, rfl⟩ := hm; exact ⟨_, _, _, rfl⟩
    | some p => rw [hh] at hm; obtain ⟨_, _, _, _, rfl, _⟩ := hm; exact ⟨_, _, _, rfl⟩
  have H := hide h
  clear h
  go_wp2_with fail
  go_ret3
  exact H.out

/-- what the thin package's Parse gives -/
def ParsePost (xs : List Int) (w : World) (e : Ending) (w' : World) : Prop :=
  Below w.heap.size w w' ∧ match parsed xs with
    | none => e = .returned (.tuple #[.slice none 0 0, .slice none 0 0, .bool false])
    | some (r, s) => ∃ A1 c1 A2 c2, e = .returned (.tuple #[.slice A1 r.length c1, .slice A2 s.length c2, .bool true]) ∧ r.length ≤ c1 ∧ s.length ≤ c2 ∧ Rd w' w'.heap.size A1 r ∧ Rd w' w'.heap.size A2 s

theorem Parse_any (hr : Rd w B A xs) (hn : xs.length = l) (hl : l ≤ 4096) :
    Calls Try.prog 6 #[.slice A l c] w (ParsePost xs w) := by
  have HNl := hide hn
  have HRr := hide hr
  clear hn hr
  go_enter Try.func6, Try.ntmps6
  go_wp2_with fail
  refine (copied_any (c := c) HRr.out HNl.out (by omega)).mono ?_
  rintro e w1 ⟨A1, c1, rfl, hc1, hb1, hr1⟩
  have HR1 := hide hr1
  have HB1 := hide hb1
  clear hr1 hb1
  go_wp2_with fail
  refine (ZZParse_any (c := c1) rfl HR1.out HNl.out hc1 (by omega)).mono ?_
  rintro e w2 ⟨hb2, hm⟩
  have HB2 := hide (HB1.out.trans (hb2.mono HB1.out.size))
  have HZ2 := hb2.size
  clear hb2
  cases hh : parsed xs with
  | none =>
    have HH := hide hh
    rw [hh] at hm
    obtain ⟨a, rfl⟩ := hm
    clear hh
    go_wp2_with fail
    go_ret3
    refine ⟨HB2.out, ?_⟩
    rw [HH.out]
    rfl
  | some p =>
    obtain ⟨r, s⟩ := p
    have HH := hide hh
    have HPl := hide (parsed_length hh)
    rw [hh] at hm
    obtain ⟨A3, c3, A4, c4, rfl, l3, l4, r3, r4⟩ := hm
    have HR3 := hide r3
    have HR4 := hide r4
    clear hh r3 r4
    obtain ⟨nr, hnr⟩ : ∃ n, r.length = n := ⟨_, rfl⟩
    obtain ⟨ns, hns⟩ : ∃ n, s.length = n := ⟨_, rfl⟩
    rw [hnr, hns] at HPl
    rw [hnr] at l3 ⊢
    rw [hns] at l4 ⊢
    have HNr := hide hnr
    have HNs := hide hns
    have hpl := HPl.out
    rw [HNl.out] at hpl
    clear hnr hns
    go_wp2_with fail
    refine (copied_any (c := c3) HR3.out HNr.out (by omega)).mono ?_
    rintro e w3 ⟨A5, c5, rfl, hc5, hb3, r5⟩
    have HR5 := hide r5
    have HB3 := hide hb3
    clear r5 hb3
    go_wp2_with fail
    refine (copied_any (c := c4) ((HR4.out.more HZ2).below HB3.out) HNs.out (by omega)).mono ?_
    rintro e w4 ⟨A6, c6, rfl, hc6, hb4, r6⟩
    have HR6 := hide r6
    have HB4 := hide hb4
    clear r6 hb4
    go_wp2_with fail
    go_ret3
    refine ⟨(HB2.out.trans (HB3.out.mono (by have := HB2.out.size; omega))).trans (HB4.out.mono (by have := HB2.out.size; have := HB3.out.size; omega)), ?_⟩
    rw [HH.out]
    exact ⟨A5, c5, A6, c6, by rw [HNr.out, HNs.out]; rfl, by rw [HNr.out]; exact hc5, by rw [HNs.out]; exact hc6, (HR5.out.below HB4.out).more HB4.out.size, HR6.out⟩
end
end Go.Proofs.Ytlmidbmmnjnagaa

/- The walks of cryptobyte's ReadASN1 and of what stands on it: an element of a tag, an integer's bytes. -/
import Derived.Test.YtlmidbmmnjnagaaAsn
namespace Go.Proofs.Ytlmidbmmnjnagaa
open Go.RowKit

attribute [local go_sem ↓] sliced_tl
attribute [local go_sem] tl_zero

theorem longHead_le {l k h n : Nat} {N : Int} (hh : longHead l k N = some (h, n)) : h + n ≤ l := by
  unfold longHead at hh
  split at hh
  · cases hh
  · rename_i hc
    simp only [Option.some.injEq, Prod.mk.injEq] at hh
    obtain ⟨rfl, rfl⟩ := hh
    have h1 : ¬ N < 128 := fun x => hc (.inl x)
    have h2 : ¬ (l : Int) < 2 + k + N := fun x => hc (.inr (.inr x))
    omega
theorem hdr_le {xs : List Int} {h n : Nat} (hh : hdr xs = some (h, n)) : h + n ≤ xs.length := by
  unfold hdr at hh
  split at hh
  · split at hh
    · cases hh
    · split at hh
      · split at hh
        · simp only [Option.some.injEq, Prod.mk.injEq] at hh
          obtain ⟨rfl, rfl⟩ := hh
          rename_i hc
          omega
        · cases hh
      · split at hh
        · cases hh
        · exact longHead_le hh
  · cases hh

/-- what ReadASN1 leaves -/
def ElemPost (P Q B : Nat) (tag : Int) (xs : List Int) (w : World) (e : Ending) (w' : World) : Prop :=
  Keeps [P, Q] w w' ∧ match elem tag xs with
    | none => e = .returned (.bool false)
    | some (x, rest) => e = .returned (.bool true) ∧ ∃ A1 c1 A2 c2, Box w' P 40 (.slice A1 rest.length c1) ∧ rest.length ≤ c1 ∧ Rd w' B A1 rest ∧ Box w' Q 40 (.slice A2 x.length c2) ∧ x.length ≤ c2 ∧ Rd w' B A2 x

section
variable {P Q T l c B : Nat} {A : Option Addr} {xs : List Int} {tag : Int} {uq ut : Value} {w : World}

theorem ReadAnyASN1_any (hr : Rd w B A xs) (hn : xs.length = l) (hp : Box w P 40 (.slice A l c)) (hq : Box w Q 40 uq) (ht : Box w T 43 ut)
    (hPQ : P ≠ Q) (hPT : P ≠ T) (hQT : Q ≠ T) (hBT : B ≤ T) (hBw : B ≤ w.heap.size) (hlc : l ≤ c) (hl : l ≤ 65536) :
    Calls Try.prog 28 #[.pointer (some ⟨P, 0, none⟩), .pointer (some ⟨Q, 0, none⟩), .pointer (some ⟨T, 0, none⟩)] w
      fun e w' => ∃ a, (hdr xs ≠ none → A = some a) ∧ AsnPost P Q T l c a (xs.headD 0) (hdr xs) w e w' := by
  have HC := hide (readASN1_any hr hn hp hq ht hPQ hPT hQT hBT hBw hlc hl)
  go_enter Try.func28, Try.ntmps28
  go_wp2_with fail
  refine HC.out.mono ?_
  intro e w' h
  obtain ⟨bo, rfl⟩ : ∃ bo, e = .returned (.bool bo) := by
    obtain ⟨a, _, _, hm⟩ := h
    cases hh : hdr xs with
    | none => rw [hh] at hm; exact ⟨_, hm⟩
    | some p => rw [hh] at hm; exact ⟨_, hm.1⟩
  have H := hide h
  clear h
  go_wp2_with fail
  go_ret
  exact H.out

theorem ReadASN1_any (hr : Rd w B A xs) (hn : xs.length = l) (hp : Box w P 40 (.slice A l c)) (hq : Box w Q 40 uq)
    (hPQ : P ≠ Q) (hBP : B ≤ P) (hBQ : B ≤ Q) (hlc : l ≤ c) (hl : l ≤ 65536) :
    Calls Try.prog 20 #[.pointer (some ⟨P, 0, none⟩), .pointer (some ⟨Q, 0, none⟩), .int .u8 tag] w (ElemPost P Q B tag xs w) := by
  have hPw := hp.lt
  have hQw := hq.lt
  have hr1 : Rd (w.alloc (.cells #[.int .u8 0] 43)) B A xs := hr.below ((Below.refl _ _).alloc (by omega) _)
  have HC := hide (ReadAnyASN1_any hr1 hn (hp.alloc _) (hq.alloc _) (Box.new w 43 (.int .u8 0)) hPQ (by omega) (by omega) (by omega) (by simp; omega) hlc hl)
  have k0 : Keeps [P, Q] w (w.alloc (.cells #[.int .u8 0] 43)) := (Keeps.refl _ _).alloc _
  obtain ⟨x0, hx0⟩ : ∃ x0, xs.headD 0 = x0 := ⟨_, rfl⟩
  have HX0 := hide hx0
  have HK0 := hide k0
  have HR1 := hide hr1
  have HN := hide hn
  clear hx0 k0 hr1 hn hr
  go_enter Try.func20, Try.ntmps20
  go_wp2_with fail
  refine HC.out.mono ?_
  rintro e w' ⟨a, ha, hk, hm⟩
  have hk' : Keeps [P, Q] w w' := HK0.out.trans hk (by simp; omega)
  have hr' : Rd w' B A xs := HR1.out.below (hk.below (by simp; omega) (by simp; omega))
  clear hk
  have HK := hide hk'
  have HR := hide hr'
  have HA := hide ha
  clear hk' hr' ha
  cases hh : hdr xs with
  | none =>
    rw [hh] at hm
    obtain rfl := hm
    have HH := hide hh
    clear hh
    go_wp2_with fail
    go_ret
    refine ⟨HK.out, ?_⟩
    rw [show elem tag xs = none by simp [elem, HH.out]]
    rfl
  | some p =>
    obtain ⟨h, n⟩ := p
    rw [hh] at hm
    obtain ⟨rfl, b1, b2, b3⟩ := hm
    rw [HX0.out] at b3
    have c3 := b3.cell
    have HH := hide hh
    clear hh
    by_cases hxt : x0 = tag
    · have ht : (x0 != tag) = false := by simp [hxt]
      have HT := hide hxt
      clear hxt
      go_wp2_with fail
      go_ret
      refine ⟨HK.out, ?_⟩
      rw [show elem tag xs = some ((xs.drop h).take n, xs.drop (h + n)) by unfold elem; rw [HX0.out, if_pos HT.out, HH.out]; rfl]
      have hle := hdr_le HH.out
      rw [HN.out] at hle
      have e1 : (xs.drop (h + n)).length = l - (h + n) := by rw [List.length_drop, HN.out]
      have e2 : ((xs.drop h).take n).length = n := by rw [List.length_take, List.length_drop, HN.out]; omega
      refine ⟨rfl, tl (some a) (h + n) c 1, c - (h + n), tl (some a) h c 1, c - h, ?_, ?_, ?_, ?_, ?_, ?_⟩
      · rw [e1]; exact b1
      · omega
      · rw [← HA.out (by rw [HH.out]; simp)]; exact HR.out.cut (by rw [HN.out]; exact hlc)
      · rw [e2]; exact b2
      · omega
      · rw [← HA.out (by rw [HH.out]; simp)]; exact (HR.out.cut (by rw [HN.out]; exact hlc)).take n
    · have ht : (x0 != tag) = true := by simp [hxt]
      have HT := hide hxt
      clear hxt
      go_wp2_with fail
      go_ret
      refine ⟨HK.out, ?_⟩
      rw [show elem tag xs = none by unfold elem; rw [HX0.out, if_neg HT.out]]
      rfl
end
end Go.Proofs.Ytlmidbmmnjnagaa

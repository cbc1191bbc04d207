/- The walk of the signature's reader: parseSignature. -/
import Derived.Test.YtlmidbmmnjnagaaInts
namespace Go.Proofs.Ytlmidbmmnjnagaa
open Go.RowKit

attribute [local go_sem ↓] sliced_tl
attribute [local go_sem] tl_zero

section
variable {l c B : Nat} {A : Option Addr} {xs : List Int} {w : World}

theorem Empty_any : Calls Try.prog 21 #[.slice A l c] w fun e w' => e = .returned (.bool ((l : Int) == 0)) ∧ w = w' := by
  go_enter Try.func21, Try.ntmps21
  go_wp2
  go_ret
  exact ⟨rfl, rfl⟩

theorem New_any (s : ByteArray) : Calls Try.prog 23 #[.string s] w fun e w' => ∃ a, e = .returned (.iface 58 (.pointer (some a))) ∧ Below w.heap.size w w' := by
  go_enter Try.func23, Try.ntmps23
  go_wp2
  go_ret
  exact ⟨_, rfl, (Below.refl _ _).alloc (Nat.le_refl _) _⟩

/-- what the reader of a signature leaves -/
def SigPost (B : Nat) (xs : List Int) (w : World) (e : Ending) (w' : World) : Prop :=
  Below B w w' ∧ match parsed xs with
    | none => ∃ a, e = .returned (.tuple #[.slice none 0 0, .slice none 0 0, .iface 58 (.pointer (some a))])
    | some (r, s) => ∃ A1 c1 A2 c2, e = .returned (.tuple #[.slice A1 r.length c1, .slice A2 s.length c2, .nilIface]) ∧ r.length ≤ c1 ∧ s.length ≤ c2 ∧ Rd w' B A1 r ∧ Rd w' B A2 s
theorem SigPost.no {e : Ending} {w' : World} {a : Addr} (hn : parsed xs = none) (hb : Below B w w') (he : e = .returned (.tuple #[.slice none 0 0, .slice none 0 0, .iface 58 (.pointer (some a))])) : SigPost B xs w e w' :=
  ⟨hb, by rw [hn]; exact ⟨a, he⟩⟩
theorem SigPost.yes {e : Ending} {w' : World} {r s : List Int} {A1 A2 : Option Addr} {c1 c2 : Nat} (hn : parsed xs = some (r, s)) (hb : Below B w w') (he : e = .returned (.tuple #[.slice A1 r.length c1, .slice A2 s.length c2, .nilIface]))
    (h1 : r.length ≤ c1) (h2 : s.length ≤ c2) (h3 : Rd w' B A1 r) (h4 : Rd w' B A2 s) : SigPost B xs w e w' :=
  ⟨hb, by rw [hn]; exact ⟨A1, c1, A2, c2, he, h1, h2, h3, h4⟩⟩

set_option maxHeartbeats 2000000 in
theorem parse_any {R : Nat} (hR : w.heap.size = R) (hr : Rd w R A xs) (hn : xs.length = l) (hlc : l ≤ c) (hl : l ≤ 65536) :
    Calls Try.prog 18 #[.slice A l c] w (SigPost R xs w) := by
  have HSz := hide hR
  have HRr := hide hr
  have HNl := hide hn
  clear hR hr hn
  go_enter Try.func18, Try.ntmps18
  go_wp2_with fail
  have HR := hide (Box.new' (w := w) rfl 22 (.slice none 0 0) |>.alloc (.cells #[.slice none 0 0] 22) |>.alloc (.cells #[.slice none 0 0] 40) |>.alloc (.cells #[.slice A l c] 40))
  have HS := hide (Box.new' (w := w.alloc (.cells #[.slice none 0 0] 22)) (g := w.heap.size + 1) (by simp) 22 (.slice none 0 0) |>.alloc (.cells #[.slice none 0 0] 40) |>.alloc (.cells #[.slice A l c] 40))
  have HI := hide (Box.new' (w := (w.alloc (.cells #[.slice none 0 0] 22)).alloc (.cells #[.slice none 0 0] 22)) (g := w.heap.size + 1 + 1) (by simp) 40 (.slice none 0 0) |>.alloc (.cells #[.slice A l c] 40))
  have HP := hide (Box.new' (w := ((w.alloc (.cells #[.slice none 0 0] 22)).alloc (.cells #[.slice none 0 0] 22)).alloc (.cells #[.slice none 0 0] 40)) (g := w.heap.size + 1 + 1 + 1) (by simp) 40 (.slice A l c))
  have HB : Hid (Below w.heap.size w ((((w.alloc (.cells #[.slice none 0 0] 22)).alloc (.cells #[.slice none 0 0] 22)).alloc (.cells #[.slice none 0 0] 40)).alloc (.cells #[.slice A l c] 40))) :=
    hide (((((Below.refl _ _).alloc (Nat.le_refl _) _).alloc (by simp) _).alloc (by simp; omega) _).alloc (by simp; omega) _)
  have HZ : Hid (((((w.alloc (.cells #[.slice none 0 0] 22)).alloc (.cells #[.slice none 0 0] 22)).alloc (.cells #[.slice none 0 0] 40)).alloc (.cells #[.slice A l c] 40)).heap.size = w.heap.size + 1 + 1 + 1 + 1) := hide (by simp)
  revert HR HS HI HP HB HZ
  generalize (((w.alloc (.cells #[.slice none 0 0] 22)).alloc (.cells #[.slice none 0 0] 22)).alloc (.cells #[.slice none 0 0] 40)).alloc (.cells #[.slice A l c] 40) = w4
  rw [HSz.out]
  intro HR HS HI HP HB HZ
  refine (ReadASN1_any (B := R) (tag := 48) (HRr.out.below HB.out) HNl.out HP.out HI.out (by omega) (by omega) (by omega) hlc hl).mono ?_
  rintro e w5 ⟨k5, hm⟩
  have r5 := k5.box HR.out (by simp; omega)
  have s5 := k5.box HS.out (by simp)
  have b5 : Below R w w5 := HB.out.trans (k5.below (by rw [HZ.out]; omega) (by simp; omega))
  have z5 := k5.size
  rw [HZ.out] at z5
  have HB5 := hide b5
  clear k5 b5
  cases hh : elem 48 xs with
  | none =>
    have HNo := hide (parsed_elem_none hh)
    rw [hh] at hm
    obtain rfl := hm
    clear hh
    go_wp2_with fail
    refine (New_any _).mono ?_
    rintro e w6 ⟨a, rfl, hb⟩
    have r6 := (r5).below hb (by omega)
    have s6 := (s5).below hb (by omega)
    have rc6 := r6.cell
    have rf6 := r6.free
    have sc6 := s6.cell
    have sf6 := s6.free
    have HB6 := hide ((HB5.out).trans (hb.mono (B' := R) (by omega)))
    clear hb
    go_wp2_with fail
    refine bodyPost_ret (v := .tuple #[.slice none 0 0, .slice none 0 0, .iface 58 (.pointer (some a))]) (by simp [results, Try.results18, go_sem, *]) rfl ?_
    exact .no HNo.out ((HB6.out.setCell (p := ⟨R, 0, none⟩) (Nat.le_refl _) _).setCell (p := ⟨R + 1, 0, none⟩) (Nat.le_succ _) _) rfl
  | some p =>
    obtain ⟨x, rest⟩ := p
    rw [hh] at hm
    obtain ⟨rfl, A1, c1, A2, c2, p5, l1, _, i5, l2, rx5⟩ := hm
    have pc5 := p5.cell
    have HE := hide hh
    have HXl := hide (elem_length hh)
    have RX5 := hide rx5
    clear hh rx5
    obtain ⟨m, hm⟩ : ∃ m, rest.length = m := ⟨_, rfl⟩
    rw [hm] at pc5
    have HMl := hide hm
    clear hm p5
    go_wp2_with fail
    refine (Empty_any (A := A1) (l := m) (c := c1)).mono ?_
    rintro e _ ⟨rfl, rfl⟩
    by_cases hm0 : m = 0
    · have em : ((m : Int) == 0) = true := by rw [hm0]; rfl
      have HRest : Hid (rest = []) := hide (List.eq_nil_of_length_eq_zero (by rw [HMl.out]; exact hm0))
      have HE' : Hid (elem 48 xs = some (x, [])) := hide (by rw [HE.out, HRest.out])
      clear hm0
      go_wp2_with fail
      refine (ReadASN1IntegerBytes_any (B := R) RX5.out rfl i5 r5 (by omega) (by omega) (by omega) l2 (by rw [HNl.out] at HXl; have := HXl.out; omega)).mono ?_
      rintro e w6 ⟨k6, hm6⟩
      have s6 := k6.box s5 (by simp)
      have z6 := k6.size
      have HB6 := hide (HB5.out.trans (k6.below (B := R) (by omega) (by simp; omega)))
      clear k6
      cases hh : natural x with
      | none =>
        have HNo := hide (parsed_one_none HE'.out hh)
        rw [hh] at hm6
        obtain ⟨rfl, u, r6⟩ := hm6
        clear hh
        go_wp2_with fail
        refine (New_any _).mono ?_
        rintro e w9 ⟨a, rfl, hb⟩
        have r6 := (r6).below hb (by omega)
        have s6 := (s6).below hb (by omega)
        have rc6 := r6.cell
        have rf6 := r6.free
        have sc6 := s6.cell
        have sf6 := s6.free
        have HB6 := hide ((HB6.out).trans (hb.mono (B' := R) (by omega)))
        clear hb
        go_wp2_with fail
        refine bodyPost_ret (v := .tuple #[.slice none 0 0, .slice none 0 0, .iface 58 (.pointer (some a))]) (by simp [results, Try.results18, go_sem, *]) rfl ?_
        exact .no HNo.out ((HB6.out.setCell (p := ⟨R, 0, none⟩) (Nat.le_refl _) _).setCell (p := ⟨R + 1, 0, none⟩) (Nat.le_succ _) _) rfl
      | some q =>
        obtain ⟨r, y⟩ := q
        rw [hh] at hm6
        obtain ⟨rfl, A3, c3, A4, c4, i6, l3, ry6, r6, l4, rr6⟩ := hm6
        have HN1 := hide hh
        have RR6 := hide rr6
        have RY6 := hide ry6
        have HYl := hide (natural_length hh)
        clear hh rr6 ry6
        obtain ⟨nr, hnr⟩ : ∃ n, r.length = n := ⟨_, rfl⟩
        rw [hnr] at r6 l4
        have HNr := hide hnr
        clear hnr
        go_wp2_with fail
        refine (ReadASN1IntegerBytes_any (B := R) RY6.out rfl i6 s6 (by omega) (by omega) (by omega) l3 (by have h1 := HXl.out; have h2 := HYl.out; rw [HNl.out] at h1; omega)).mono ?_
        rintro e w7 ⟨k7, hm7⟩
        have r7 := k7.box r6 (by simp; omega)
        have z7 := k7.size
        have b7 : Below R w6 w7 := k7.below (B := R) (by omega) (by simp; omega)
        have HB7 := hide (HB6.out.trans b7)
        have RR7 := hide (RR6.out.below b7)
        clear k7 b7
        cases hh : natural y with
        | none =>
          have HNo := hide (parsed_two_none HE'.out HN1.out hh)
          rw [hh] at hm7
          obtain ⟨rfl, u, s7⟩ := hm7
          clear hh
          go_wp2_with fail
          refine (New_any _).mono ?_
          rintro e w9 ⟨a, rfl, hb⟩
          have r6 := (r7).below hb (by omega)
          have s6 := (s7).below hb (by omega)
          have rc6 := r6.cell
          have rf6 := r6.free
          have sc6 := s6.cell
          have sf6 := s6.free
          have HB6 := hide ((HB7.out).trans (hb.mono (B' := R) (by omega)))
          clear hb
          go_wp2_with fail
          refine bodyPost_ret (v := .tuple #[.slice none 0 0, .slice none 0 0, .iface 58 (.pointer (some a))]) (by simp [results, Try.results18, go_sem, *]) rfl ?_
          exact .no HNo.out ((HB6.out.setCell (p := ⟨R, 0, none⟩) (Nat.le_refl _) _).setCell (p := ⟨R + 1, 0, none⟩) (Nat.le_succ _) _) rfl
        | some q =>
          obtain ⟨s, z⟩ := q
          rw [hh] at hm7
          obtain ⟨rfl, A5, c5, A6, c6, i7, _, _, s7, l6, rs7⟩ := hm7
          have HN2 := hide hh
          have RS7 := hide rs7
          clear hh rs7
          obtain ⟨ns, hns⟩ : ∃ n, s.length = n := ⟨_, rfl⟩
          rw [hns] at s7 l6
          have HNs := hide hns
          obtain ⟨nz, hnz⟩ : ∃ n, z.length = n := ⟨_, rfl⟩
          rw [hnz] at i7
          have HNz := hide hnz
          clear hns hnz
          have ic7 := i7.cell
          go_wp2_with fail
          refine (Empty_any (A := A5) (l := nz) (c := c5)).mono ?_
          rintro e _ ⟨rfl, rfl⟩
          by_cases hz0 : nz = 0
          · have ez : ((nz : Int) == 0) = true := by rw [hz0]; rfl
            have HYes : Hid (parsed xs = some (r, s)) := hide (parsed_yes HE'.out HN1.out (by rw [HN2.out, List.eq_nil_of_length_eq_zero (show z.length = 0 by rw [HNz.out]; exact hz0)]))
            have rc7 := r7.cell
            have rf7 := r7.free
            have sc7 := s7.cell
            have sf7 := s7.free
            clear hz0
            go_wp2_with fail
            refine bodyPost_ret (v := .tuple #[.slice A4 nr c4, .slice A6 ns c6, .nilIface]) (by simp [results, Try.results18, go_sem, *]) rfl ?_
            have hb : Below R w7 ((w7.setCell ⟨R, 0, none⟩ (.slice A4 nr c4)).setCell ⟨R + 1, 0, none⟩ (.slice A6 ns c6)) := ((Below.refl _ _).setCell (p := ⟨R, 0, none⟩) (Nat.le_refl _) _).setCell (p := ⟨R + 1, 0, none⟩) (Nat.le_succ _) _
            exact .yes HYes.out (HB7.out.trans hb) (by rw [HNr.out, HNs.out]) (by rw [HNr.out]; exact l4) (by rw [HNs.out]; exact l6) (RR7.out.below hb) (RS7.out.below hb)
          · have ez : ((nz : Int) == 0) = false := by rw [beq_eq_false_iff_ne]; omega
            have HNo := hide (parsed_end HE'.out HN1.out HN2.out (by intro h; have h2 := HNz.out; rw [h] at h2; simp at h2; omega))
            clear hz0
            go_wp2_with fail
            refine (New_any _).mono ?_
            rintro e w9 ⟨a, rfl, hb⟩
            have r6 := (r7).below hb (by omega)
            have s6 := (s7).below hb (by omega)
            have rc6 := r6.cell
            have rf6 := r6.free
            have sc6 := s6.cell
            have sf6 := s6.free
            have HB6 := hide ((HB7.out).trans (hb.mono (B' := R) (by omega)))
            clear hb
            go_wp2_with fail
            refine bodyPost_ret (v := .tuple #[.slice none 0 0, .slice none 0 0, .iface 58 (.pointer (some a))]) (by simp [results, Try.results18, go_sem, *]) rfl ?_
            exact .no HNo.out ((HB6.out.setCell (p := ⟨R, 0, none⟩) (Nat.le_refl _) _).setCell (p := ⟨R + 1, 0, none⟩) (Nat.le_succ _) _) rfl
    · have em : ((m : Int) == 0) = false := by rw [beq_eq_false_iff_ne]; omega
      have HNo := hide (parsed_behind HE.out (by intro h; have := HMl.out; rw [h] at this; simp at this; omega))
      clear hm0
      go_wp2_with fail
      refine (New_any _).mono ?_
      rintro e w6 ⟨a, rfl, hb⟩
      have r6 := (r5).below hb (by omega)
      have s6 := (s5).below hb (by omega)
      have rc6 := r6.cell
      have rf6 := r6.free
      have sc6 := s6.cell
      have sf6 := s6.free
      have HB6 := hide ((HB5.out).trans (hb.mono (B' := R) (by omega)))
      clear hb
      go_wp2_with fail
      refine bodyPost_ret (v := .tuple #[.slice none 0 0, .slice none 0 0, .iface 58 (.pointer (some a))]) (by simp [results, Try.results18, go_sem, *]) rfl ?_
      exact .no HNo.out ((HB6.out.setCell (p := ⟨R, 0, none⟩) (Nat.le_refl _) _).setCell (p := ⟨R + 1, 0, none⟩) (Nat.le_succ _) _) rfl
end
end Go.Proofs.Ytlmidbmmnjnagaa

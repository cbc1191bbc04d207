/- The walks of Bytes, encodeSignature, ZZEncode and Written. -/
import Derived.Test.YtlmidbmmnjnagaaTop
namespace Go.Proofs.Ytlmidbmmnjnagaa
open Go.RowKit

attribute [local go_sem ↓] sliced_tl
attribute [local go_sem] tl_zero

/-- a call that gave v and left memory as it was -/
def Gave (v : Value) (w : World) (e : Ending) (w' : World) : Prop := e = .returned v ∧ ∃ k, w' = w.drewN k

/-- what the signature's writer gives -/
def EncPost (xs ys : List Int) (w : World) (e : Ending) (w' : World) : Prop :=
  Below w.heap.size w w' ∧
    ((strip xs ≠ [] ∧ strip ys ≠ [] ∧ ∃ A n c, e = .returned (.tuple #[.slice A n c, .nilIface]) ∧ n ≤ c ∧ (der (strip xs) (strip ys)).length = n ∧ Rd w' w'.heap.size A (der (strip xs) (strip ys))) ∨
     ((strip xs = [] ∨ strip ys = []) ∧ ∃ a, e = .returned (.tuple #[.slice none 0 0, .iface 58 (.pointer (some a))])))

section
variable {w : World} {C D X I base B n l c : Nat} {off : Int} {A : Option Addr} {err res resP child ic icP u v : Value} {pend : Int} {asn : Bool} {pre content xs ys : List Int}

theorem bytes_ok (hb : Bl w C .nilIface (.slice A n c) child 0 pend asn ic) (_hn : n ≤ c) : Calls Try.prog 27 #[.pointer (some ⟨C, 0, none⟩)] w (Gave (.tuple #[.slice A n c, .nilIface]) w) := by
  have k0 := hb.c0
  have k1 := hb.c1
  have k4 := hb.c4
  clear hb
  go_enter Try.func27, Try.ntmps27
  go_wp2_with fail
  go_quiet (fail)
  go_wp2_with fail
  go_ret2
  exact ⟨rfl, _, rfl⟩

theorem bytes_err {a : Addr} (hb : Bl w C (.iface 58 (.pointer (some a))) res child off pend asn ic) : Calls Try.prog 27 #[.pointer (some ⟨C, 0, none⟩)] w (Gave (.tuple #[.slice none 0 0, .iface 58 (.pointer (some a))]) w) := by
  have k0 := hb.c0
  clear hb
  go_enter Try.func27, Try.ntmps27
  go_wp2_with fail
  go_quiet (fail)
  go_wp2_with fail
  go_ret2
  exact ⟨rfl, _, rfl⟩

theorem encode_any {l' c' : Nat} {A' : Option Addr} (hr : Rd w B A xs) (hn : xs.length = l) (hlc : l ≤ c) (hr' : Rd w B A' ys) (hn' : ys.length = l') (hlc' : l' ≤ c') (hl : l ≤ 5000) (hl' : l' ≤ 5000) (hB : B ≤ w.heap.size) :
    Calls Try.prog 19 #[.slice A l c, .slice A' l' c'] w (EncPost xs ys w) := by
  obtain ⟨w1, hw1⟩ : ∃ w1, ((w.alloc (.cells #[.slice A l c] 22)).alloc (.cells #[.slice A' l' c'] 22)).alloc (.cells #[.nilIface, .slice none 0 0, .bool false, .pointer none, .int .i64 0, .int .i64 0, .bool false, .pointer none] 51) = w1 := ⟨_, rfl⟩
  have F1 := hide (show Fr w.heap.size [] w w1 by rw [← hw1]; exact (((Fr.refl w.heap.size [] w).alloc (Nat.le_refl _) _).alloc (by simp) _).alloc (by simp; omega) _)
  have R1 : Box w1 w.heap.size 22 (.slice A l c) := by rw [← hw1]; exact ((Box.new w 22 _).alloc _).alloc _
  have S1 : Box w1 (w.heap.size + 1) 22 (.slice A' l' c') := by rw [← hw1]; exact (Box.new' (by simp) 22 _).alloc _
  have C1 : Bl w1 (w.heap.size + 2) .nilIface (.slice none 0 0) (.pointer none) 0 0 false (.pointer none) := by rw [← hw1]; exact Bl.new (by simp)
  have H := hide (asn_out (base := w.heap.size) (c := c) (c' := c') C1 R1 S1 (hr.below (F1.out.below hB)) hn hlc (hr'.below (F1.out.below hB)) hn' hlc' hl hl' F1.out.size (by omega) (by omega) (by omega) hB)
  have HW := hide hw1
  clear hr hn hr' hn' R1 S1 C1 hw1
  have hmf : ∀ (fn : Fn) (first cap : Array Value) (w : World), (Instr.makeFunc fn first cap).run Try.prog w = .ok (.func fn first cap) w := fun _ _ _ _ => rfl
  go_enter Try.func19, Try.ntmps19
  go_wp2_with fail
  rw [HW.out]
  refine H.out.mono ?_
  rintro e w2 ⟨rfl, f2, ⟨n1, n2, v2, ic2, b2, o2⟩ | ⟨n1, a2, v2, ic2, b2⟩⟩
  · obtain ⟨A2, c2, rfl, hc2, _, r2⟩ := o2.rd
    obtain ⟨m, hm⟩ : ∃ m, (der (strip xs) (strip ys)).length = m := ⟨_, rfl⟩
    rw [hm] at b2 hc2
    have F2 := hide ((F1.out.trans f2 (by intro i hi; right; simp at hi; omega)).below (Nat.le_refl _))
    have B2 := hide b2
    have R2 := hide r2
    have HM := hide hm
    have N1 := hide n1
    have N2 := hide n2
    clear b2 f2 o2 r2 hm n1 n2
    go_wp2_with fail
    refine (bytes_ok B2.out hc2).mono ?_
    rintro e w3 ⟨rfl, k, rfl⟩
    go_wp2_with fail
    go_ret2
    exact ⟨below_drewN F2.out k, .inl ⟨N1.out, N2.out, A2, m, c2, rfl, hc2, HM.out, R2.out⟩⟩
  · have F2 := hide ((F1.out.trans f2 (by intro i hi; right; simp at hi; omega)).below (Nat.le_refl _))
    have B2 := hide b2
    have N1 := hide n1
    clear b2 f2 n1
    go_wp2_with fail
    refine (bytes_err B2.out).mono ?_
    rintro e w3 ⟨rfl, k, rfl⟩
    go_wp2_with fail
    go_ret2
    exact ⟨below_drewN F2.out k, .inr ⟨N1.out, a2, rfl⟩⟩

theorem ZZEncode_any {l' c' : Nat} {A' : Option Addr} (hr : Rd w B A xs) (hn : xs.length = l) (hlc : l ≤ c) (hr' : Rd w B A' ys) (hn' : ys.length = l') (hlc' : l' ≤ c') (hl : l ≤ 5000) (hl' : l' ≤ 5000) (hB : B ≤ w.heap.size) :
    Calls Try.prog 15 #[.slice A l c, .slice A' l' c'] w (EncPost xs ys w) := by
  have H := hide (encode_any hr hn hlc hr' hn' hlc' hl hl' hB)
  clear hr hn hr' hn'
  go_enter Try.func15, Try.ntmps15
  go_wp2_with fail
  refine H.out.mono ?_
  intro e w' h
  obtain ⟨v0, v1, rfl⟩ : ∃ v0 v1, e = .returned (.tuple #[v0, v1]) := by
    obtain ⟨_, ⟨_, _, A, n, c, rfl, _⟩ | ⟨_, a, rfl⟩⟩ := h
    · exact ⟨_, _, rfl⟩
    · exact ⟨_, _, rfl⟩
  have HH := hide h
  clear h
  go_wp2_with fail
  go_ret2
  exact HH.out

/-- what the thin package's Written gives -/
def WrPost (xs ys : List Int) (w : World) (e : Ending) (w' : World) : Prop :=
  Below w.heap.size w w' ∧
    ((strip xs ≠ [] ∧ strip ys ≠ [] ∧ ∃ A n c, e = .returned (.tuple #[.slice A n c, .bool true]) ∧ (der (strip xs) (strip ys)).length = n ∧ Rd w' w'.heap.size A (der (strip xs) (strip ys))) ∨
     ((strip xs = [] ∨ strip ys = []) ∧ e = .returned (.tuple #[.slice none 0 0, .bool false])))

theorem Written_any {l' c' : Nat} {A' : Option Addr} (hr : Rd w B A xs) (hn : xs.length = l) (hr' : Rd w B A' ys) (hn' : ys.length = l') (hl : l ≤ 300) (hl' : l' ≤ 300) (hB : B ≤ w.heap.size) :
    Calls Try.prog 9 #[.slice A l c, .slice A' l' c'] w (WrPost xs ys w) := by
  have H1 := hide (copied_any (c := c) hr hn (by omega))
  have HR' := hide hr'
  have HN := hide hn
  have HN' := hide hn'
  have HD : Hid ((der (strip xs) (strip ys)).length ≤ 1000) := hide (by
    have h1 := derInt_length (strip xs); have h2 := strip_length xs
    have h3 := derInt_length (strip ys); have h4 := strip_length ys
    have h5 := tagged_length 48 (derInt (strip xs) ++ derInt (strip ys))
    rw [List.length_append] at h5
    unfold der; omega)
  clear hr hn hr' hn'
  go_enter Try.func9, Try.ntmps9
  go_wp2_with fail
  refine H1.out.mono ?_
  rintro e w1 ⟨A1, c1, rfl, hc1, hb1, hr1⟩
  have R1 := hide hr1
  have B1 := hide hb1
  clear hr1 hb1
  go_wp2_with fail
  refine (copied_any (c := c') (HR'.out.below (B1.out.mono hB)) HN'.out (by omega)).mono ?_
  rintro e w2 ⟨A2, c2, rfl, hc2, hb2, hr2⟩
  have R2 := hide hr2
  have R1' := hide ((R1.out.below hb2).more hb2.size)
  have B2 := hide (B1.out.trans (hb2.mono B1.out.size))
  clear hr2 hb2
  go_wp2_with fail
  refine (ZZEncode_any (c := c1) (c' := c2) R1'.out HN.out hc1 R2.out HN'.out hc2 (by omega) (by omega) (Nat.le_refl _)).mono ?_
  rintro e w3 ⟨b3, ⟨n1, n2, A3, m, c3, rfl, hc3, hm, r3⟩ | ⟨n1, a3, rfl⟩⟩
  · have B3 := hide (B2.out.trans (b3.mono B2.out.size))
    have R3 := hide r3
    have HM := hide hm
    have hm2 := HD.out
    rw [hm] at hm2
    have N1 := hide n1
    have N2 := hide n2
    clear b3 r3 hm n1 n2
    go_wp2_with fail
    refine (copied_any (c := c3) R3.out HM.out (by omega)).mono ?_
    rintro e w4 ⟨A4, c4, rfl, hc4, hb4, hr4⟩
    have R4 := hide hr4
    have B4 := hide (B3.out.trans (hb4.mono B3.out.size))
    clear hr4 hb4
    go_wp2_with fail
    go_ret2
    exact ⟨B4.out, .inl ⟨N1.out, N2.out, A4, m, c4, rfl, HM.out, R4.out⟩⟩
  · have B3 := hide (B2.out.trans (b3.mono B2.out.size))
    have N1 := hide n1
    clear b3 n1
    go_wp2_with fail
    go_ret2
    exact ⟨B3.out, .inr ⟨N1.out, rfl⟩⟩
end
end Go.Proofs.Ytlmidbmmnjnagaa

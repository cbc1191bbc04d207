/- The walks of the Builder's callContinuation within another, and of the closure that writes an integer's content. -/
import Derived.Test.YtlmidbmmnjnagaaFlush4
namespace Go.Proofs.Ytlmidbmmnjnagaa
open Go.RowKit

attribute [local go_sem ↓] sliced_tl
attribute [local go_sem] tl_zero

section
variable {w : World} {C D X I base B n c off : Nat} {A : Option Addr} {err res resP ic icP u v : Value} {pend : Int} {asn : Bool} {pre content xs ys : List Int}

theorem Fr.of_below {w w' : World} {base : Nat} (h : Below w.heap.size w w') (hb : base ≤ w.heap.size) : Fr base [] w w' :=
  ⟨h.os, h.tape, h.output, h.size, fun k hk => h.block k (by omega), fun k _ _ _ hc _ _ => (h.block k (lt_of_block hc)).trans hc⟩

theorem high_any (hb : Bl w D .nilIface res (.pointer none) off pend asn ic) (ho : Own w base res ys) (hx : Box w X 22 (.slice A n c)) (hr : Rd w B A xs) (hn : xs.length = n) (h0 : 0 < n) (hl : ys.length + n ≤ 50000)
    (hbase : base ≤ w.heap.size) (hD : base ≤ D) (hXD : X ≠ D) (hB : B ≤ base) :
    Calls Try.prog 33 #[.pointer (some ⟨D, 0, none⟩), .pointer (some ⟨X, 0, none⟩)] w (AddPost D base off pend asn ic (ys ++ intContent xs) w) := by
  have hx0 := hx.cell
  obtain ⟨a, ha⟩ : ∃ a, xs[0]? = some a := ⟨_, List.getElem?_eq_getElem (show 0 < xs.length by omega)⟩
  obtain ⟨g, o, rfl, hgB, hcell⟩ := hr.at_ (show 0 < xs.length by omega)
  have hc0 := hcell 0 a ha
  rw [Nat.add_zero] at hc0
  have hab := hr.byte ha
  have HB := hide hb
  have HO := hide ho
  have HX := hide hx
  have HR := hide hr
  have HN := hide hn
  have HA := hide ha
  clear hb ho hx hr hn ha hcell
  by_cases h128 : 128 ≤ a
  · have e3 : (bits BinOp.and IntKind.u8 a 128 != 0) = true := by rw [u8_and128_hi h128 (by omega)]; rfl
    go_enter Try.func33, Try.ntmps33
    go_wp2_with fail
    refine (AddUint8_any (z := 0) HB.out HO.out (by omega) (by omega) hbase hD).mono ?_
    rintro e w1 ⟨rfl, ⟨v1, b1, o1⟩, f1⟩
    have x1 := (f1.bx HX.out (by decide) (by simpa using hXD)).cell
    have H1 := hide b1
    have O1 := hide o1
    have F1 := hide f1
    clear b1 o1 f1 hc0 hx0
    go_wp2_with fail
    refine (AddBytes_any (c := c) H1.out O1.out (HR.out.below (F1.out.below hB)) HN.out (by simp; omega) (Nat.le_trans hbase F1.out.size) hD).mono ?_
    rintro e w2 ⟨rfl, ⟨v2, b2, o2⟩, f2⟩
    have H2 := hide b2
    have O2 := hide o2
    have F2 := hide f2
    clear b2 o2 f2
    go_wp2_with fail
    go_end0
    refine ⟨rfl, ⟨v2, H2.out, ?_⟩, F1.out.trans F2.out (fun i hi => .inl hi)⟩
    rw [intContent_high HA.out h128, ← List.append_assoc]
    exact O2.out
  · have e3 : (bits BinOp.and IntKind.u8 a 128 != 0) = false := by rw [u8_and128_lo hab.1 (by omega)]; rfl
    go_enter Try.func33, Try.ntmps33
    go_wp2_with fail
    refine (AddBytes_any (c := c) HB.out HO.out HR.out HN.out (by omega) hbase hD).mono ?_
    rintro e w2 ⟨rfl, ⟨v2, b2, o2⟩, f2⟩
    have H2 := hide b2
    have O2 := hide o2
    have F2 := hide f2
    clear b2 o2 f2
    go_wp2_with fail
    go_end0
    refine ⟨rfl, ⟨v2, H2.out, ?_⟩, F2.out⟩
    rw [intContent_low HA.out (by omega)]
    exact O2.out

theorem cont_in {resC : Value} {offC pendC : Int} {asnC : Bool} (hC : Bl w C .nilIface resC (.pointer (some ⟨D, 0, none⟩)) offC pendC asnC (.pointer (some ⟨I, 0, none⟩))) (hI : Box w I 4 (.bool true))
    (hb : Bl w D .nilIface res (.pointer none) off pend asn ic) (ho : Own w base res ys) (hx : Box w X 22 (.slice A n c)) (hr : Rd w B A xs) (hn : xs.length = n) (h0 : 0 < n) (hl : ys.length + n ≤ 50000)
    (hbase : base ≤ w.heap.size) (hD : base ≤ D) (hXD : X ≠ D) (hB : B ≤ base) :
    Calls Try.prog 38 #[.pointer (some ⟨C, 0, none⟩), .func (Fn.func 33) #[] #[.pointer (some ⟨X, 0, none⟩)], .pointer (some ⟨D, 0, none⟩)] w (AddPost D base off pend asn ic (ys ++ intContent xs) w) := by
  have hC7 := (hC.alloc (.cells #[.pointer (some ⟨C, 0, none⟩)] 48)).c7
  have hI0 := (hI.alloc (.cells #[.pointer (some ⟨C, 0, none⟩)] 48)).cell
  have H := hide (high_any (hb.alloc (.cells #[.pointer (some ⟨C, 0, none⟩)] 48)) (ho.alloc _) (hx.alloc _) (hr.keep (w' := w.alloc (.cells #[.pointer (some ⟨C, 0, none⟩)] 48)) (fun p hp => ((Below.refl _ _).alloc (Nat.le_trans hB hbase) _).cell hp)) hn h0 hl (by simp; omega) hD hXD hB)
  clear hC hI hb ho hx hr hn
  have hmf : ∀ (fn : Fn) (first cap : Array Value) (w : World), (Instr.makeFunc fn first cap).run Try.prog w = .ok (.func fn first cap) w := fun _ _ _ _ => rfl
  go_enter_defers Try.func38, Try.ntmps38
  go_wp2_with (first | (go_at_call 33; refine H.out.mono ?_) | fail)
  rintro e w2 ⟨rfl, h1, h2⟩
  have H1 := hide h1
  have H2 := hide h2
  clear h1 h2
  go_wp2_with fail
  exact ⟨_, results_none rfl _ _ _, rfl, H1.out, ((Fr.refl base [D] w).alloc hbase _).trans H2.out (fun i hi => .inl hi)⟩
end
end Go.Proofs.Ytlmidbmmnjnagaa

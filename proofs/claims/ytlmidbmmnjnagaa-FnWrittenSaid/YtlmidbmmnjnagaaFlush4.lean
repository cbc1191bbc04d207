/- The Builder's flushChild at whatever length, and where the child has failed. -/
import Derived.Test.YtlmidbmmnjnagaaFlush3
namespace Go.Proofs.Ytlmidbmmnjnagaa
open Go.RowKit

attribute [local go_sem ↓] sliced_tl
attribute [local go_sem] tl_zero

section
variable {w : World} {P C base n off : Nat} {err res resP ic icP u v : Value} {asn : Bool} {pre content : List Int}

theorem flush_ok {offP pendP : Int} (hP : Bl w P .nilIface resP (.pointer (some ⟨C, 0, none⟩)) offP pendP asn icP) (hC : Bl w C .nilIface v (.pointer none) off 1 true ic)
    (ho : Own w base v (pre ++ [0] ++ content)) (hpre : pre.length = off) (hn : content.length = n) (hsm : off + n ≤ 50000)
    (hbP : base ≤ P) (hbC : base ≤ C) (hbw : base ≤ w.heap.size) (hPC : P ≠ C) :
    Calls Try.prog 39 #[.pointer (some ⟨P, 0, none⟩)] w (FlushPost P C base offP pendP asn icP (pre ++ lenBytes n ++ content) w) := by
  have hl : (pre ++ [0] ++ content).length = off + 1 + n := by simp; omega
  obtain ⟨g, cap, rfl, hcap, hg⟩ := own_some ho (by rw [hl]; omega)
  obtain ⟨L, hL⟩ : ∃ L, off + 1 + n = L := ⟨_, rfl⟩
  rw [hl, hL] at ho hC
  have nP := hP.ne_own ho
  have nC := hC.ne_own ho
  have nP' : g ≠ P := by simpa [Value.ownBlock] using nP
  have nC' : g ≠ C := by simpa [Value.ownBlock] using nC
  by_cases h1 : n < 128
  · exact flush_small hP hC ho hpre hn hL.symm (by omega) h1 hbP hbC hbw hPC nP' nC'
  · by_cases h2 : n < 256
    · exact flush_mid hP hC ho hpre hn hL.symm (by omega) (by omega) h2 hbP hbC hbw hPC nP' nC'
    · exact flush_big hP hC ho hpre hn hL.symm (by omega) (by omega) (by omega) hbP hbC hbw hPC nP' nC'

set_option maxRecDepth 100000 in
theorem flush_err {offP pendP offC pendC : Int} {a : Addr} {asnC : Bool} (hP : Bl w P .nilIface resP (.pointer (some ⟨C, 0, none⟩)) offP pendP asn icP) (hC : Bl w C (.iface 58 (.pointer (some a))) v (.pointer none) offC pendC asnC ic) (hPC : P ≠ C) :
    Calls Try.prog 39 #[.pointer (some ⟨P, 0, none⟩)] w fun e w' => e = .returned (.tuple #[]) ∧ Bl w' P (.iface 58 (.pointer (some a))) resP (.pointer none) offP pendP asn icP ∧
      w' = (w.setCell ⟨P, 3, none⟩ (.pointer none)).setCell ⟨P, 0, none⟩ (.iface 58 (.pointer (some a))) := by
  have p3 := hP.c3
  have pf3 := hP.fr 3
  have pf0 := hP.fr 0
  have p0 := hP.c0
  have c0 := hC.c0
  have hPC' : ¬ C = P := fun e => hPC e.symm
  have HP := hide hP
  have HC := hide hC
  clear hP hC
  go_enter Try.func39, Try.ntmps39
  go_wp2_with fail
  refine (flush_leaf HC.out).mono ?_
  rintro e w' ⟨rfl, rfl⟩
  go_wp2_with fail
  refine bodyPost_ret (results_none rfl _ _ _) rfl ?_
  exact ⟨rfl, (HP.out.set3 _).set0 _, rfl⟩
end
end Go.Proofs.Ytlmidbmmnjnagaa

/- The walks of callContinuation, addLengthPrefixed and AddASN1 on the outermost Builder. -/
import Derived.Test.YtlmidbmmnjnagaaWint
import Derived.Recover
namespace Go.Proofs.Ytlmidbmmnjnagaa
open Go.RowKit

attribute [local go_sem ↓] sliced_tl
attribute [local go_sem] tl_zero

/-- what a call on Builder C leaves that writes two integers, or fails -/
def TopPost (S : List Nat) (C base : Nat) (off pend : Int) (asn : Bool) (zs xs ys : List Int) (w : World) (e : Ending) (w' : World) : Prop :=
  e = .returned (.tuple #[]) ∧ Fr base S w w' ∧
    ((strip xs ≠ [] ∧ strip ys ≠ [] ∧ ∃ v' ic, Bl w' C .nilIface v' (.pointer none) off pend asn ic ∧ Own w' base v' zs) ∨
     ((strip xs = [] ∨ strip ys = []) ∧ ∃ a v' ic, Bl w' C (.iface 58 (.pointer (some a))) v' (.pointer none) off pend asn ic))

section
variable {w : World} {C D X I base B n l c : Nat} {off : Int} {A : Option Addr} {err res resP child ic icP u v : Value} {pend : Int} {asn : Bool} {pre content xs ys : List Int}

theorem Box.ne_own {t : TypeId} (h : Box w X t u) (ht : t ≠ 5) (ho : Own w base v xs) : v.ownBlock ≠ some X := by
  rcases ho.1.2 with ⟨rfl, _⟩ | ⟨g, cap, cur, rfl, _, hg, _⟩
  · simp [Value.ownBlock]
  · intro e
    have e' : g = X := by simpa [Value.ownBlock] using e
    subst e'
    unfold Box at h
    rw [h] at hg
    cases hg
    exact ht rfl

set_option maxHeartbeats 1000000 in
theorem leave_idle (hX : Box w X 48 (.pointer (some ⟨C, 0, none⟩))) (hC : Bl w C err res child off pend asn (.pointer (some ⟨I, 0, none⟩))) (hI : Box w I 4 (.bool true)) :
    CallsD Try.prog 43 #[.pointer (some ⟨X, 0, none⟩)] .returning w fun e u' w' => e = .returned (.tuple #[]) ∧ u' = .returning ∧ w' = w.setCell ⟨I, 0, none⟩ (.bool false) := by
  have x0 := hX.cell
  have c7 := hC.c7
  have i0 := hI.cell
  have if0 := hI.free
  clear hX hC hI
  refine callsD_of_wpS Try.func43 rfl fun c₀ cs hu => ?_
  apply wpS_seq
  generalize hK : Exit.thenS (Code.wpS Try.prog _ _) _ = K
  apply wpS_region
  simp [wpOpsS, go_sem, x0, c7, i0, if0, Try.ntmps43]
  subst hK
  simp only [Exit.thenS]
  apply wpS_seq
  generalize hK : Exit.thenS (Code.wpS Try.prog _ _) _ = K
  apply wpS_region
  simp [wpOpsS, go_sem, recoverD, hu]
  subst hK
  simp only [Exit.thenS]
  apply wpS_seq
  generalize hK : Exit.thenS (Code.wpS Try.prog _ _) _ = K
  apply wpS_seq
  apply wpS_region
  simp [wpOpsS, go_sem, Exit.thenS]
  refine wpS_cond (t := true) (by simp [Act.eval]) ?_
  simp only [if_true]
  refine wpS_of_wp ?_
  go_wp2_with fail
  subst hK
  cases c₀
  simp_all [Exit.thenS, bodyPostS, results, Try.results43]

set_option maxRecDepth 100000 in
theorem cont_out {R S l' c' : Nat} {off : Nat} {resC : Value} {offC pendC : Int} {asnC : Bool} {A' : Option Addr} {zs : List Int}
    (hC : Bl w C .nilIface resC (.pointer (some ⟨D, 0, none⟩)) offC pendC asnC (.pointer (some ⟨I, 0, none⟩))) (hI : Box w I 4 (.bool false))
    (hb : Bl w D .nilIface res (.pointer none) off pend asn (.pointer (some ⟨I, 0, none⟩))) (ho : Own w base res zs)
    (hR : Box w R 22 (.slice A l c)) (hS : Box w S 22 (.slice A' l' c')) (hr : Rd w B A xs) (hn : xs.length = l) (hlc : l ≤ c) (hr' : Rd w B A' ys) (hn' : ys.length = l') (hlc' : l' ≤ c') (hl : l ≤ 5000) (hl' : l' ≤ 5000) (hz : zs.length ≤ 100)
    (hbase : base ≤ w.heap.size) (hbD : base ≤ D) (hbI : base ≤ I) (hCD : C ≠ D) (hID : I ≠ D) (hIC : I ≠ C) (hSD : S ≠ D) (hIR : R ≠ I) (hIS : S ≠ I) (hB : B ≤ base) :
    Calls Try.prog 38 #[.pointer (some ⟨C, 0, none⟩), .func (Fn.func 25) #[] #[.pointer (some ⟨R, 0, none⟩), .pointer (some ⟨S, 0, none⟩)], .pointer (some ⟨D, 0, none⟩)] w
      (TopPost [D, I] D base off pend asn (zs ++ (derInt (strip xs) ++ derInt (strip ys))) xs ys w) := by
  obtain ⟨w1, hw1⟩ : ∃ w1, w1 = (w.alloc (.cells #[.pointer (some ⟨C, 0, none⟩)] 48)).setCell ⟨I, 0, none⟩ (.bool true) := ⟨_, rfl⟩
  have hDI : D ≠ I := fun e => hID e.symm
  have hCI : C ≠ I := fun e => hIC e.symm
  have hXI : w.heap.size ≠ I := by have := hI.lt; omega
  have hXD : w.heap.size ≠ D := by have := hb.lt; omega
  have C1 : Hid (Bl w1 C .nilIface resC (.pointer (some ⟨D, 0, none⟩)) offC pendC asnC (.pointer (some ⟨I, 0, none⟩))) := hide (by rw [hw1]; exact (hC.alloc _).far2 hCI _)
  have I1 : Hid (Box w1 I 4 (.bool true)) := hide (by rw [hw1]; exact (hI.alloc _).set_ _)
  have X1 : Hid (Box w1 w.heap.size 48 (.pointer (some ⟨C, 0, none⟩))) := hide (by rw [hw1]; exact (Box.new w 48 _).far2 hXI _)
  have D1 : Bl w1 D .nilIface res (.pointer none) off pend asn (.pointer (some ⟨I, 0, none⟩)) := by rw [hw1]; exact (hb.alloc _).far2 hDI _
  have O1 : Own w1 base res zs := by rw [hw1]; exact (ho.alloc _).far (hI.ne_own (by decide) ho) _
  have R1 : Box w1 R 22 (.slice A l c) := by rw [hw1]; exact (hR.alloc _).far2 hIR _
  have S1 : Box w1 S 22 (.slice A' l' c') := by rw [hw1]; exact (hS.alloc _).far2 hIS _
  have F1 : Hid (Fr base [D, I] w w1) := hide (by rw [hw1]; exact ((Fr.refl base [D, I] w).alloc hbase _).setCell (.inl (by simp)) hbI _)
  have H := hide (pair_any (c := c) (c' := c') (base := base) D1 I1.out O1 R1 S1 (hr.below (F1.out.below hB)) hn hlc (hr'.below (F1.out.below hB)) hn' hlc' hl hl' hz (Nat.le_trans hbase F1.out.size) hbD hID hSD hB)
  have hC7 := (hC.alloc (.cells #[.pointer (some ⟨C, 0, none⟩)] 48)).c7
  have hI0 := (hI.alloc (.cells #[.pointer (some ⟨C, 0, none⟩)] 48)).cell
  have hI1 := (hI.alloc (.cells #[.pointer (some ⟨C, 0, none⟩)] 48)).free
  have HW := hide hw1
  clear hC hI hb ho hR hS hr hn hr' hn' D1 O1 R1 S1 hw1
  have hmf : ∀ (fn : Fn) (first cap : Array Value) (w : World), (Instr.makeFunc fn first cap).run Try.prog w = .ok (.func fn first cap) w := fun _ _ _ _ => rfl
  go_enter_defers Try.func38, Try.ntmps38
  go_wp2_with (first | (go_at_call 25; rw [← HW.out]; refine H.out.mono ?_) | fail)
  rintro e w2 ⟨rfl, f2, h2⟩
  have C2 := hide (f2.bl C1.out (by simpa using hCD))
  have I2 := hide (f2.bx I1.out (by decide) (by simpa using hID))
  have X2 := hide (f2.bx X1.out (by decide) (by simpa using hXD))
  have F2 := hide (F1.out.trans f2 (by intro i hi; left; simp at hi ⊢; exact .inl hi))
  have H2 := hide h2
  clear h2 f2
  go_wp2_with fail
  refine leaves_cons (f := 43) (args := #[.pointer (some ⟨w.heap.size, 0, none⟩)]) (by simp) (by simp [go_sem]) ?_
  refine (leave_idle X2.out C2.out I2.out).mono ?_
  rintro e u' w3 ⟨rfl, rfl, rfl⟩
  refine ⟨_, results_none rfl _ _ _, rfl, F2.out.setCell (.inl (by simp)) hbI _, ?_⟩
  rcases H2.out with ⟨h, h', v', b, o⟩ | ⟨h, a, v', b⟩
  · exact .inl ⟨h, h', v', _, b.far2 hDI _, o.far (I2.out.ne_own (by decide) o) _⟩
  · exact .inr ⟨h, a, v', _, b.far2 hDI _⟩
end
end Go.Proofs.Ytlmidbmmnjnagaa

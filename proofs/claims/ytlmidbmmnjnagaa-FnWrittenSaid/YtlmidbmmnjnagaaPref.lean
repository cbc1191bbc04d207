/- The walks of the Builder's addLengthPrefixed and AddASN1 within another. -/
import Derived.Test.YtlmidbmmnjnagaaCont
namespace Go.Proofs.Ytlmidbmmnjnagaa
open Go.RowKit

attribute [local go_sem ↓] sliced_tl
attribute [local go_sem] tl_zero

section
variable {w : World} {C D X I base B n c off : Nat} {A : Option Addr} {err res resP ic icP u v : Value} {pend : Int} {asn : Bool} {pre content xs ys : List Int}

theorem Bl.new {w : World} {g N c : Nat} {A : Option Addr} {off pend : Int} {asn : Bool} {ic : Value} (hg : w.heap.size = g) :
    Bl (w.alloc (.cells #[.nilIface, .slice A N c, .bool false, .pointer none, .int .i64 off, .int .i64 pend, .bool asn, ic] 51)) g .nilIface (.slice A N c) (.pointer none) off pend asn ic := by
  subst hg
  exact heap_alloc_new w _

set_option maxRecDepth 100000 in
set_option maxHeartbeats 2000000 in
theorem pref_in {offC : Int} (hC : Bl w C .nilIface res (.pointer none) offC pend asn (.pointer (some ⟨I, 0, none⟩))) (hI : Box w I 4 (.bool true))
    (ho : Own w base res ys) (hx : Box w X 22 (.slice A n c)) (hr : Rd w B A xs) (hn : xs.length = n) (h0 : 0 < n) (hl : ys.length + n ≤ 40000)
    (hbase : base ≤ w.heap.size) (hbC : base ≤ C) (hXC : X ≠ C) (hIC : I ≠ C) (hB : B ≤ base) :
    Calls Try.prog 31 #[.pointer (some ⟨C, 0, none⟩), .int .i64 1, .bool true, .func (Fn.func 33) #[] #[.pointer (some ⟨X, 0, none⟩)]] w
      (AddPost C base offC pend asn (.pointer (some ⟨I, 0, none⟩)) (ys ++ lenBytes (intContent xs).length ++ intContent xs) w) := by
  have k0 := hC.c0
  have k1 := hC.c1
  obtain ⟨m, hm⟩ : ∃ m, ys.length = m := ⟨_, rfl⟩
  obtain ⟨A0, c0, rfl, _, _, _⟩ := ho.rd
  rw [hm] at k1 hl
  have hmk : ∀ w, (Instr.makeSlice 22 (.int .i64 1) (.int .i64 1)).run Try.prog w = .ok (.slice (some ⟨w.heap.size, 0, none⟩) 1 1) (w.alloc (.cells #[.int .u8 0] 5)) := fun _ => by kernel_rfl
  have HM := hide hm
  have HX := hide hx
  have HR := hide hr
  have HN := hide hn
  have HI := hide hI
  have HCl := hide hC.lt
  have HIl := hide hI.lt
  have HXl := hide hx.lt
  have r1 : Rd (w.alloc (.cells #[.int .u8 0] 5)) (w.heap.size + 1) (some ⟨w.heap.size, 0, none⟩) [0] := Rd.lit (xs := [0]) rfl (by simp)
  have HA := hide (add_any (c := 1) (m := 1) (hC.alloc (.cells #[.int .u8 0] 5)) (ho.alloc _) r1 rfl (by omega) (by simp; omega) hbC)
  clear hC hI ho hx hr hn hm r1
  have HIc : Hid ((intContent xs).length ≤ n + 1) := hide (by have := intContent_length xs; rw [HN.out] at this; exact this)
  obtain ⟨k, hk⟩ : ∃ k, (intContent xs).length = k := ⟨_, rfl⟩
  obtain ⟨zs, hzs⟩ : ∃ zs, zs = ys ++ lenBytes (intContent xs).length ++ intContent xs := ⟨_, rfl⟩
  rw [← hzs]
  rw [hk] at hzs HIc
  have HK := hide hk
  have HZ := hide hzs
  clear hk hzs
  go_enter Try.func31, Try.ntmps31
  go_wp2_with fail
  refine HA.out.mono ?_
  rintro e w1 ⟨rfl, ⟨v1, b1, o1⟩, f1⟩
  obtain ⟨A1, N1, c1, rfl⟩ := o1.form
  have F1 := hide (((Fr.refl base [C] w).alloc hbase (.cells #[.int .u8 0] 5)).trans f1 (fun i hi => .inl hi))
  have I1 := hide (F1.out.bx HI.out (by decide) (by simpa using hIC))
  have X1 := hide (F1.out.bx HX.out (by decide) (by simpa using hXC))
  have R1 := hide (HR.out.below (F1.out.below hB))
  have d0 := b1.c0
  have d1 := b1.c1
  have d2 := b1.c2
  have d3 := (b1.alloc (.cells #[.nilIface, .slice A1 N1 c1, .bool false, .pointer none, .int .i64 m, .int .i64 1, .bool true, .pointer (some ⟨I, 0, none⟩)] 51)).c3
  have d7 := b1.c7
  have df3 := (b1.alloc (.cells #[.nilIface, .slice A1 N1 c1, .bool false, .pointer none, .int .i64 m, .int .i64 1, .bool true, .pointer (some ⟨I, 0, none⟩)] 51)).fr 3
  have B1 := hide b1
  have O1 := hide o1
  have hs1 := F1.out.size
  clear b1 o1 f1 k0 k1 hmk HA
  go_wp2_with fail
  go_region
  go_wp2_with fail
  obtain ⟨D, hD⟩ : ∃ D, w1.heap.size = D := ⟨_, rfl⟩
  rw [hD]
  have hCD : C ≠ D := by have := HCl.out; omega
  have hXD : X ≠ D := by have := HXl.out; omega
  have hID : I ≠ D := by have := HIl.out; omega
  have hDb : base ≤ D := by omega
  have HD := hide hD
  have F2 := hide (((F1.out.alloc (Nat.le_trans hbase hs1) (.cells #[.nilIface, .slice A1 N1 c1, .bool false, .pointer none, .int .i64 m, .int .i64 1, .bool true, .pointer (some ⟨I, 0, none⟩)] 51)).setCell (g := C) (o := 3) (.inl (by simp)) hbC (.pointer (some ⟨D, 0, none⟩))).drewN 1)
  have C2 := hide (((B1.out.alloc (.cells #[.nilIface, .slice A1 N1 c1, .bool false, .pointer none, .int .i64 m, .int .i64 1, .bool true, .pointer (some ⟨I, 0, none⟩)] 51)).set3 (.pointer (some ⟨D, 0, none⟩))).drewN 1)
  have I2 := hide (((I1.out.alloc (.cells #[.nilIface, .slice A1 N1 c1, .bool false, .pointer none, .int .i64 m, .int .i64 1, .bool true, .pointer (some ⟨I, 0, none⟩)] 51)).far2 (o := 3) hIC (.pointer (some ⟨D, 0, none⟩))).drewN 1)
  have X2 := hide (((X1.out.alloc (.cells #[.nilIface, .slice A1 N1 c1, .bool false, .pointer none, .int .i64 m, .int .i64 1, .bool true, .pointer (some ⟨I, 0, none⟩)] 51)).far2 (o := 3) hXC (.pointer (some ⟨D, 0, none⟩))).drewN 1)
  have D2 := hide (((Bl.new (w := w1) (A := A1) (N := N1) (c := c1) (off := m) (pend := 1) (asn := true) (ic := .pointer (some ⟨I, 0, none⟩)) hD).far2 (o := 3) (fun e => hCD e.symm) (.pointer (some ⟨D, 0, none⟩))).drewN 1)
  have O2 := hide (((O1.out.alloc (.cells #[.nilIface, .slice A1 N1 c1, .bool false, .pointer none, .int .i64 m, .int .i64 1, .bool true, .pointer (some ⟨I, 0, none⟩)] 51)).far (o := 3) (B1.out.ne_own O1.out) (.pointer (some ⟨D, 0, none⟩))).drewN 1)
  have R2 := hide (HR.out.below (F2.out.below hB))
  have hs2 := F2.out.size
  clear d0 d1 d2 d3 d7 df3
  refine (cont_in (base := base) C2.out I2.out D2.out O2.out X2.out R2.out HN.out h0 (by simp; have := HM.out; omega) (Nat.le_trans hbase hs2) hDb hXD hB).mono ?_
  rintro e w3 ⟨rfl, ⟨v3, b3, o3⟩, f3⟩
  have C3 := hide (f3.bl C2.out (by simpa using hCD))
  have B3 := hide b3
  have O3 := hide o3
  have F3 := hide (F2.out.trans f3 (by intro i hi; right; simp at hi; omega))
  have e3 := C3.out.c3
  have hs3 := F3.out.size
  clear b3 o3 f3
  go_wp2_with fail
  refine (flush_ok (base := base) C3.out B3.out O3.out HM.out HK.out (by have := HIc.out; omega) hbC hDb (Nat.le_trans hbase hs3) hCD).mono ?_
  rintro e w4 ⟨rfl, ⟨v4, b4, o4⟩, f4⟩
  have g3 := b4.c3
  have B4 := hide b4
  have O4 := hide o4
  have F4 := hide (F3.out.trans f4 (by intro i hi; simp at hi; rcases hi with h | h; left; simp [h]; right; omega))
  clear b4 o4 f4 e3
  go_wp2_with fail
  go_end0
  refine ⟨rfl, ⟨v4, B4.out, ?_⟩, F4.out⟩
  rw [HZ.out]
  exact O4.out

theorem asn_in {offC : Int} (hC : Bl w C .nilIface res (.pointer none) offC pend asn (.pointer (some ⟨I, 0, none⟩))) (hI : Box w I 4 (.bool true))
    (ho : Own w base res ys) (hx : Box w X 22 (.slice A n c)) (hr : Rd w B A xs) (hn : xs.length = n) (h0 : 0 < n) (hl : ys.length + n ≤ 30000)
    (hbase : base ≤ w.heap.size) (hbC : base ≤ C) (hXC : X ≠ C) (hIC : I ≠ C) (hB : B ≤ base) :
    Calls Try.prog 24 #[.pointer (some ⟨C, 0, none⟩), .int .u8 2, .func (Fn.func 33) #[] #[.pointer (some ⟨X, 0, none⟩)]] w
      (AddPost C base offC pend asn (.pointer (some ⟨I, 0, none⟩)) (ys ++ derInt xs) w) := by
  have k0 := hC.c0
  have HA := hide (AddUint8_any (z := 2) hC ho (by omega) (by omega) hbase hbC)
  have HI := hide hI
  have HX := hide hx
  have HR := hide hr
  have HN := hide hn
  obtain ⟨zs, hzs⟩ : ∃ zs, zs = ys ++ derInt xs := ⟨_, rfl⟩
  rw [← hzs]
  have HZ := hide hzs
  clear hC ho hI hx hr hn hzs
  go_enter Try.func24, Try.ntmps24
  go_wp2_with fail
  refine HA.out.mono ?_
  rintro e w1 ⟨rfl, ⟨v1, b1, o1⟩, f1⟩
  have I1 := hide (f1.bx HI.out (by decide) (by simpa using hIC))
  have X1 := hide (f1.bx HX.out (by decide) (by simpa using hXC))
  have R1 := hide (HR.out.below (f1.below hB))
  have B1 := hide b1
  have O1 := hide o1
  have F1 := hide f1
  clear b1 o1 f1 k0
  go_wp2_with fail
  refine (pref_in B1.out I1.out O1.out X1.out R1.out HN.out h0 (by simp; omega) (Nat.le_trans hbase F1.out.size) hbC hXC hIC hB).mono ?_
  rintro e w2 ⟨rfl, ⟨v2, b2, o2⟩, f2⟩
  have B2 := hide b2
  have O2 := hide o2
  have F2 := hide (F1.out.trans f2 (fun i hi => .inl hi))
  clear b2 o2 f2
  go_wp2_with fail
  go_end0
  refine ⟨rfl, ⟨v2, B2.out, ?_⟩, F2.out⟩
  have h := O2.out
  rw [HZ.out, show ys ++ derInt xs = ys ++ [2] ++ lenBytes (intContent xs).length ++ intContent xs by unfold derInt tagged; simp]
  exact h
end
end Go.Proofs.Ytlmidbmmnjnagaa

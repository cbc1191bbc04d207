/- The walks of addLengthPrefixed, AddASN1, Bytes on the outermost Builder, and of the signature's writer. -/
import Derived.Test.YtlmidbmmnjnagaaOuter
namespace Go.Proofs.Ytlmidbmmnjnagaa
open Go.RowKit

attribute [local go_sem ↓] sliced_tl
attribute [local go_sem] tl_zero

section
variable {w : World} {C D X I base B n l c : Nat} {off : Int} {A : Option Addr} {err res resP child ic icP u v : Value} {pend : Int} {asn : Bool} {pre content xs ys : List Int}

set_option maxRecDepth 100000 in
set_option maxHeartbeats 2000000 in
theorem pref_out {R S l' c' : Nat} {offC : Int} {A' : Option Addr} {zs : List Int}
    (hC : Bl w C .nilIface res (.pointer none) offC pend asn (.pointer none)) (ho : Own w base res zs)
    (hR : Box w R 22 (.slice A l c)) (hS : Box w S 22 (.slice A' l' c')) (hr : Rd w B A xs) (hn : xs.length = l) (hlc : l ≤ c) (hr' : Rd w B A' ys) (hn' : ys.length = l') (hlc' : l' ≤ c') (hl : l ≤ 5000) (hl' : l' ≤ 5000) (hz : zs.length ≤ 50)
    (hbase : base ≤ w.heap.size) (hbC : base ≤ C) (hRC : R ≠ C) (hSC : S ≠ C) (hB : B ≤ base) :
    Calls Try.prog 31 #[.pointer (some ⟨C, 0, none⟩), .int .i64 1, .bool true, .func (Fn.func 25) #[] #[.pointer (some ⟨R, 0, none⟩), .pointer (some ⟨S, 0, none⟩)]] w
      (TopPost [C] C base offC pend asn (zs ++ lenBytes (derInt (strip xs) ++ derInt (strip ys)).length ++ (derInt (strip xs) ++ derInt (strip ys))) xs ys w) := by
  have k0 := hC.c0
  have k1 := hC.c1
  obtain ⟨m, hm⟩ : ∃ m, zs.length = m := ⟨_, rfl⟩
  obtain ⟨A0, c0, rfl, _, _, _⟩ := ho.rd
  rw [hm] at k1 hz
  have hmk : ∀ w, (Instr.makeSlice 22 (.int .i64 1) (.int .i64 1)).run Try.prog w = .ok (.slice (some ⟨w.heap.size, 0, none⟩) 1 1) (w.alloc (.cells #[.int .u8 0] 5)) := fun _ => by kernel_rfl
  have HM := hide hm
  have HRb := hide hR
  have HSb := hide hS
  have HR := hide hr
  have HR' := hide hr'
  have HN := hide hn
  have HN' := hide hn'
  have HCl := hide hC.lt
  have HRl := hide hR.lt
  have HSl := hide hS.lt
  have r1 : Rd (w.alloc (.cells #[.int .u8 0] 5)) (w.heap.size + 1) (some ⟨w.heap.size, 0, none⟩) [0] := Rd.lit (xs := [0]) rfl (by simp)
  have HA := hide (add_any (c := 1) (m := 1) (hC.alloc (.cells #[.int .u8 0] 5)) (ho.alloc _) r1 rfl (by omega) (by simp; omega) hbC)
  have HIc : Hid ((derInt (strip xs) ++ derInt (strip ys)).length ≤ l + l' + 10) := hide (by
    have h1 := derInt_length (strip xs); have h2 := strip_length xs; rw [hn] at h2
    have h3 := derInt_length (strip ys); have h4 := strip_length ys; rw [hn'] at h4
    rw [List.length_append]; omega)
  clear hC ho hR hS hr hr' hn hn' hm r1
  obtain ⟨ct, hct⟩ : ∃ ct, derInt (strip xs) ++ derInt (strip ys) = ct := ⟨_, rfl⟩
  rw [hct] at HIc ⊢
  obtain ⟨k, hk⟩ : ∃ k, ct.length = k := ⟨_, rfl⟩
  obtain ⟨us, hus⟩ : ∃ us, us = zs ++ lenBytes ct.length ++ ct := ⟨_, rfl⟩
  rw [← hus]
  rw [hk] at hus HIc
  have HK := hide hk
  have HZ := hide hus
  have HCt := hide hct
  clear hk hus hct
  go_enter Try.func31, Try.ntmps31
  go_wp2_with fail
  refine HA.out.mono ?_
  rintro e w1 ⟨rfl, ⟨v1, b1, o1⟩, f1⟩
  obtain ⟨A1, N1, c1, rfl⟩ := o1.form
  have F1 := hide (((Fr.refl base [C] w).alloc hbase (.cells #[.int .u8 0] 5)).trans f1 (fun i hi => .inl hi))
  have hs1 := F1.out.size
  obtain ⟨I, hI⟩ : ∃ I, w1.heap.size = I := ⟨_, rfl⟩
  have hIC : I ≠ C := by have := HCl.out; omega
  have hIR : R ≠ I := by have := HRl.out; omega
  have hIS : S ≠ I := by have := HSl.out; omega
  have hbI : base ≤ I := by omega
  obtain ⟨wi, hwi⟩ : ∃ wi, (w1.alloc (.cells #[.bool false] 4)).setCell ⟨C, 7, none⟩ (.pointer (some ⟨I, 0, none⟩)) = wi := ⟨_, rfl⟩
  have hCi : C ≠ w1.heap.size := by rw [hI]; exact fun e => hIC e.symm
  have bi : Bl wi C .nilIface (.slice A1 N1 c1) (.pointer none) offC pend asn (.pointer (some ⟨I, 0, none⟩)) := by rw [← hwi]; exact (b1.alloc _).set7 _
  have Fi := hide (show Fr base [C] w wi by rw [← hwi]; exact (F1.out.alloc (Nat.le_trans hbase hs1) _).setCell (.inl (by simp)) hbC _)
  have Oi := hide (show Own wi base (.slice A1 N1 c1) (zs ++ [0]) by rw [← hwi]; exact (o1.alloc _).far (b1.ne_own o1) _)
  have Ii := hide (show Box wi I 4 (.bool false) by rw [← hwi]; exact (Box.new' hI 4 (.bool false)).far2 hIC _)
  have Bi := hide bi
  have hsi := Fi.out.size
  have hDi : wi.heap.size = I + 1 := by rw [← hwi]; simp [World.setCell, hI]
  have d0 := b1.c0
  have d7 := b1.c7
  have i7 := (b1.alloc (.cells #[.bool false] 4)).c7
  have if7 := (b1.alloc (.cells #[.bool false] 4)).fr 7
  have d1 := bi.c1
  have d2 := bi.c2
  have e7 := bi.c7
  have d3 := (bi.alloc (.cells #[.nilIface, .slice A1 N1 c1, .bool false, .pointer none, .int .i64 m, .int .i64 1, .bool true, .pointer (some ⟨I, 0, none⟩)] 51)).c3
  have df3 := (bi.alloc (.cells #[.nilIface, .slice A1 N1 c1, .bool false, .pointer none, .int .i64 m, .int .i64 1, .bool true, .pointer (some ⟨I, 0, none⟩)] 51)).fr 3
  have HI := hide hI
  have HWi := hide hwi
  clear b1 o1 f1 k0 k1 hmk HA bi hwi
  go_wp2_with fail
  rw [HWi.out]
  go_region
  go_wp2_with fail
  have hCD : C ≠ I + 1 := by have := HCl.out; omega
  have hRD : R ≠ I + 1 := by have := HRl.out; omega
  have hSD : S ≠ I + 1 := by have := HSl.out; omega
  have hID : I ≠ I + 1 := by omega
  have hDb : base ≤ I + 1 := by omega
  have F2 := hide (((Fi.out.alloc (Nat.le_trans hbase hsi) (.cells #[.nilIface, .slice A1 N1 c1, .bool false, .pointer none, .int .i64 m, .int .i64 1, .bool true, .pointer (some ⟨I, 0, none⟩)] 51)).setCell (g := C) (o := 3) (.inl (by simp)) hbC (.pointer (some ⟨I + 1, 0, none⟩))).drewN 1)
  have C2 := hide (((Bi.out.alloc (.cells #[.nilIface, .slice A1 N1 c1, .bool false, .pointer none, .int .i64 m, .int .i64 1, .bool true, .pointer (some ⟨I, 0, none⟩)] 51)).set3 (.pointer (some ⟨I + 1, 0, none⟩))).drewN 1)
  have I2 := hide (((Ii.out.alloc (.cells #[.nilIface, .slice A1 N1 c1, .bool false, .pointer none, .int .i64 m, .int .i64 1, .bool true, .pointer (some ⟨I, 0, none⟩)] 51)).far2 (o := 3) hIC (.pointer (some ⟨I + 1, 0, none⟩))).drewN 1)
  have R2 := hide ((((Fi.out.bx HRb.out (by decide) (by simpa using hRC)).alloc (.cells #[.nilIface, .slice A1 N1 c1, .bool false, .pointer none, .int .i64 m, .int .i64 1, .bool true, .pointer (some ⟨I, 0, none⟩)] 51)).far2 (o := 3) hRC (.pointer (some ⟨I + 1, 0, none⟩))).drewN 1)
  have S2 := hide ((((Fi.out.bx HSb.out (by decide) (by simpa using hSC)).alloc (.cells #[.nilIface, .slice A1 N1 c1, .bool false, .pointer none, .int .i64 m, .int .i64 1, .bool true, .pointer (some ⟨I, 0, none⟩)] 51)).far2 (o := 3) hSC (.pointer (some ⟨I + 1, 0, none⟩))).drewN 1)
  have D2 := hide (((Bl.new (w := wi) (A := A1) (N := N1) (c := c1) (off := m) (pend := 1) (asn := true) (ic := .pointer (some ⟨I, 0, none⟩)) hDi).far2 (o := 3) (fun e => hCD e.symm) (.pointer (some ⟨I + 1, 0, none⟩))).drewN 1)
  have O2 := hide (((Oi.out.alloc (.cells #[.nilIface, .slice A1 N1 c1, .bool false, .pointer none, .int .i64 m, .int .i64 1, .bool true, .pointer (some ⟨I, 0, none⟩)] 51)).far (o := 3) (Bi.out.ne_own Oi.out) (.pointer (some ⟨I + 1, 0, none⟩))).drewN 1)
  have Ra := hide (HR.out.below (F2.out.below hB))
  have Rb := hide (HR'.out.below (F2.out.below hB))
  have hs2 := F2.out.size
  clear d0 d1 d2 d3 d7 df3 e7 i7 if7
  refine (cont_out (base := base) C2.out I2.out D2.out O2.out R2.out S2.out Ra.out HN.out hlc Rb.out HN'.out hlc' hl hl' (by have := HM.out; simp; omega) (Nat.le_trans hbase hs2) hDb hbI hCD hID hIC hSD hIR hIS hB).mono ?_
  rintro e w3 ⟨rfl, f3, ⟨n1, n2, v3, ic3, b3, o3⟩ | ⟨n1, a3, v3, ic3, b3⟩⟩
  · rw [HCt.out] at o3
    have C3 := hide (f3.bl C2.out (by simp; exact ⟨hCD, fun e => hIC e.symm⟩))
    have B3 := hide b3
    have O3 := hide o3
    have F3 := hide (F2.out.trans f3 (by intro i hi; right; simp at hi; omega))
    have N1' := hide n1
    have N2' := hide n2
    have e3 := C3.out.c3
    have hs3 := F3.out.size
    clear b3 o3 f3 n1 n2
    go_wp2_with fail
    refine (flush_ok (base := base) C3.out B3.out O3.out HM.out HK.out (by have := HIc.out; omega) hbC hDb (Nat.le_trans hbase hs3) hCD).mono ?_
    rintro e w4 ⟨rfl, ⟨v4, b4, o4⟩, f4⟩
    have g3 := b4.c3
    have B4 := hide b4
    have O4 := hide o4
    have F4 := hide (F3.out.trans f4 (by intro i hi; simp at hi; rcases hi with h | h; left; simp [h]; right; omega))
    clear b4 o4 f4 e3
    go_wp2_with fail
    go_end0
    refine ⟨rfl, F4.out, .inl ⟨N1'.out, N2'.out, v4, _, B4.out, ?_⟩⟩
    rw [HZ.out]
    exact O4.out
  · have C3 := hide (f3.bl C2.out (by simp; exact ⟨hCD, fun e => hIC e.symm⟩))
    have B3 := hide b3
    have F3 := hide (F2.out.trans f3 (by intro i hi; right; simp at hi; omega))
    have N1' := hide n1
    have e3 := C3.out.c3
    clear b3 f3 n1
    go_wp2_with fail
    refine (flush_err C3.out B3.out hCD).mono ?_
    rintro e w4 ⟨rfl, b4, hw4⟩
    have g3 := b4.c3
    have B4 := hide b4
    have F4 := hide (show Fr base [C] w w4 by rw [hw4]; exact (F3.out.setCell (.inl (by simp)) hbC _).setCell (.inl (by simp)) hbC _)
    clear b4 hw4 e3
    go_wp2_with fail
    go_end0
    exact ⟨rfl, F4.out, .inr ⟨N1'.out, a3, _, _, B4.out⟩⟩

theorem asn_out {R S l' c' : Nat} {offC : Int} {A' : Option Addr}
    (hC : Bl w C .nilIface (.slice none 0 0) (.pointer none) offC pend asn (.pointer none))
    (hR : Box w R 22 (.slice A l c)) (hS : Box w S 22 (.slice A' l' c')) (hr : Rd w B A xs) (hn : xs.length = l) (hlc : l ≤ c) (hr' : Rd w B A' ys) (hn' : ys.length = l') (hlc' : l' ≤ c') (hl : l ≤ 5000) (hl' : l' ≤ 5000)
    (hbase : base ≤ w.heap.size) (hbC : base ≤ C) (hRC : R ≠ C) (hSC : S ≠ C) (hB : B ≤ base) :
    Calls Try.prog 24 #[.pointer (some ⟨C, 0, none⟩), .int .u8 48, .func (Fn.func 25) #[] #[.pointer (some ⟨R, 0, none⟩), .pointer (some ⟨S, 0, none⟩)]] w
      (TopPost [C] C base offC pend asn (der (strip xs) (strip ys)) xs ys w) := by
  have k0 := hC.c0
  have HA := hide (AddUint8_any (z := 48) hC (Own.nil w base) (by omega) (by simp) hbase hbC)
  have HRb := hide hR
  have HSb := hide hS
  have HR := hide hr
  have HR' := hide hr'
  have HN := hide hn
  have HN' := hide hn'
  obtain ⟨zs, hzs⟩ : ∃ zs, zs = der (strip xs) (strip ys) := ⟨_, rfl⟩
  rw [← hzs]
  have HZ := hide hzs
  clear hC hR hS hr hr' hn hn' hzs
  go_enter Try.func24, Try.ntmps24
  go_wp2_with fail
  refine HA.out.mono ?_
  rintro e w1 ⟨rfl, ⟨v1, b1, o1⟩, f1⟩
  have Rb := hide (f1.bx HRb.out (by decide) (by simpa using hRC))
  have Sb := hide (f1.bx HSb.out (by decide) (by simpa using hSC))
  have R1 := hide (HR.out.below (f1.below hB))
  have R1' := hide (HR'.out.below (f1.below hB))
  have B1 := hide b1
  have O1 := hide o1
  have F1 := hide f1
  clear b1 o1 f1 k0
  go_wp2_with fail
  refine (pref_out B1.out O1.out Rb.out Sb.out R1.out HN.out hlc R1'.out HN'.out hlc' hl hl' (by simp) (Nat.le_trans hbase F1.out.size) hbC hRC hSC hB).mono ?_
  rintro e w2 ⟨rfl, f2, h2⟩
  have H2 := hide h2
  have F2 := hide (F1.out.trans f2 (fun i hi => .inl hi))
  clear h2 f2
  go_wp2_with fail
  go_end0
  refine ⟨rfl, F2.out, ?_⟩
  have h := H2.out
  rw [HZ.out, show der (strip xs) (strip ys) = [] ++ [48] ++ lenBytes (derInt (strip xs) ++ derInt (strip ys)).length ++ (derInt (strip xs) ++ derInt (strip ys)) by unfold der tagged; simp]
  exact h
end
end Go.Proofs.Ytlmidbmmnjnagaa

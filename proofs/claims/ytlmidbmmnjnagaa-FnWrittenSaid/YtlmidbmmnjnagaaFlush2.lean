/- The walk of the Builder's flushChild where the length takes more than one byte: the content is moved along. -/
import Derived.Test.YtlmidbmmnjnagaaFlush
import Derived.Test.YtlmidbmmnjnagaaPlain5
namespace Go.Proofs.Ytlmidbmmnjnagaa
open Go.RowKit

attribute [local go_sem ↓] sliced_tl
attribute [local go_sem] tl_zero

theorem step_copy_own {ops : Array Oper} {o : Oper} {a : Act} {w : World} {K : Act → World → Prop} {Q : Exit → Act → World → Prop} {E : Prop} {base B g N cap k m dLen sLen sCap dCap : Nat} {sp : Option Addr} {xs ys : List Int}
    (hgd : o.guard = none) (d s : Operand) (ho : o.op = .call { callee := .builtin .copy, args := #[d, s], argTypes := #[22, 22] })
    (hd : a.eval d = .slice (some ⟨g, k, none⟩) dLen dCap) (hs : a.eval s = .slice sp sLen sCap)
    (hown : Own w base (.slice (some ⟨g, 0, none⟩) N cap) xs) (hr : Rd w B sp ys) (hys : ys.length = sLen) (hdl : dLen = N - k) (hm : m = Nat.min sLen (N - k)) (hm0 : 0 < m) (hk : k + m ≤ N)
    (h : ∀ w', Own w' base (.slice (some ⟨g, 0, none⟩) N cap) (xs.take k ++ ys.take m ++ xs.drop (k + m)) → w.grownBy w' (some g) → K (a.put o.dst (goInt m)) w') :
    if Region.wanted o (yielded ops a.tmps) = true then Oper.wp Try.prog o a w K Q else E := by
  have hw : Region.wanted o (yielded ops a.tmps) = true := by simp [Region.wanted, hgd]
  rw [if_pos hw]
  subst hdl
  obtain ⟨w', hrun, h1, h2⟩ := own_copy (dCap := dCap) (sCap := sCap) hown hr hys hm hm0 hk o.type
  unfold Oper.wp execOp
  simp only [ho, resolve, invoke, builtin, Sem.run_bind, Sem.run_pure, Result.andThen_ok, List.map_toArray, List.map_cons, List.map_nil, hd, hs, hrun]
  exact h w' h1 h2

theorem own_some {w : World} {base : Nat} {v : Value} {xs : List Int} (h : Own w base v xs) (hx : 0 < xs.length) : ∃ g cap, v = .slice (some ⟨g, 0, none⟩) xs.length cap ∧ xs.length ≤ cap ∧ base ≤ g := by
  rcases h.1.2 with ⟨_, e⟩ | ⟨g, cap, cur, e, hb, _, hc, _⟩
  · omega
  · exact ⟨g, cap, e, hc, hb⟩

section
variable {w : World} {P C base n off : Nat} {err res resP ic icP u : Value} {asn : Bool} {pre content : List Int}

set_option maxRecDepth 100000 in
set_option maxHeartbeats 2000000 in
theorem flush_mid {offP pendP : Int} {g cap L : Nat} (hP : Bl w P .nilIface resP (.pointer (some ⟨C, 0, none⟩)) offP pendP asn icP) (hC : Bl w C .nilIface (.slice (some ⟨g, 0, none⟩) L cap) (.pointer none) off 1 true ic)
    (ho : Own w base (.slice (some ⟨g, 0, none⟩) L cap) (pre ++ [0] ++ content)) (hpre : pre.length = off) (hn : content.length = n) (hL : L = off + 1 + n) (hsm : L ≤ 90000) (h128 : 128 ≤ n) (h256 : n < 256)
    (hbP : base ≤ P) (hbC : base ≤ C) (hbw : base ≤ w.heap.size) (hPC : P ≠ C) (hgP : g ≠ P) (hgC : g ≠ C) :
    Calls Try.prog 39 #[.pointer (some ⟨P, 0, none⟩)] w (FlushPost P C base offP pendP asn icP (pre ++ lenBytes n ++ content) w) := by
  have p3 := hP.c3
  have pf3 := hP.fr 3
  have c0 := hC.c0
  have c1 := hC.c1
  have c4 := hC.c4
  have c5 := hC.c5
  have c6 := hC.c6
  have hPC' : ¬ C = P := fun e => hPC e.symm
  have hgP' : ¬ P = g := fun e => hgP e.symm
  have hgC' : ¬ C = g := fun e => hgC e.symm
  have HP := hide hP
  have HC := hide hC
  have HO := hide ho
  have HPre := hide hpre
  have HN := hide hn
  have hL1 : L ≤ off + 1 + n := Nat.le_of_eq hL
  have hL2 : off + 1 + n ≤ L := Nat.le_of_eq hL.symm
  have gc : w.cell? ⟨g, off, none⟩ = some (.int .u8 0) := by
    rw [own_cell ho (by simp; omega)]
    simp [← hpre]
  have gf : w.frozen? ⟨g, off, none⟩ = false := own_frozen ho off
  have HLen := hide (own_len ho)
  clear hL hP hC ho hpre hn
  have hmk : ∀ w, (Instr.makeSlice 22 (.int .i64 1) (.int .i64 1)).run Try.prog w = .ok (.slice (some ⟨w.heap.size, 0, none⟩) 1 1) (w.alloc (.cells #[.int .u8 0] 5)) := fun _ => by kernel_rfl
  go_enter Try.func39, Try.ntmps39
  go_wp2_with fail
  refine (flush_leaf HC.out).mono ?_
  rintro e w' ⟨rfl, rfl⟩
  go_wp2_with fail
  go_quiet (fail)
  go_wp2_with fail
  go_region
  go_wp2_with fail
  have hoP : (Value.slice (some ⟨g, 0, none⟩) L cap).ownBlock ≠ some P := by simpa [Value.ownBlock] using hgP
  have hw1 : base ≤ (((w.setCell ⟨P, 3, none⟩ (.pointer none)).drewN (nq + 1)).setCell ⟨g, off, none⟩ (.int .u8 129)).heap.size := by simp [World.setCell]; exact hbw
  have o1 := own_set ((HO.out.far (o := 3) hoP (.pointer none)).drewN (nq + 1)) off (z := 129) (by omega)
  have b1 := ((HC.out.far2 (o := 3) hPC' (.pointer none)).drewN (nq + 1)).far2 (o := off) hgC' (.int .u8 129)
  have q1 := ((HP.out.set3 (.pointer none)).drewN (nq + 1)).far2 (o := off) hgP' (.int .u8 129)
  have f1 : Fr base [P, C] w (((w.setCell ⟨P, 3, none⟩ (.pointer none)).drewN (nq + 1)).setCell ⟨g, off, none⟩ (.int .u8 129)) :=
    Fr.row (((Fr.refl base [P, C] w).setCell (.inl (by simp)) hbP _).drewN _) ((HO.out.far hoP _).drewN _) o1.2 (by simp [World.setCell]; exact hbw)
  have hset : (pre ++ [0] ++ content).set off 129 = pre ++ [129] ++ content := by rw [← HPre.out]; simp
  rw [hset] at o1
  have hl3 : (pre ++ [129] ++ content ++ [0]).length = L + 1 := by have := HLen.out; simp at this ⊢; omega
  have r1 : Rd ((((w.setCell ⟨P, 3, none⟩ (.pointer none)).drewN (nq + 1)).setCell ⟨g, off, none⟩ (.int .u8 129)).alloc (.cells #[.int .u8 0] 5)) (w.heap.size + 1) (some ⟨w.heap.size, 0, none⟩) [0] := Rd.lit (xs := [0]) (by simp [World.setCell]) (by simp)
  have HAdd := hide (add_any (c := 1) (base := base) (b1.alloc (.cells #[.int .u8 0] 5)) (o1.1.alloc _) r1 rfl (by have h := hl3; simp only [List.length_append] at h ⊢; simp at h ⊢; omega) (by simp [World.setCell]; omega) hbC)
  have Q1 := hide (q1.alloc (.cells #[.int .u8 0] 5))
  have F1 := hide (f1.alloc hw1 (.cells #[.int .u8 0] 5))
  have HL3 := hide hl3
  clear o1 b1 q1 f1 hset r1 hl3
  refine HAdd.out.mono ?_
  rintro e w3 ⟨rfl, ⟨v3, b3, o3⟩, f3⟩
  obtain ⟨g3, cap3, rfl, hcap3, hg3⟩ := own_some o3 (by rw [HL3.out]; omega)
  rw [HL3.out] at o3 b3 hcap3
  have q3 := f3.bl Q1.out (by simp; exact hPC)
  have F3 := hide (F1.out.trans f3 (by intro i hi; left; simp at hi ⊢; exact .inr hi))
  have n3P : ¬ P = g3 := by have := q3.ne_own o3; simp [Value.ownBlock] at this; omega
  have n3C : ¬ C = g3 := by have := b3.ne_own o3; simp [Value.ownBlock] at this; omega
  have n3P' : ¬ g3 = P := fun e => n3P e.symm
  have n3C' : ¬ g3 = C := fun e => n3C e.symm
  have d1 := b3.c1
  have d4 := b3.c4
  have d5 := b3.c5
  have B3 := hide b3
  have Q3 := hide q3
  have O3 := hide o3
  clear b3 q3 o3 f3 HAdd Q1 F1 p3 pf3 c0 c1 c4 c5 c6 gc gf hmk
  go_wp2_with fail
  go_quiet (fail)
  go_wp2_with fail
  have ht1 : tl (some ⟨g3, 0, none⟩) (off + 1 + 1) cap3 1 = some ⟨g3, off + 1 + 1, none⟩ := by unfold tl; rw [if_neg (by omega)]; simp [Addr.add]
  have ht2 : tl (some ⟨g3, 0, none⟩) (off + 1) cap3 1 = some ⟨g3, off + 1, none⟩ := by unfold tl; rw [if_neg (by omega)]; simp [Addr.add]
  have R3 : Hid (Rd w3 w3.heap.size (some ⟨g3, off + 1, none⟩) ((pre ++ [129] ++ content ++ [0]).drop (off + 1))) := hide (by
    obtain ⟨A, c, e, hc, _, hr⟩ := O3.out.rd
    rw [HL3.out] at e hc
    cases e
    have h := hr.cut (k := off + 1) (c := cap3) (by rw [HL3.out]; exact hc)
    rw [ht2] at h
    exact h)
  have HY : Hid (((pre ++ [129] ++ content ++ [0]).drop (off + 1)).length = L - off) := hide (by rw [List.length_drop, HL3.out]; omega)
  have hmn : n = Nat.min (L - off) (L + 1 - (off + 1 + 1)) := by simp only [Nat.min_def]; split <;> omega
  have HDL : Hid (L - (off + 1) = L + 1 - (off + 1 + 1)) := hide (by omega)
  have HMN := hide hmn
  clear hmn
  have hk1 : 0 < n := by omega
  have hk2 : off + 1 + 1 + n ≤ L + 1 := by omega
  have i1 : (0 : Int) ≤ (off : Int) + 1 + 1 := by omega
  have i2 : (off : Int) + 1 + 1 ≤ (L : Int) + 1 := by omega
  have i3 : (0 : Int) ≤ (off : Int) + 1 := by omega
  have i4 : (off : Int) + 1 ≤ (L : Int) + 1 := by omega
  have i5 : ((off : Int) + 1 + 1).toNat = off + 1 + 1 := by omega
  have i6 : ((off : Int) + 1).toNat = off + 1 := by omega
  have i7 : IntKind.i64.wrap ((off : Int) + 1 + 1) = (off : Int) + 1 + 1 := by rw [IntKind.wrap_i64]; omega
  have HNe : Hid (some C ≠ some g3 ∧ some P ≠ some g3) := hide ⟨by simpa using n3C, by simpa using n3P⟩
  have hc3 : base ≤ C := hbC
  go_region_law (refine step_copy_own (k := off + 1 + 1) (m := n) (N := L + 1) (g := g3) (cap := cap3) (base := base) (B := w3.heap.size) (ys := (pre ++ [129] ++ content ++ [0]).drop (off + 1)) rfl (.tmp 118) (.tmp 124) rfl rfl rfl (O3.out.drewN _) (R3.out.below (below_drewN (Below.refl _ _) _)) HY.out HDL.out HMN.out hk1 hk2 ?_; intro w4 o4 g4)
  all_goals
    clear i1 i2 i3 i4 i5 i6 i7 ht1 ht2 d1 d4 d5
    have B4 := hide ((B3.out.drewN _).grown g4 HNe.out.1)
    have Q4 := hide ((Q3.out.drewN _).grown g4 HNe.out.2)
    have F4 := hide (Fr.row (F3.out.drewN _) (O3.out.drewN _) g4 (Nat.le_trans hbw F3.out.size))
    obtain ⟨zs, hzs⟩ : ∃ zs, zs = ((pre ++ [129] ++ content ++ [0]).take (off + 1 + 1) ++ ((pre ++ [129] ++ content ++ [0]).drop (off + 1)).take n ++ (pre ++ [129] ++ content ++ [0]).drop (off + 1 + 1 + n)) := ⟨_, rfl⟩
    rw [← hzs] at o4
    have HZs := hide hzs
    have hzl := own_len o4
    obtain ⟨x, hx⟩ : ∃ x, zs[off + 1]? = some x := ⟨_, List.getElem?_eq_getElem (show off + 1 < zs.length by omega)⟩
    have gc : w4.cell? ⟨g3, off + 1, none⟩ = some (.int .u8 x) := by rw [own_cell o4 (by omega), hx]; rfl
    have gf : w4.frozen? ⟨g3, off + 1, none⟩ = false := own_frozen o4 (off + 1)
    have d1 := B4.out.c1
    have d4 := B4.out.c4
    have d5 := B4.out.c5
    have df4 := B4.out.fr 4
    have df5 := B4.out.fr 5
    have e1 := Q4.out.c1
    have e2 := Q4.out.c2
    have ef1 := Q4.out.fr 1
    have O4 := hide o4
    have HZl := hide hzl
    clear hzs hzl hx o4 g4
    go_wp2_with fail
    refine wp_loop_rounds 2 ?_
    rw [rounds_succ]
    go_wp2_with fail
    go_region
    go_wp2_with fail
    rw [rounds_succ]
    go_wp2_with fail
    go_quiet (fail)
    go_wp2_with fail
    go_end0
    have hz : (L : Int) - 1 - off = n := by omega
    rw [hz]
    have ho4 : ∀ k, k ≠ g3 → (Value.slice (some ⟨g3, 0, none⟩) (L + 1) cap3).ownBlock ≠ some k := fun k hk => by simpa [Value.ownBlock] using fun e => hk e.symm
    have hfin : zs.set (off + 1) (n : Int) = pre ++ lenBytes n ++ content := by
      rw [HZs.out, shift_eq (Z := [0]) (e := 1) HPre.out HN.out rfl (by omega), set_mid HPre.out HN.out (by omega), show lenBytes n = [129, (n : Int)] by unfold lenBytes; rw [if_neg (by omega), if_pos h256]]
    rw [← hfin]
    have o5 := (O4.out.far (o := 4) (ho4 C n3C) (.int .i64 (off + 1))).far (o := 5) (ho4 C n3C) (.int .i64 1)
    have o6 := own_set o5 (off + 1) (z := n) (by omega)
    refine ⟨rfl, ⟨_, ((((Q4.out.far2 hPC _).far2 hPC _).far2 n3P _).drewN _).set1 _, (o6.1.drewN _).far (ho4 P n3P) _⟩, ?_⟩
    have f5 := (F4.out.setCell (o := 4) (.inl (by simp)) hbC (.int .i64 (off + 1))).setCell (o := 5) (.inl (by simp)) hbC (.int .i64 1)
    exact ((Fr.row f5 o5 o6.2 (Nat.le_trans hbw f5.size)).drewN _).setCell (.inl (by simp)) hbP _
end
end Go.Proofs.Ytlmidbmmnjnagaa

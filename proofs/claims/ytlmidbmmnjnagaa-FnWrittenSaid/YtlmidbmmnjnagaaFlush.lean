/- The walk of the Builder's flushChild. -/
import Derived.Test.YtlmidbmmnjnagaaBld
import Derived.Laws.CopyOwn
import Derived.Deep.RegionLaw
namespace Go.Proofs.Ytlmidbmmnjnagaa
open Go.RowKit

attribute [local go_sem ↓] sliced_tl
attribute [local go_sem] tl_zero

theorem own_len {w : World} {base g N cap : Nat} {xs : List Int} (h : Own w base (.slice (some ⟨g, 0, none⟩) N cap) xs) : xs.length = N := by
  rcases h.1.2 with ⟨e, _⟩ | ⟨g', cap', cur, e, _⟩
  · cases e
  · simp only [Value.slice.injEq] at e
    exact e.2.1.symm
theorem own_cell {w : World} {base g N cap j : Nat} {xs : List Int} (h : Own w base (.slice (some ⟨g, 0, none⟩) N cap) xs) (hj : j < xs.length) : w.cell? ⟨g, j, none⟩ = (xs[j]?).map (Value.int .u8) := by
  have e := own_len h
  subst e
  rw [h.1.cellAt j (by omega), List.getElem?_map]
theorem own_frozen {w : World} {base g N cap : Nat} {xs : List Int} (h : Own w base (.slice (some ⟨g, 0, none⟩) N cap) xs) (j : Nat) : w.frozen? ⟨g, j, none⟩ = false := by
  have e := own_len h
  subst e
  exact h.1.frozenAt j
theorem own_set {w : World} {base g N cap : Nat} {xs : List Int} (h : Own w base (.slice (some ⟨g, 0, none⟩) N cap) xs) (j : Nat) {z : Int} (hz : 0 ≤ z ∧ z ≤ 255) :
    Own (w.setCell ⟨g, j, none⟩ (.int .u8 z)) base (.slice (some ⟨g, 0, none⟩) N cap) (xs.set j z) ∧ w.grownBy (w.setCell ⟨g, j, none⟩ (.int .u8 z)) (some g) := by
  have e := own_len h
  subst e
  obtain ⟨h1, h2⟩ := h.1.stored j (.int .u8 z)
  refine ⟨⟨?_, ?_⟩, h2⟩
  · rw [List.length_set, List.map_set]
    exact h1
  · intro x hx
    rcases List.mem_or_eq_of_mem_set hx with h' | h'
    · exact h.2 x h'
    · subst h'; exact hz

theorem own_copy {w : World} {base B g N cap k m sLen sCap dCap : Nat} {sp : Option Addr} {xs ys : List Int} (ho : Own w base (.slice (some ⟨g, 0, none⟩) N cap) xs) (hr : Rd w B sp ys) (hys : ys.length = sLen)
    (hm : m = Nat.min sLen (N - k)) (hm0 : 0 < m) (hk : k + m ≤ N) (ty : TypeId) :
    ∃ w', (Builtin.copy_ #[22, 22] ty #[.slice (some ⟨g, k, none⟩) (N - k) dCap, .slice sp sLen sCap]).run Try.prog w = .ok (goInt m) w' ∧
      Own w' base (.slice (some ⟨g, 0, none⟩) N cap) (xs.take k ++ ys.take m ++ xs.drop (k + m)) ∧ w.grownBy w' (some g) := by
  have hN := own_len ho
  rcases ho.1.2 with ⟨e, _⟩ | ⟨g', cap', cur, e, hbg, hg, hnc, hcm, hcs, htake⟩
  · cases e
  · simp only [Value.slice.injEq, Option.some.injEq, Addr.mk.injEq, and_true] at e
    obtain ⟨rfl, _, rfl⟩ := e
    have hmy : m ≤ ys.length := by rw [hys, hm]; exact Nat.min_le_left _ _
    have hlen : ((ys.take m).map (Value.int .u8)).length = m := by rw [List.length_map, List.length_take]; omega
    have hne : ys ≠ [] := by rintro rfl; simp at hmy; omega
    obtain ⟨b, off, rfl, _, hcell⟩ := hr.2 hne
    have hrt := (hr.take m)
    have hrun := run_copy_row (P := Try.prog) w 22 22 ty 5 g k (N - k) dCap ⟨b, off, none⟩ sLen sCap cur 5 ((ys.take m).map (Value.int .u8)) Try.underlying22 (by
        have := info5
        cases hq : Try.prog.info? 5 with
        | none => rw [hq] at this; simp at this
        | some i => rw [hq] at this; simp at this; simp [this])
      hg (by rw [hlen]; exact hm) (cells_of_rd hrt rfl) (by rw [hlen, hcs]; omega) (by intro u hu; obtain ⟨x, _, rfl⟩ := List.mem_map.1 hu; rfl)
    rw [hlen] at hrun
    refine ⟨_, hrun, ?_, ⟨rfl, rfl, rfl, by simp, fun j _ hj => setRow_other w g j _ (fun e => hj (by rw [e]))⟩⟩
    have hsz : cur.toList.length = cap := by rw [Array.length_toList, hcs]; omega
    have hle : (xs.take k ++ ys.take m ++ xs.drop (k + m)).length = N := by
      simp only [List.length_append, List.length_take, List.length_drop]
      omega
    have htk : cur.toList.take N = xs.map (Value.int .u8) := by
      rw [← htake, hN]
      simp
    refine ⟨⟨by simp, .inr ⟨g, cap, _, by rw [hle], hbg, setRow_heap w g cur _ 5 _ hg, by rw [hle]; omega, hcm, ?_, ?_⟩⟩, ?_⟩
    · simp only [List.size_toArray, List.length_append, List.length_take, List.length_drop, hlen, hsz]
      omega
    · rw [hle, Nat.mul_one]
      have e1 : cur.toList.take k = (xs.take k).map (Value.int .u8) := by rw [List.map_take, ← htk, List.take_take, Nat.min_eq_left (by omega)]
      have e2 : (cur.toList.drop (k + m)).take (N - (k + m)) = (xs.drop (k + m)).map (Value.int .u8) := by rw [List.map_drop, ← htk, List.drop_take]
      have e3 : (cur.toList.take k ++ (ys.take m).map (Value.int .u8)).length = k + m := by rw [List.length_append, List.length_take, hlen, hsz]; omega
      rw [List.map_append, List.map_append, ← e1, ← e2]
      show (cur.toList.take k ++ (ys.take m).map (Value.int .u8) ++ cur.toList.drop (k + m)).take N = _
      rw [List.take_append, e3, List.take_of_length_le (by rw [e3]; omega)]
    · intro x hx
      rcases List.mem_append.1 hx with h | h
      · rcases List.mem_append.1 h with h | h
        · exact ho.2 x (List.mem_of_mem_take h)
        · exact hr.1 x (List.mem_of_mem_take h)
      · exact ho.2 x (List.mem_of_mem_drop h)

section
variable {w : World} {P C base n off offP pendP : Nat} {err res resP ic icP u : Value} {asn : Bool} {pre content : List Int}

set_option maxRecDepth 100000 in
theorem flush_leaf {off pend : Int} (hb : Bl w C err res (.pointer none) off pend asn ic) :
    Calls Try.prog 39 #[.pointer (some ⟨C, 0, none⟩)] w fun e w' => e = .returned (.tuple #[]) ∧ w = w' := by
  have k3 := hb.c3
  clear hb
  go_enter Try.func39, Try.ntmps39
  go_wp2_with fail
  refine bodyPost_ret (results_none rfl _ _ _) rfl ?_
  exact ⟨rfl, rfl⟩

/-- what flushChild leaves -/
def FlushPost (P C base : Nat) (offP pendP : Int) (asn : Bool) (ic : Value) (zs : List Int) (w : World) (e : Ending) (w' : World) : Prop :=
  e = .returned (.tuple #[]) ∧ (∃ v', Bl w' P .nilIface v' (.pointer none) offP pendP asn ic ∧ Own w' base v' zs) ∧ Fr base [P, C] w w'

set_option maxRecDepth 100000 in
set_option maxHeartbeats 1000000 in
theorem flush_small {offP pendP : Int} {g cap L : Nat} (hP : Bl w P .nilIface resP (.pointer (some ⟨C, 0, none⟩)) offP pendP asn icP) (hC : Bl w C .nilIface (.slice (some ⟨g, 0, none⟩) L cap) (.pointer none) off 1 true ic)
    (ho : Own w base (.slice (some ⟨g, 0, none⟩) L cap) (pre ++ [0] ++ content)) (hpre : pre.length = off) (hn : content.length = n) (hL : L = off + 1 + n) (hsm : L ≤ 200000) (h128 : n < 128)
    (hbP : base ≤ P) (hbC : base ≤ C) (hbw : base ≤ w.heap.size) (hPC : P ≠ C) (hgP : g ≠ P) (hgC : g ≠ C) :
    Calls Try.prog 39 #[.pointer (some ⟨P, 0, none⟩)] w (FlushPost P C base offP pendP asn icP (pre ++ lenBytes n ++ content) w) := by
  have p3 := hP.c3
  have pf3 := hP.fr 3
  have pf1 := hP.fr 1
  have p1 := hP.c1
  have p2 := hP.c2
  have c0 := hC.c0
  have c1 := hC.c1
  have c4 := hC.c4
  have c5 := hC.c5
  have c6 := hC.c6
  have cf4 := hC.fr 4
  have cf5 := hC.fr 5
  have hPC' : ¬ C = P := fun e => hPC e.symm
  have hgP' : ¬ P = g := fun e => hgP e.symm
  have hgC' : ¬ C = g := fun e => hgC e.symm
  have HP := hide hP
  have HC := hide hC
  have HO := hide ho
  have hL1 : L ≤ off + 1 + n := Nat.le_of_eq hL
  have hL2 : off + 1 + n ≤ L := Nat.le_of_eq hL.symm
  have gc : w.cell? ⟨g, off, none⟩ = some (.int .u8 0) := by
    rw [own_cell ho (by simp; omega)]
    simp [← hpre]
  have gf : w.frozen? ⟨g, off, none⟩ = false := own_frozen ho off
  clear hL
  have HPre := hide hpre
  have HN := hide hn
  clear hP hC ho hpre hn
  go_enter Try.func39, Try.ntmps39
  go_wp2_with fail
  refine (flush_leaf HC.out).mono ?_
  rintro e w' ⟨rfl, rfl⟩
  go_wp2_with fail
  go_quiet (fail)
  go_wp2_with fail
  go_region
  go_wp2_with fail
  refine wp_loop_rounds 1 ?_
  rw [rounds_succ]
  go_wp2_with fail
  go_quiet (fail)
  go_wp2_with fail
  go_end0
  have hz : (L : Int) - 1 - off = n := by omega
  rw [hz]
  have hoP : (Value.slice (some ⟨g, 0, none⟩) L cap).ownBlock ≠ some P := by simpa [Value.ownBlock] using hgP
  have hoC : (Value.slice (some ⟨g, 0, none⟩) L cap).ownBlock ≠ some C := by simpa [Value.ownBlock] using hgC
  have hset : (pre ++ [0] ++ content).set off (n : Int) = pre ++ lenBytes n ++ content := by
    rw [show lenBytes n = [(n : Int)] from if_pos h128, ← HPre.out]
    simp
  rw [← hset]
  refine ⟨rfl, ⟨_, ((((((HP.out.set3 _).drewN _).far2 hgP' _).far2 hPC _).far2 hPC _).drewN _).set1 _, ?_⟩, ?_⟩
  · exact (((((own_set ((HO.out.far hoP _).drewN _) off (by omega)).1.far hoC _).far hoC _).drewN _).far hoP _)
  · refine ((((Fr.row ((((Fr.refl base [P, C] w).setCell (.inl (by simp)) hbP _).drewN _)) ((HO.out.far hoP _).drewN _) (own_set ((HO.out.far hoP _).drewN _) off (by omega)).2 (by simp [World.setCell]; exact hbw)).setCell (.inl (by simp)) hbC _).setCell (.inl (by simp)) hbC _).drewN _).setCell (.inl (by simp)) hbP _
end
end Go.Proofs.Ytlmidbmmnjnagaa

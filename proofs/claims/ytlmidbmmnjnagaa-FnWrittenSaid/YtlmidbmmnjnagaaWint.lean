/- The walk of the function that writes one integer into a Builder. -/
import Derived.Test.YtlmidbmmnjnagaaPref
import Derived.Deep.LoopGhost
namespace Go.Proofs.Ytlmidbmmnjnagaa
open Go.RowKit

attribute [local go_sem ↓] sliced_tl
attribute [local go_sem] tl_zero

/-- what the function leaves that writes one integer -/
def IntPost (C base : Nat) (res : Value) (off pend : Int) (asn : Bool) (ic : Value) (xs : List Int) (Q : Ending → World → Prop) (w : World) (e : Ending) (w' : World) : Prop :=
  e = .returned (.tuple #[]) ∧ ((strip xs = [] ∧ (∃ a, Bl w' C (.iface 58 (.pointer (some a))) res (.pointer none) off pend asn ic) ∧ Fr base [C] w w') ∨ (strip xs ≠ [] ∧ Q e w'))

section
variable {w : World} {C D X I base B n l c : Nat} {off : Int} {A : Option Addr} {err res resP ic icP u v : Value} {pend : Int} {asn : Bool} {pre content xs ys : List Int}

theorem int_any {Q : Ending → World → Prop} (hb : Bl w C err res (.pointer none) off pend asn ic) (hr : Rd w B A xs) (hn : xs.length = l) (hlc : l ≤ c)
    (H : ∀ A' c', strip xs ≠ [] → Rd w B A' (strip xs) → Calls Try.prog 24 #[.pointer (some ⟨C, 0, none⟩), .int .u8 2, .func (Fn.func 33) #[] #[.pointer (some ⟨w.heap.size, 0, none⟩)]]
      (w.alloc (.cells #[.slice A' (strip xs).length c'] 22)) (fun e w' => e = .returned (.tuple #[]) ∧ Q e w'))
    (hbase : base ≤ w.heap.size) (hbC : base ≤ C) (hB : B ≤ base) :
    Calls Try.prog 26 #[.pointer (some ⟨C, 0, none⟩), .slice A l c] w (IntPost C base res off pend asn ic xs Q w) := by
  have HC := hide hb
  have HR := hide hr
  have HN := hide hn
  have HH := hide H
  have hmf : ∀ (fn : Fn) (first cap : Array Value) (w : World), (Instr.makeFunc fn first cap).run Try.prog w = .ok (.func fn first cap) w := fun _ _ _ _ => rfl
  clear hb hr hn H
  go_enter Try.func26, Try.ntmps26
  go_wp2_with fail
  go_loopg [] l (fun k wr => ∃ (A' : Option Addr) (c' : Nat) (zs : List Int), wr = w.alloc (.cells #[.slice A' k c'] 22) ∧ k ≤ c' ∧ Hid (zs.length = k) ∧ Hid (Rd w B A' zs) ∧ Hid (strip zs = strip xs))
  case atStart => exact ⟨A, c, xs, rfl, hlc, HN, HR, hide rfl⟩
  case round =>
    obtain ⟨A', c', zs, rfl, hc', HNz, HR', HS⟩ := hrel
    by_cases h0 : gk = 0
    · subst h0
      have hy : zs = [] := List.eq_nil_of_length_eq_zero HNz.out
      have HSx : Hid (strip xs = []) := hide (by rw [← HS.out, hy]; rfl)
      clear hy
      go_wp2_with fail
      refine (New_any _).mono ?_
      rintro e w1 ⟨a, rfl, hb1⟩
      have F1 := hide (((Fr.refl base [C] w).alloc hbase (.cells #[.slice A' 0 c'] 22)).trans (Fr.of_below (base := base) hb1 (by simp; omega)) (by simp))
      have C1 := hide ((Fr.of_below (base := base) hb1 (by simp; omega)).bl (HC.out.alloc _) (by simp))
      clear hb1
      go_wp2_with fail
      refine (SetError_any C1.out).mono ?_
      rintro e w2 ⟨rfl, rfl⟩
      go_wp2_with fail
      refine bodyPost_ret (results_none rfl _ _ _) rfl ?_
      exact ⟨rfl, .inl ⟨HSx.out, ⟨a, C1.out.set0 _⟩, F1.out.setCell (.inl (by simp)) hbC _⟩⟩
    · obtain ⟨a, ha⟩ : ∃ a, zs[0]? = some a := ⟨_, List.getElem?_eq_getElem (show 0 < zs.length by rw [HNz.out]; omega)⟩
      obtain ⟨g, o, rfl, hgB, hcell⟩ := HR'.out.at_ (show 0 < zs.length by rw [HNz.out]; omega)
      have hc0 : (w.alloc (.cells #[.slice (some ⟨g, o, none⟩) gk c'] 22)).cell? ⟨g, o, none⟩ = some (.int .u8 a) := by
        rw [((Below.refl _ _).alloc (Nat.le_trans hB hbase) _).cell (show (⟨g, o, none⟩ : Addr).block < B from hgB)]
        have := hcell 0 a ha
        rwa [Nat.add_zero] at this
      have HA := hide ha
      clear ha hcell
      by_cases ha0 : a = 0
      · subst ha0
        have HS1 : Hid (strip (zs.drop 1) = strip xs) := hide (by rw [← HS.out]; exact (strip_drop HA.out).symm)
        have HR1 : Hid (Rd w B (tl (some ⟨g, o, none⟩) 1 c' 1) (zs.drop 1)) := hide (HR'.out.cut (by rw [HNz.out]; exact hc'))
        have HL1 : Hid ((zs.drop 1).length = gk - 1) := hide (by rw [List.length_drop, HNz.out])
        go_wp2_with fail
        go_roundg (gk - 1)
        case rel => exact ⟨_, c' - 1, zs.drop 1, rfl, by omega, HL1, HR1, HS1⟩
        case measure => omega
      · have e1 : (a == 0) = false := by rw [beq_eq_false_iff_ne]; exact ha0
        have HSx : Hid (strip xs = zs) := hide (by rw [← HS.out]; exact strip_of_head (fun b hb => by rw [HA.out] at hb; cases hb; exact ha0))
        have e2 : ((gk : Int) == 0) = false := by rw [beq_eq_false_iff_ne]; omega
        have hne : strip xs ≠ [] := by rw [HSx.out]; intro h; have := HNz.out; rw [h] at this; simp at this; omega
        have HX : Hid (Calls Try.prog 24 #[.pointer (some ⟨C, 0, none⟩), .int .u8 2, .func (Fn.func 33) #[] #[.pointer (some ⟨w.heap.size, 0, none⟩)]]
            (w.alloc (.cells #[.slice (some ⟨g, o, none⟩) gk c'] 22)) (fun e w' => e = .returned (.tuple #[]) ∧ Q e w')) := hide (by
          have h := HH.out (some ⟨g, o, none⟩) c' hne (by rw [HSx.out]; exact HR'.out)
          rw [HSx.out, HNz.out] at h
          exact h)
        have HNe := hide hne
        clear hne
        go_wp2_with fail
        refine HX.out.mono ?_
        rintro e w1 ⟨rfl, hq⟩
        have HQ := hide hq
        clear hq
        go_wp2_with fail
        go_end0
        exact ⟨rfl, .inr ⟨HNe.out, HQ.out⟩⟩

theorem asn_skip {a : Addr} {tag : Int} {f : Value} {child : Value} (hb : Bl w C (.iface 58 (.pointer (some a))) res child off pend asn ic) :
    Calls Try.prog 24 #[.pointer (some ⟨C, 0, none⟩), .int .u8 tag, f] w fun e w' => e = .returned (.tuple #[]) ∧ w = w' := by
  have k0 := hb.c0
  clear hb
  go_enter Try.func24, Try.ntmps24
  go_wp2_with fail
  refine bodyPost_ret (results_none rfl _ _ _) rfl ?_
  exact ⟨rfl, rfl⟩

theorem int_ok (hb : Bl w C .nilIface res (.pointer none) off pend asn (.pointer (some ⟨I, 0, none⟩))) (hI : Box w I 4 (.bool true)) (ho : Own w base res ys) (hr : Rd w B A xs) (hn : xs.length = l) (hlc : l ≤ c) (hl : ys.length + l ≤ 30000)
    (hbase : base ≤ w.heap.size) (hbC : base ≤ C) (hIC : I ≠ C) (hB : B ≤ base) :
    Calls Try.prog 26 #[.pointer (some ⟨C, 0, none⟩), .slice A l c] w
      (IntPost C base res off pend asn (.pointer (some ⟨I, 0, none⟩)) xs (fun _ w' => (∃ v', Bl w' C .nilIface v' (.pointer none) off pend asn (.pointer (some ⟨I, 0, none⟩)) ∧ Own w' base v' (ys ++ derInt (strip xs))) ∧ Fr base [C] w w') w) := by
  refine int_any hb hr hn hlc ?_ hbase hbC hB
  intro A' c' hne hr'
  have hsl := strip_length xs
  have h0 : 0 < (strip xs).length := List.length_pos_iff.2 hne
  refine (asn_in (B := B) (hb.alloc _) (hI.alloc _) (ho.alloc _) (Box.new w 22 _) (hr'.below ((Below.refl _ _).alloc (Nat.le_trans hB hbase) _)) rfl h0 (by omega) (by simp; omega) hbC (by have := hb.lt; omega) hIC hB).mono ?_
  rintro e w' ⟨rfl, h, f⟩
  exact ⟨rfl, h, ((Fr.refl base [C] w).alloc hbase _).trans f (fun i hi => .inl hi)⟩

theorem int_bad {a : Addr} (hb : Bl w C (.iface 58 (.pointer (some a))) res (.pointer none) off pend asn ic) (hr : Rd w B A xs) (hn : xs.length = l) (hlc : l ≤ c)
    (hbase : base ≤ w.heap.size) (hbC : base ≤ C) (hB : B ≤ base) :
    Calls Try.prog 26 #[.pointer (some ⟨C, 0, none⟩), .slice A l c] w fun e w' => e = .returned (.tuple #[]) ∧ (∃ a, Bl w' C (.iface 58 (.pointer (some a))) res (.pointer none) off pend asn ic) ∧ Fr base [C] w w' := by
  refine (int_any (Q := fun _ w' => Bl w' C (.iface 58 (.pointer (some a))) res (.pointer none) off pend asn ic ∧ Fr base [C] w w') hb hr hn hlc ?_ hbase hbC hB).mono ?_
  · intro A' c' hne hr'
    refine (asn_skip (hb.alloc _)).mono ?_
    rintro e w' ⟨rfl, rfl⟩
    exact ⟨rfl, hb.alloc _, (Fr.refl base [C] w).alloc hbase _⟩
  · rintro e w' ⟨he, ⟨_, h, f⟩ | ⟨_, h, f⟩⟩
    · exact ⟨he, h, f⟩
    · exact ⟨he, ⟨a, h⟩, f⟩

/-- what the two integers' closure leaves -/
def PairPost (C base : Nat) (off pend : Int) (asn : Bool) (ic : Value) (zs xs ys : List Int) (w : World) (e : Ending) (w' : World) : Prop :=
  e = .returned (.tuple #[]) ∧ Fr base [C] w w' ∧
    ((strip xs ≠ [] ∧ strip ys ≠ [] ∧ ∃ v', Bl w' C .nilIface v' (.pointer none) off pend asn ic ∧ Own w' base v' (zs ++ (derInt (strip xs) ++ derInt (strip ys)))) ∨
     ((strip xs = [] ∨ strip ys = []) ∧ ∃ a v', Bl w' C (.iface 58 (.pointer (some a))) v' (.pointer none) off pend asn ic))

theorem pair_any {R S l' c' : Nat} {A' : Option Addr} {zs : List Int} (hb : Bl w C .nilIface res (.pointer none) off pend asn (.pointer (some ⟨I, 0, none⟩))) (hI : Box w I 4 (.bool true)) (ho : Own w base res zs)
    (hR : Box w R 22 (.slice A l c)) (hS : Box w S 22 (.slice A' l' c')) (hr : Rd w B A xs) (hn : xs.length = l) (hlc : l ≤ c) (hr' : Rd w B A' ys) (hn' : ys.length = l') (hlc' : l' ≤ c') (hl : l ≤ 5000) (hl' : l' ≤ 5000) (hz : zs.length ≤ 100)
    (hbase : base ≤ w.heap.size) (hbC : base ≤ C) (hIC : I ≠ C) (hSC : S ≠ C) (hB : B ≤ base) :
    Calls Try.prog 25 #[.pointer (some ⟨C, 0, none⟩), .pointer (some ⟨R, 0, none⟩), .pointer (some ⟨S, 0, none⟩)] w (PairPost C base off pend asn (.pointer (some ⟨I, 0, none⟩)) zs xs ys w) := by
  have r0 := hR.cell
  have H1 := hide (int_ok (c := c) hb hI ho hr hn hlc (by omega) hbase hbC hIC hB)
  have HS := hide hS
  have HI := hide hI
  have HR' := hide hr'
  have HN' := hide hn'
  have HD : Hid ((zs ++ derInt (strip xs)).length ≤ 100 + (l + 5)) := hide (by
    have h1 := derInt_length (strip xs); have h2 := strip_length xs; rw [hn] at h2
    rw [List.length_append]; omega)
  clear hb hI ho hR hS hr hn hr' hn'
  go_enter Try.func25, Try.ntmps25
  go_wp2_with fail
  refine H1.out.mono ?_
  rintro e w1 ⟨rfl, ⟨h, ⟨a, b1⟩, f1⟩ | ⟨h, ⟨v1, b1, o1⟩, f1⟩⟩
  · have s1 := (f1.bx HS.out (by decide) (by simpa using hSC)).cell
    have B1 := hide b1
    have F1 := hide f1
    have HE := hide h
    clear b1 f1 h r0
    go_wp2_with fail
    refine (int_bad (c := c') B1.out (HR'.out.below (F1.out.below hB)) HN'.out hlc' (Nat.le_trans hbase F1.out.size) hbC hB).mono ?_
    rintro e w2 ⟨rfl, ⟨a2, b2⟩, f2⟩
    have B2 := hide b2
    have F2 := hide (F1.out.trans f2 (fun i hi => .inl hi))
    clear b2 f2
    go_wp2_with fail
    go_end0
    exact ⟨rfl, F2.out, .inr ⟨.inl HE.out, a2, _, B2.out⟩⟩
  · have s1 := (f1.bx HS.out (by decide) (by simpa using hSC)).cell
    have I1 := hide (f1.bx HI.out (by decide) (by simpa using hIC))
    have B1 := hide b1
    have O1 := hide o1
    have F1 := hide f1
    have HE := hide h
    clear b1 o1 f1 h r0
    go_wp2_with fail
    refine (int_ok (c := c') B1.out I1.out O1.out (HR'.out.below (F1.out.below hB)) HN'.out hlc' (by have := HD.out; omega) (Nat.le_trans hbase F1.out.size) hbC hIC hB).mono ?_
    rintro e w2 ⟨rfl, ⟨h2, ⟨a2, b2⟩, f2⟩ | ⟨h2, ⟨v2, b2, o2⟩, f2⟩⟩
    · have B2 := hide b2
      have F2 := hide (F1.out.trans f2 (fun i hi => .inl hi))
      have HE2 := hide h2
      clear b2 f2 h2
      go_wp2_with fail
      go_end0
      exact ⟨rfl, F2.out, .inr ⟨.inr HE2.out, a2, _, B2.out⟩⟩
    · have B2 := hide b2
      have O2 := hide o2
      have F2 := hide (F1.out.trans f2 (fun i hi => .inl hi))
      have HE2 := hide h2
      clear b2 o2 f2 h2
      go_wp2_with fail
      go_end0
      exact ⟨rfl, F2.out, .inl ⟨HE.out, HE2.out, v2, B2.out, by rw [← List.append_assoc]; exact O2.out⟩⟩
end
end Go.Proofs.Ytlmidbmmnjnagaa

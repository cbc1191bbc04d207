/- The walks of cryptobyte's String: read, ReadBytes, Skip, readUnsigned. -/
import Derived.Test.YtlmidbmmnjnagaaBase
import Derived.Test.YtlmidbmmnjnagaaPlain
import Derived.WalkSpells
import Derived.BigQuiet
import Derived.Deep.QuietTactic
namespace Go.Proofs.Ytlmidbmmnjnagaa
open Go.RowKit

attribute [local go_sem ↓] sliced_tl
attribute [local go_sem] tl_zero

theorem read_ok {P l c n : Nat} {A : Option Addr} {w : World} (hb : Box w P 40 (.slice A l c)) (hn : n ≤ l) (hlc : l ≤ c) :
    Calls Try.prog 44 #[.pointer (some ⟨P, 0, none⟩), .int .i64 n] w fun e w' =>
      e = .returned (.slice A n c) ∧ w.setCell ⟨P, 0, none⟩ (.slice (tl A n c 1) (l - n) (c - n)) = w' := by
  have h0 := hb.cell
  have h1 := hb.free
  go_enter Try.func44, Try.ntmps44
  go_wp2
  go_ret
  exact ⟨rfl, rfl⟩

theorem read_no {P l c n : Nat} {A : Option Addr} {w : World} (hb : Box w P 40 (.slice A l c)) (hn : l < n) :
    Calls Try.prog 44 #[.pointer (some ⟨P, 0, none⟩), .int .i64 n] w fun e w' => e = .returned (.slice none 0 0) ∧ w = w' := by
  have h0 := hb.cell
  go_enter Try.func44, Try.ntmps44
  go_wp2
  go_ret
  exact ⟨rfl, rfl⟩

theorem ReadBytes_ok {P Q l c n : Nat} {z : Int} {a : Addr} {u : Value} {tq : TypeId} {w : World} (hb : Box w P 40 (.slice (some a) l c)) (hq : Box w Q tq u) (hne : P ≠ Q) (hz : z = n) (hn : n ≤ l) (hlc : l ≤ c) :
    Calls Try.prog 41 #[.pointer (some ⟨P, 0, none⟩), .pointer (some ⟨Q, 0, none⟩), .int .i64 z] w fun e w' =>
      e = .returned (.bool true) ∧ (w.setCell ⟨P, 0, none⟩ (.slice (tl (some a) n c 1) (l - n) (c - n))).setCell ⟨Q, 0, none⟩ (.slice (some a) n c) = w' := by
  subst hz
  have hq' := hq.far (p := ⟨P, 0, none⟩) (by exact fun e => hne e.symm) (.slice (tl (some a) n c 1) (l - n) (c - n))
  have h0 := hq'.cell
  have h1 := hq'.free
  have qT : ∀ (w : World) (a : Option Addr) (n c n' c' : Nat), (binOp .eql 22 (.slice a n c) (.slice none n' c')).run Try.prog w = .ok (.bool a.isNone) w := fun w a n c n' c' => Lib.run_eql_slice_nil w _ _ a n c n' c' Try.underlying22
  go_enter Try.func41, Try.ntmps41
  go_wp2_with (go_at_call 44; refine (read_ok hb hn hlc).mono ?_; rintro e w' ⟨rfl, rfl⟩)
  go_ret
  exact ⟨rfl, rfl⟩

theorem ReadBytes_no {P Q l c n : Nat} {z : Int} {A : Option Addr} {w : World} (hb : Box w P 40 (.slice A l c)) (hz : z = n) (hn : l < n) :
    Calls Try.prog 41 #[.pointer (some ⟨P, 0, none⟩), .pointer (some ⟨Q, 0, none⟩), .int .i64 z] w fun e w' => e = .returned (.bool false) ∧ w = w' := by
  subst hz
  have qT : ∀ (w : World) (a : Option Addr) (n c n' c' : Nat), (binOp .eql 22 (.slice a n c) (.slice none n' c')).run Try.prog w = .ok (.bool a.isNone) w := fun w a n c n' c' => Lib.run_eql_slice_nil w _ _ a n c n' c' Try.underlying22
  go_enter Try.func41, Try.ntmps41
  go_wp2_with (go_at_call 44; refine (read_no hb hn).mono ?_; rintro e w' ⟨rfl, rfl⟩)
  go_ret
  exact ⟨rfl, rfl⟩

theorem Skip_ok {P l c n : Nat} {z : Int} {a : Addr} {w : World} (hb : Box w P 40 (.slice (some a) l c)) (hz : z = n) (hn : n ≤ l) (hlc : l ≤ c) :
    Calls Try.prog 42 #[.pointer (some ⟨P, 0, none⟩), .int .i64 z] w fun e w' =>
      e = .returned (.bool true) ∧ w.setCell ⟨P, 0, none⟩ (.slice (tl (some a) n c 1) (l - n) (c - n)) = w' := by
  subst hz
  have qT : ∀ (w : World) (a : Option Addr) (n c n' c' : Nat), (binOp .neq 22 (.slice a n c) (.slice none n' c')).run Try.prog w = .ok (.bool (!a.isNone)) w := fun w a n c n' c' => run_neq_slice_nil_any w _ _ a n c n' c' Try.underlying22
  go_enter Try.func42, Try.ntmps42
  go_wp2_with (go_at_call 44; refine (read_ok hb hn hlc).mono ?_; rintro e w' ⟨rfl, rfl⟩)
  go_ret
  exact ⟨rfl, rfl⟩

theorem readUnsigned_ok {P Q c n : Nat} {z : Int} {A : Option Addr} {u : Value} {xs : List Int} {B : Nat} {w : World} (hr : Rd w B A xs) (hn : xs.length = n) (hb : Box w P 40 (.slice A n c)) (hq : Box w Q 69 u) (hne : P ≠ Q)
    (hBP : B ≤ P) (hz : z = n) (hl : 1 ≤ n) (hl4 : n ≤ 4) (hc : n ≤ c) :
    Calls Try.prog 40 #[.pointer (some ⟨P, 0, none⟩), .pointer (some ⟨Q, 0, none⟩), .int .i64 z] w fun e w' =>
      e = .returned (.bool true) ∧ (w.setCell ⟨P, 0, none⟩ (.slice (tl A n c 1) 0 (c - n))).setCell ⟨Q, 0, none⟩ (.int .u32 (num xs)) = w' := by
  subst hz
  subst hn
  obtain ⟨b, off, rfl, hbB, hcell⟩ := hr.at_ hl
  have h0 := hq.cell
  have h1 := hq.free
  have hne' : ¬ Q = P := fun e => hne e.symm
  have qT : ∀ (w : World) (a : Option Addr) (n c n' c' : Nat), (binOp .eql 22 (.slice a n c) (.slice none n' c')).run Try.prog w = .ok (.bool a.isNone) w := fun w a n c n' c' => Lib.run_eql_slice_nil w _ _ a n c n' c' Try.underlying22
  have HC := hide hcell
  have HX := hide hr.1
  clear hcell hr hq
  go_enter Try.func40, Try.ntmps40
  go_wp2_with (go_at_call 44; refine (read_ok hb (Nat.le_refl _) hc).mono ?_; rintro e w' ⟨rfl, rfl⟩)
  go_loop [8, 9] (fun r i => ∃ k : Nat, k ≤ xs.length ∧ i = .int .i64 k ∧ r = .int .u32 (num (xs.take k))) (fun _ i => xs.length - (intOf i).toNat)
  case atStart => exact ⟨0, Nat.zero_le _, rfl, rfl⟩
  case round =>
    obtain ⟨k, hk, rfl, rfl⟩ := hrel
    by_cases hlt : k < xs.length
    · have g := HC.out k xs[k] (List.getElem?_eq_getElem hlt)
      go_wp2
      go_round
      case rel =>
        refine ⟨k + 1, by omega, by go_num, ?_⟩
        have hb := num_bound xs HX.out k (by omega)
        have h4 : (256 : Int) ^ k ≤ 16777216 := by
          have : k = 0 ∨ k = 1 ∨ k = 2 ∨ k = 3 := by omega
          rcases this with rfl | rfl | rfl | rfl <;> decide
        rw [num_take xs k xs[k] (List.getElem?_eq_getElem hlt), num_round hb.1 (by omega) (HX.out _ (List.getElem_mem hlt))]
      case measure => simp [intOf]; omega
    · go_wp2
      go_ret
      refine ⟨rfl, ?_⟩
      rw [List.take_of_length_le (by omega)]

end Go.Proofs.Ytlmidbmmnjnagaa

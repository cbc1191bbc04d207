/- The walk of bytes.Equal. -/
import Derived.Test.YtlmidbmmnjnagaaOwn
import Derived.Laws.BytesArg
namespace Go.Proofs.Ytlmidbmmnjnagaa
open Go.RowKit

section
variable {w : World} {B n c : Nat} {A : Option Addr} {xs ys : List Int}

theorem conv_rd (hr : Rd w B A xs) (hn : xs.length = n) : (convert 22 9 (.slice A n c)).run Try.prog w = .ok (.string (strOfNums xs)) w := by
  subst hn
  rcases A with _ | ad
  · have h0 : xs = [] := by
      by_cases h : xs = []
      · exact h
      · obtain ⟨_, _, e, _⟩ := hr.2 h; cases e
    subst h0
    exact run_convert_bytes_nil w 22 5 Try.underlying22 Try.underlying5 0 c 9 Try.underlying9
  · have hl : (loadCells ad xs.length).run Try.prog w = .ok (xs.map (Value.int .u8)).toArray w := by
      have := run_loadCells_list (P := Try.prog) w ad (xs.map (Value.int .u8)) (cells_of_rd hr rfl)
      simpa using this
    rw [run_convert_bytes_string w 22 9 5 _ xs.length c Try.underlying22 Try.underlying5 Try.underlying9, run_bytesToString w ad xs.length c xs hl, foldl_push_bytes]
    simp [strOfNums, ByteArray.empty, ByteArray.emptyWithCapacity]
    rfl

theorem map_byte_inj {xs ys : List Int} (hx : ∀ x ∈ xs, 0 ≤ x ∧ x ≤ 255) (hy : ∀ x ∈ ys, 0 ≤ x ∧ x ≤ 255) (h : xs.map (fun n => UInt8.ofNat n.toNat) = ys.map (fun n => UInt8.ofNat n.toNat)) : xs = ys := by
  induction xs generalizing ys with
  | nil => cases ys with
    | nil => rfl
    | cons y ys => simp at h
  | cons x xs ih => cases ys with
    | nil => simp at h
    | cons y ys =>
      simp only [List.map_cons, List.cons.injEq] at h
      have h1 := congrArg UInt8.toNat h.1
      have hx0 := hx x (by simp)
      have hy0 := hy y (by simp)
      have e1 : (UInt8.ofNat x.toNat).toNat = x.toNat := by rw [UInt8.toNat_ofNat']; exact Nat.mod_eq_of_lt (by omega)
      have e2 : (UInt8.ofNat y.toNat).toNat = y.toNat := by rw [UInt8.toNat_ofNat']; exact Nat.mod_eq_of_lt (by omega)
      rw [e1, e2] at h1
      rw [ih (fun z hz => hx z (by simp [hz])) (fun z hz => hy z (by simp [hz])) h.2]
      congr 1
      omega

theorem Equal_any {B' n' c' : Nat} {A' : Option Addr} (hr : Rd w B A xs) (hn : xs.length = n) (hr' : Rd w B' A' ys) (hn' : ys.length = n') :
    Calls Try.prog 7 #[.slice A n c, .slice A' n' c'] w fun e w' => e = .returned (.bool (decide (xs = ys))) ∧ w = w' := by
  have h1 := conv_rd (c := c) hr hn
  have h2 := conv_rd (c := c') hr' hn'
  have HR := hide hr
  have HR' := hide hr'
  clear hr hr' hn hn'
  go_enter Try.func7, Try.ntmps7
  go_wp2
  go_ret
  refine ⟨?_, rfl⟩
  have e : ((strOfNums xs).toList == (strOfNums ys).toList) = decide (xs = ys) := by
    rw [ByteArray.toList_eq, ByteArray.toList_eq, strOfNums_data, strOfNums_data]
    by_cases h : xs = ys
    · subst h; simp
    · have : ¬ (xs.map (fun n => UInt8.ofNat n.toNat) = ys.map (fun n => UInt8.ofNat n.toNat)) := fun h' => h (map_byte_inj HR.out.1 HR'.out.1 h')
      rw [beq_eq_false_iff_ne.2 this, decide_eq_false h]
  rw [← e]
  rfl
end
end Go.Proofs.Ytlmidbmmnjnagaa

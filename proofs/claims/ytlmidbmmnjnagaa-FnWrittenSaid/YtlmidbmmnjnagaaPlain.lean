/- Plain mathematics of a DER element: a number out of bytes, the head of an element, an element, an integer, a signature; lists alone. -/
import Derived.Laws.BitsAllLaws
import Derived.Laws.BitsLemmas
namespace Go.Proofs.Ytlmidbmmnjnagaa

/-- the number whose bytes are xs, the highest first -/
def num (xs : List Int) : Int := xs.foldl (fun a x => a * 256 + x) 0
theorem num_snoc (xs : List Int) (x : Int) : num (xs ++ [x]) = num xs * 256 + x := by simp [num]
theorem num_take (xs : List Int) (k : Nat) (x : Int) (h : xs[k]? = some x) : num (xs.take (k + 1)) = num (xs.take k) * 256 + x := by
  rw [List.take_add_one, h]; exact num_snoc _ _
theorem num_bound (xs : List Int) (hx : ∀ x ∈ xs, 0 ≤ x ∧ x ≤ 255) : ∀ k, k ≤ 4 → 0 ≤ num (xs.take k) ∧ num (xs.take k) < (256 : Int) ^ k := by
  intro k
  induction k with
  | zero => intro _; simp [num]
  | succ k ih =>
    intro hk
    obtain ⟨h0, h1⟩ := ih (by omega)
    cases h : xs[k]? with
    | none =>
      have e : xs.take (k + 1) = xs.take k := by rw [List.take_add_one, h]; simp
      rw [e]
      refine ⟨h0, Int.lt_of_lt_of_le h1 ?_⟩
      rw [Int.pow_succ]
      have : (0 : Int) < 256 ^ k := by omega
      omega
    | some x =>
      rw [num_take xs k x h]
      have := hx x (List.mem_of_getElem? h)
      rw [Int.pow_succ]
      omega

/-- how many bytes the head of an element at the front has, and how many its content; none where there is no whole element -/
def longHead (l k : Nat) (N : Int) : Option (Nat × Nat) :=
  if N < 128 ∨ N / 2 ^ ((k - 1) * 8) = 0 ∨ (l : Int) < 2 + k + N then none else some (2 + k, N.toNat)
def hdr (xs : List Int) : Option (Nat × Nat) :=
  match xs with
  | x0 :: x1 :: r =>
    if x0 % 32 = 31 then none
    else if x1 < 128 then (if x1.toNat + 2 ≤ xs.length then some (2, x1.toNat) else none)
    else if x1 = 128 ∨ 132 < x1 ∨ xs.length < (x1 - 128).toNat + 2 then none
    else longHead xs.length (x1 - 128).toNat (num (r.take (x1 - 128).toNat))
  | _ => none

/-- the content of an element of a tag at the front, and what stands behind it -/
def elem (tag : Int) (xs : List Int) : Option (List Int × List Int) :=
  if xs.headD 0 = tag then (hdr xs).map fun p => ((xs.drop p.1).take p.2, xs.drop (p.1 + p.2)) else none

/-- one round of readUnsigned -/
theorem num_round {a x : Int} (h0 : 0 ≤ a) (h1 : a < 16777216) (hx : 0 ≤ x ∧ x ≤ 255) :
    bits .or .u32 (a * 256 % 4294967296) (x % 4294967296) = a * 256 + x := by
  rw [Int.emod_eq_of_lt (by omega) (by omega), Int.emod_eq_of_lt (by omega) (by omega)]
  rw [u32_or _ _ (by omega) (by omega) (by omega) (by omega)]
  rw [nat_join8 _ _ (by omega) (by omega)]
  omega

theorem u8_and127 {x : Int} (h0 : 0 ≤ x) (h1 : x < 256) : bits .and .u8 x 127 = x % 128 := bits_mask .u8 8 (by decide) wraps_u8 7 (by decide) x h0 h1
theorem nat_and128 (n : Nat) (h : n < 256) : n &&& 128 = if n < 128 then 0 else 128 := by
  have key : ∀ m : Fin 256, m.val &&& 128 = if m.val < 128 then 0 else 128 := by decide +kernel
  exact key ⟨n, h⟩
theorem u8_and128 {x : Int} (h0 : 0 ≤ x) (h1 : x < 256) : bits .and .u8 x 128 = if x < 128 then 0 else 128 := by
  rw [u8_and _ _ h0 h1 (by omega) (by omega)]
  have h := nat_and128 x.toNat (by omega)
  have e : (128 : Int).toNat = 128 := rfl
  rw [e, h]
  by_cases hx : x < 128
  · rw [if_pos (by omega), if_pos hx]; rfl
  · rw [if_neg (by omega), if_neg hx]; rfl
theorem u8_and128_lo {x : Int} (h0 : 0 ≤ x) (h1 : x < 128) : bits .and .u8 x 128 = 0 := by rw [u8_and128 h0 (by omega), if_pos h1]
theorem u8_and128_hi {x : Int} (h0 : 128 ≤ x) (h1 : x < 256) : bits .and .u8 x 128 = 128 := by rw [u8_and128 (by omega) h1, if_neg (by omega)]
theorem u8_and127_hi {x : Int} (h0 : 128 ≤ x) (h1 : x < 256) : bits .and .u8 x 127 = x - 128 := by rw [u8_and127 (by omega) h1]; omega

end Go.Proofs.Ytlmidbmmnjnagaa

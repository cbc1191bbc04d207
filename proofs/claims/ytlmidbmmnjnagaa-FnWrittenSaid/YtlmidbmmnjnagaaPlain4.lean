/- Plain mathematics of the writing of a signature: noughts ahead struck, an element and an integer in DER. -/
import Derived.Test.YtlmidbmmnjnagaaPlain3
namespace Go.Proofs.Ytlmidbmmnjnagaa

/-- a number's bytes without noughts ahead -/
def strip : List Int → List Int
  | [] => []
  | a :: r => if a = 0 then strip r else a :: r
theorem strip_cons_zero (r : List Int) : strip (0 :: r) = strip r := by simp [strip]
theorem strip_cons {a : Int} (r : List Int) (h : a ≠ 0) : strip (a :: r) = a :: r := by simp [strip, h]
theorem strip_length (xs : List Int) : (strip xs).length ≤ xs.length := by
  induction xs with
  | nil => simp [strip]
  | cons a r ih =>
    by_cases h : a = 0
    · subst h; rw [strip_cons_zero]; simp; omega
    · rw [strip_cons r h]; exact Nat.le_refl _
theorem strip_mem {xs : List Int} {x : Int} (h : x ∈ strip xs) : x ∈ xs := by
  induction xs with
  | nil => simp [strip] at h
  | cons a r ih =>
    by_cases h0 : a = 0
    · subst h0; rw [strip_cons_zero] at h; exact List.mem_cons_of_mem _ (ih h)
    · rw [strip_cons r h0] at h; exact h
theorem strip_head {xs : List Int} {a : Int} (h : (strip xs)[0]? = some a) : a ≠ 0 := by
  induction xs with
  | nil => simp [strip] at h
  | cons b r ih =>
    by_cases h0 : b = 0
    · subst h0; rw [strip_cons_zero] at h; exact ih h
    · rw [strip_cons r h0] at h; simp at h; subst h; exact h0
theorem strip_of_head {xs : List Int} (h : ∀ a, xs[0]? = some a → a ≠ 0) : strip xs = xs := by
  cases xs with
  | nil => rfl
  | cons a r => exact strip_cons r (h a rfl)

theorem strip_drop {xs : List Int} (h : xs[0]? = some 0) : strip xs = strip (xs.drop 1) := by
  cases xs with
  | nil => simp at h
  | cons a r => simp at h; subst h; rw [strip_cons_zero]; rfl

/-- the bytes of a length in DER -/
def lenBytes (n : Nat) : List Int := if n < 128 then [(n : Int)] else if n < 256 then [129, (n : Int)] else [130, (n : Int) / 256, (n : Int) % 256]
/-- an element in DER -/
def tagged (tag : Int) (xs : List Int) : List Int := tag :: (lenBytes xs.length ++ xs)
/-- the content of an integer in DER, by its bytes without noughts ahead -/
def intContent (xs : List Int) : List Int :=
  match xs with
  | [] => [0]
  | a :: r => if 128 ≤ a then 0 :: a :: r else a :: r
def derInt (xs : List Int) : List Int := tagged 2 (intContent xs)
/-- two numbers as a signature in DER -/
def der (r s : List Int) : List Int := tagged 48 (derInt r ++ derInt s)

theorem intContent_high {xs : List Int} {a : Int} (h : xs[0]? = some a) (ha : 128 ≤ a) : intContent xs = [0] ++ xs := by
  match xs, h with
  | b :: r, h => simp at h; subst h; simp [intContent, ha]
theorem intContent_low {xs : List Int} {a : Int} (h : xs[0]? = some a) (ha : ¬ 128 ≤ a) : intContent xs = xs := by
  match xs, h with
  | b :: r, h => simp at h; subst h; simp [intContent, ha]
theorem lenBytes_length (n : Nat) : (lenBytes n).length ≤ 3 := by
  unfold lenBytes
  split
  · simp
  · split <;> simp
theorem intContent_length (xs : List Int) : (intContent xs).length ≤ xs.length + 1 := by
  match xs with
  | [] => simp [intContent]
  | a :: r =>
    simp only [intContent]
    split <;> simp
theorem tagged_length (tag : Int) (xs : List Int) : (tagged tag xs).length ≤ xs.length + 4 := by
  have := lenBytes_length xs.length
  simp [tagged]
  omega
theorem derInt_length (xs : List Int) : (derInt xs).length ≤ xs.length + 5 := by
  have h1 := tagged_length 2 (intContent xs)
  have h2 := intContent_length xs
  unfold derInt
  omega
theorem lenBytes_byte {n : Nat} (h : n < 65536) : ∀ x ∈ lenBytes n, 0 ≤ x ∧ x ≤ 255 := by
  intro x hx
  unfold lenBytes at hx
  split at hx
  · simp at hx; omega
  · split at hx
    · simp at hx; omega
    · simp at hx; omega
end Go.Proofs.Ytlmidbmmnjnagaa

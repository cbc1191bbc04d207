/- Plain mathematics: the first byte of a number; a round of the reference's loop. -/
import Derived.Test.YtlmidbmmnjnagaaPlain2
import Derived.IntWalk
namespace Go.Proofs.Ytlmidbmmnjnagaa

theorem num_from (r : List Int) : ∀ a : Int, r.foldl (fun a x => a * 256 + x) a = a * 256 ^ r.length + num r := by
  induction r with
  | nil => intro a; simp [num]
  | cons y r ih =>
    intro a
    simp only [List.foldl_cons, num, List.length_cons]
    rw [ih (a * 256 + y), ih (0 * 256 + y), Int.pow_succ]
    have : (a * 256 + y) * 256 ^ r.length = a * (256 ^ r.length * 256) + (0 * 256 + y) * 256 ^ r.length := by
      rw [Int.add_mul, Int.zero_mul, Int.zero_add, Int.mul_assoc, Int.mul_comm 256]
    rw [this]
    omega
theorem num_cons (y : Int) (r : List Int) : num (y :: r) = y * 256 ^ r.length + num r := by
  have h := num_from r y
  rw [← h]
  simp [num]
theorem num_top {y : Int} {r : List Int} (hb : ∀ x ∈ r, 0 ≤ x ∧ x ≤ 255) (hr : r.length ≤ 3) : num (y :: r) / 2 ^ (((y :: r).length - 1) * 8) = y := by
  have hb' := num_bound r hb r.length (by omega)
  rw [List.take_length] at hb'
  rw [num_cons]
  have e : (2 : Int) ^ (((y :: r).length - 1) * 8) = 256 ^ r.length := by
    simp only [List.length_cons, Nat.add_sub_cancel]
    rw [Nat.mul_comm, Int.pow_mul]
    rfl
  rw [e, Int.add_comm, Int.add_mul_ediv_right _ _ (by omega), Int.ediv_eq_zero_of_lt hb'.1 hb'.2]
  omega

theorem natOf_two {x : List Int} {b : Int} (hl : 2 ≤ x.length) (ha : x[0]? = some 0) (hb : x[1]? = some b) : natOf x = if b < 128 then none else some (x.drop 1) := by
  match x, hl, ha, hb with
  | c :: d :: r, _, ha, hb =>
    simp at ha hb
    subst ha hb
    simp [natOf]

/-- one round of the reference's loop -/
theorem or_round {a x : Int} (h0 : 0 ≤ a) (h1 : a < 16777216) (hx : 0 ≤ x ∧ x ≤ 255) : bits .or .i64 (a * 256) x = a * 256 + x := by
  have e : (2 : Int) ^ 40 = 1099511627776 := by decide
  refine bits_join .i64 40 (by decide) (fun n h0 h1 => ?_) 8 (a * 256) x (by omega) ?_ (by omega) hx.1 ?_ (by omega)
  · rw [IntKind.wrap_i64]; omega
  · show a * 256 % 256 = 0
    omega
  · show x < 256
    omega

end Go.Proofs.Ytlmidbmmnjnagaa

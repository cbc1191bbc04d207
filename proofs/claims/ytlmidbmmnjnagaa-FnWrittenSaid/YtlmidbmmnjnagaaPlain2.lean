/- Plain mathematics of an integer's content in DER. -/
import Derived.Test.YtlmidbmmnjnagaaPlain
namespace Go.Proofs.Ytlmidbmmnjnagaa

/-- is an integer's content as short as it can be -/
def minimal (x : List Int) : Bool :=
  match x with
  | [] => false
  | [_] => true
  | a :: b :: _ => !(decide (a = 0) && decide (b < 128) || decide (a = 255) && decide (128 ≤ b))
/-- the bytes of an integer that is not below 0, without a nought ahead -/
def natOf (x : List Int) : Option (List Int) :=
  match x with
  | [] => none
  | [a] => if 128 ≤ a then none else some [a]
  | a :: b :: r => if 128 ≤ a then none else if a = 0 then (if b < 128 then none else some (b :: r)) else some (a :: b :: r)
/-- an integer that is not below 0 at the front, and what stands behind it -/
def natural (xs : List Int) : Option (List Int × List Int) := (elem 2 xs).bind fun p => (natOf p.1).map fun x => (x, p.2)

theorem natOf_of_not_minimal {x : List Int} (hb : ∀ y ∈ x, 0 ≤ y ∧ y ≤ 255) (h : minimal x = false) : natOf x = none := by
  match x, h, hb with
  | [], _, _ => rfl
  | a :: b :: r, h, hb =>
    have h1 := hb a (by simp)
    have h2 := hb b (by simp)
    simp [minimal] at h
    simp only [natOf]
    by_cases h3 : 128 ≤ a
    · rw [if_pos h3]
    · have h4 : a = 0 ∧ b < 128 := by omega
      rw [if_neg h3, if_pos h4.1, if_pos h4.2]
theorem minimal_pos {x : List Int} (h : minimal x = true) : 1 ≤ x.length := by
  match x, h with
  | _ :: _, _ => simp
theorem natOf_high {x : List Int} {a : Int} (ha : x[0]? = some a) (h : 128 ≤ a) : natOf x = none := by
  match x, ha with
  | [b], ha => simp at ha; subst ha; simp [natOf, h]
  | b :: c :: r, ha => simp at ha; subst ha; simp [natOf, h]
theorem natOf_one {x : List Int} {a : Int} (hl : x.length = 1) (ha : x[0]? = some a) (h : ¬ 128 ≤ a) : natOf x = some x := by
  match x, hl, ha with
  | [b], _, ha => simp at ha; subst ha; simp [natOf, h]
theorem natOf_low {x : List Int} {a : Int} (ha : x[0]? = some a) (h : ¬ 128 ≤ a) (h0 : a ≠ 0) : natOf x = some x := by
  match x, ha with
  | [b], ha => simp at ha; subst ha; simp [natOf, h]
  | b :: c :: r, ha => simp at ha; subst ha; simp [natOf, h, h0]
theorem natOf_nought {x : List Int} {b : Int} (hl : 2 ≤ x.length) (ha : x[0]? = some 0) (hb : x[1]? = some b) (hm : minimal x = true) : natOf x = some (x.drop 1) ∧ 128 ≤ b := by
  match x, hl, ha, hb with
  | c :: d :: r, _, ha, hb =>
    simp at ha hb
    subst ha hb
    simp [minimal] at hm
    constructor
    · simp [natOf]; omega
    · omega

theorem elem_length {tag : Int} {xs x r : List Int} (h : elem tag xs = some (x, r)) : x.length ≤ xs.length := by
  unfold elem at h
  split at h
  · cases hh : hdr xs with
    | none => rw [hh] at h; simp at h
    | some p =>
      rw [hh] at h
      simp only [Option.map_some, Option.some.injEq, Prod.mk.injEq] at h
      rw [← h.1, List.length_take, List.length_drop]
      omega
  · cases h

theorem elem_rest_length {tag : Int} {xs x r : List Int} (h : elem tag xs = some (x, r)) : r.length ≤ xs.length := by
  unfold elem at h
  split at h
  · cases hh : hdr xs with
    | none => rw [hh] at h; simp at h
    | some p =>
      rw [hh] at h
      simp only [Option.map_some, Option.some.injEq, Prod.mk.injEq] at h
      rw [← h.2, List.length_drop]
      omega
  · cases h
theorem natural_length {xs x r : List Int} (h : natural xs = some (x, r)) : r.length ≤ xs.length := by
  unfold natural at h
  cases he : elem 2 xs with
  | none => rw [he] at h; simp at h
  | some p =>
    rw [he] at h
    obtain ⟨y, z⟩ := p
    simp only [Option.bind_some] at h
    cases hn : natOf y with
    | none => rw [hn] at h; simp at h
    | some u =>
      rw [hn] at h
      simp only [Option.map_some, Option.some.injEq, Prod.mk.injEq] at h
      rw [← h.2]
      exact elem_rest_length he

/-- both numbers of a signature: a sequence of two integers that are not below 0, and nothing else -/
def parsed (xs : List Int) : Option (List Int × List Int) :=
  (elem 48 xs).bind fun p => if p.2 = [] then (natural p.1).bind fun q => (natural q.2).bind fun t => if t.2 = [] then some (q.1, t.1) else none else none
theorem natOf_length {x y : List Int} (h : natOf x = some y) : y.length ≤ x.length ∧ 1 ≤ y.length := by
  match x, h with
  | [a], h =>
    simp only [natOf] at h
    split at h
    · cases h
    · cases h; simp
  | a :: b :: r, h =>
    simp only [natOf] at h
    split at h
    · cases h
    · split at h
      · split at h
        · cases h
        · cases h; simp
      · cases h; simp
theorem natural_both {xs x r : List Int} (h : natural xs = some (x, r)) : x.length ≤ xs.length ∧ r.length ≤ xs.length := by
  refine ⟨?_, natural_length h⟩
  unfold natural at h
  cases he : elem 2 xs with
  | none => rw [he] at h; simp at h
  | some p =>
    rw [he] at h
    obtain ⟨y, z⟩ := p
    simp only [Option.bind_some] at h
    cases hn : natOf y with
    | none => rw [hn] at h; simp at h
    | some u =>
      rw [hn] at h
      simp only [Option.map_some, Option.some.injEq, Prod.mk.injEq] at h
      rw [← h.1]
      exact Nat.le_trans (natOf_length hn).1 (elem_length he)
theorem parsed_length {xs r s : List Int} (h : parsed xs = some (r, s)) : r.length ≤ xs.length ∧ s.length ≤ xs.length := by
  unfold parsed at h
  cases he : elem 48 xs with
  | none => rw [he] at h; simp at h
  | some p =>
    obtain ⟨x, y⟩ := p
    rw [he] at h
    simp only [Option.bind_some] at h
    split at h
    · cases h1 : natural x with
      | none => rw [h1] at h; simp at h
      | some q =>
        obtain ⟨r1, r2⟩ := q
        rw [h1] at h
        simp only [Option.bind_some] at h
        cases h2 : natural r2 with
        | none => rw [h2] at h; simp at h
        | some t =>
          obtain ⟨s1, s2⟩ := t
          rw [h2] at h
          simp only [Option.bind_some] at h
          split at h
          · simp only [Option.some.injEq, Prod.mk.injEq] at h
            obtain ⟨rfl, rfl⟩ := h
            have a1 := elem_length he
            have a2 := natural_both h1
            have a3 := natural_both h2
            omega
          · cases h
    · cases h
theorem parsed_elem_none {xs : List Int} (h : elem 48 xs = none) : parsed xs = none := by simp [parsed, h]
theorem parsed_behind {xs x r : List Int} (h : elem 48 xs = some (x, r)) (hr : r ≠ []) : parsed xs = none := by simp [parsed, h, hr]
theorem parsed_one_none {xs x : List Int} (h : elem 48 xs = some (x, [])) (h1 : natural x = none) : parsed xs = none := by simp [parsed, h, h1]
theorem parsed_two_none {xs x r y : List Int} (h : elem 48 xs = some (x, [])) (h1 : natural x = some (r, y)) (h2 : natural y = none) : parsed xs = none := by simp [parsed, h, h1, h2]
theorem parsed_end {xs x r y s z : List Int} (h : elem 48 xs = some (x, [])) (h1 : natural x = some (r, y)) (h2 : natural y = some (s, z)) (hz : z ≠ []) : parsed xs = none := by simp [parsed, h, h1, h2, hz]
theorem parsed_yes {xs x r y s : List Int} (h : elem 48 xs = some (x, [])) (h1 : natural x = some (r, y)) (h2 : natural y = some (s, [])) : parsed xs = some (r, s) := by simp [parsed, h, h1, h2]

end Go.Proofs.Ytlmidbmmnjnagaa

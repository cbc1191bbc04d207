/- Plain mathematics: what is written as a signature is read as it was. -/
import Derived.Test.YtlmidbmmnjnagaaPlain4
namespace Go.Proofs.Ytlmidbmmnjnagaa

theorem hdr_tagged {tag : Int} {xs rest : List Int} (ht : tag % 32 ≠ 31) (hl : xs.length < 65536) : hdr (tagged tag xs ++ rest) = some (1 + (lenBytes xs.length).length, xs.length) := by
  obtain ⟨n, hn⟩ : ∃ n, xs.length = n := ⟨_, rfl⟩
  unfold tagged
  rw [hn] at hl ⊢
  by_cases h1 : n < 128
  · have e : lenBytes n = [(n : Int)] := by unfold lenBytes; rw [if_pos h1]
    rw [e]
    simp only [List.cons_append, List.nil_append, hdr]
    rw [if_neg ht, if_pos (by omega), if_pos (by simp; omega)]
    simp
  · by_cases h2 : n < 256
    · have e : lenBytes n = [129, (n : Int)] := by unfold lenBytes; rw [if_neg h1, if_pos h2]
      rw [e]
      simp only [List.cons_append, List.nil_append, hdr]
      rw [if_neg ht, if_neg (by omega), if_neg (by simp)]
      have e2 : (((n : Int) :: (xs ++ rest)).take ((129 : Int) - 128).toNat) = [(n : Int)] := by
        show ((n : Int) :: (xs ++ rest)).take 1 = _
        rfl
      rw [e2]
      have e3 : num [(n : Int)] = n := by simp [num]
      have e4 : ((129 : Int) - 128).toNat = 1 := by decide
      rw [e3, e4]
      unfold longHead
      rw [if_neg]
      · simp
      · rintro (h | h | h)
        · omega
        · simp at h; omega
        · simp at h; omega
    · have e : lenBytes n = [130, (n : Int) / 256, (n : Int) % 256] := by unfold lenBytes; rw [if_neg h1, if_neg h2]
      rw [e]
      simp only [List.cons_append, List.nil_append, hdr]
      rw [if_neg ht, if_neg (by omega), if_neg (by simp)]
      have e4 : ((130 : Int) - 128).toNat = 2 := by decide
      rw [e4]
      have e2 : (((n : Int) / 256 :: (n : Int) % 256 :: (xs ++ rest)).take 2) = [(n : Int) / 256, (n : Int) % 256] := rfl
      rw [e2]
      have e3 : num [(n : Int) / 256, (n : Int) % 256] = n := by simp [num]; omega
      rw [e3]
      unfold longHead
      rw [if_neg]
      · simp
      · rintro (h | h | h)
        · omega
        · simp at h; omega
        · simp at h; omega

theorem elem_tagged {tag : Int} {xs rest : List Int} (ht : tag % 32 ≠ 31) (hl : xs.length < 65536) : elem tag (tagged tag xs ++ rest) = some (xs, rest) := by
  unfold elem
  rw [if_pos (by simp [tagged]), hdr_tagged ht hl]
  have e1 : (tagged tag xs ++ rest).drop (1 + (lenBytes xs.length).length) = xs ++ rest := by
    unfold tagged
    rw [Nat.add_comm, List.cons_append, List.drop_succ_cons, List.append_assoc, List.drop_left]
  have e2 : (tagged tag xs ++ rest).drop (1 + (lenBytes xs.length).length + xs.length) = rest := by
    rw [← List.drop_drop, e1, List.drop_left]
  simp only [Option.map_some]
  rw [e1, e2, List.take_left]

theorem natOf_content {xs : List Int} (h0 : xs ≠ []) (hs : ∀ a, xs[0]? = some a → a ≠ 0) : natOf (intContent xs) = some xs := by
  cases xs with
  | nil => exact absurd rfl h0
  | cons a r =>
    have ha := hs a rfl
    by_cases h : 128 ≤ a
    · simp [intContent, h, natOf]
    · rw [show intContent (a :: r) = a :: r by simp [intContent, h]]
      exact natOf_low rfl h ha

theorem natural_derInt {xs rest : List Int} (h0 : xs ≠ []) (hs : ∀ a, xs[0]? = some a → a ≠ 0) (hl : xs.length < 65535) : natural (derInt xs ++ rest) = some (xs, rest) := by
  unfold natural derInt
  rw [elem_tagged (by decide) (by have := intContent_length xs; omega)]
  simp only [Option.bind_some]
  rw [natOf_content h0 hs]
  rfl

theorem parsed_der {a b : List Int} (ha : a ≠ []) (hb : b ≠ []) (hsa : ∀ x, a[0]? = some x → x ≠ 0) (hsb : ∀ x, b[0]? = some x → x ≠ 0) (hla : a.length ≤ 20000) (hlb : b.length ≤ 20000) : parsed (der a b) = some (a, b) := by
  have l1 := derInt_length a
  have l2 := derInt_length b
  have h1 : elem 48 (der a b) = some (derInt a ++ derInt b, []) := by
    have := elem_tagged (tag := 48) (xs := derInt a ++ derInt b) (rest := []) (by decide) (by rw [List.length_append]; omega)
    rw [List.append_nil] at this
    exact this
  have h2 := natural_derInt (rest := derInt b) ha hsa (by omega)
  have h3 := natural_derInt (rest := []) hb hsb (by omega)
  rw [List.append_nil] at h3
  exact parsed_yes h1 h2 h3

/-- a content moved along by e places, behind the byte at its head -/
theorem shift_eq {pre content Z : List Int} {b : Int} {off n e : Nat} (hp : pre.length = off) (hc : content.length = n) (hZ : Z.length = e) (he : e ≤ n) :
    (pre ++ [b] ++ content ++ Z).take (off + 1 + e) ++ ((pre ++ [b] ++ content ++ Z).drop (off + 1)).take n ++ (pre ++ [b] ++ content ++ Z).drop (off + 1 + e + n) = pre ++ [b] ++ content.take e ++ content := by
  obtain ⟨q, hq⟩ : ∃ q, pre ++ [b] = q := ⟨_, rfl⟩
  have hl : q.length = off + 1 := by rw [← hq]; simp [hp]
  rw [hq, List.append_assoc q content Z]
  have e1 : (q ++ (content ++ Z)).take (off + 1 + e) = q ++ content.take e := by
    rw [List.take_append, hl, List.take_of_length_le (by omega), show off + 1 + e - (off + 1) = e by omega, List.take_append_of_le_length (by omega)]
  have e2 : (q ++ (content ++ Z)).drop (off + 1) = content ++ Z := by rw [← hl, List.drop_left]
  have e3 : (content ++ Z).take n = content := by rw [← hc, List.take_left]
  have e4 : (q ++ (content ++ Z)).drop (off + 1 + e + n) = [] := List.drop_eq_nil_of_le (by simp only [List.length_append]; omega)
  rw [e1, e2, e3, e4, List.append_nil]
theorem set_mid {pre content : List Int} {b z : Int} {off n : Nat} (hp : pre.length = off) (hc : content.length = n) (hn : 1 ≤ n) :
    (pre ++ [b] ++ content.take 1 ++ content).set (off + 1) z = pre ++ [b, z] ++ content := by
  subst hp
  cases content with
  | nil => simp at hc; omega
  | cons c r => simp
theorem set_two {pre content : List Int} {b y z : Int} {off n : Nat} (hp : pre.length = off) (hc : content.length = n) (hn : 2 ≤ n) :
    ((pre ++ [b] ++ content.take 2 ++ content).set (off + 1 + 1) z).set (off + 1) y = pre ++ [b, y, z] ++ content := by
  subst hp
  match content, hc with
  | [], hc => simp at hc; omega
  | [_], hc => simp at hc; omega
  | c :: d :: r, hc =>
    have e : pre ++ [b] ++ (c :: d :: r).take 2 ++ (c :: d :: r) = (pre ++ [b]) ++ (c :: d :: (c :: d :: r)) := by simp
    rw [e, List.set_append_right _ _ (by simp), List.set_append_right _ _ (by simp)]
    simp

end Go.Proofs.Ytlmidbmmnjnagaa

/- The walk of cryptobyte's readASN1: the head of an element in DER, short and long, and every way to refuse it. -/
import Derived.Test.YtlmidbmmnjnagaaStr
namespace Go.Proofs.Ytlmidbmmnjnagaa
open Go.RowKit

attribute [local go_sem ↓] sliced_tl
attribute [local go_sem] tl_zero

/-- what readASN1 leaves: the head h and the content n of the element at the front, or no element -/
def AsnPost (P Q T l c : Nat) (a : Addr) (x0 : Int) (r : Option (Nat × Nat)) (w : World) (e : Ending) (w' : World) : Prop :=
  Keeps [P, Q, T] w w' ∧ match r with
    | none => e = .returned (.bool false)
    | some (h, n) => e = .returned (.bool true) ∧ Box w' P 40 (.slice (tl (some a) (h + n) c 1) (l - (h + n)) (c - (h + n))) ∧
        Box w' Q 40 (.slice (tl (some a) h c 1) n (c - h)) ∧ Box w' T 43 (.int .u8 x0)

theorem AsnPost.no {P Q T l c : Nat} {a : Addr} {x0 : Int} {w w' : World} {e : Ending} (he : e = .returned (.bool false)) (hk : Keeps [P, Q, T] w w') : AsnPost P Q T l c a x0 none w e w' := ⟨hk, he⟩
theorem AsnPost.yes {P Q T l c h n : Nat} {a : Addr} {x0 : Int} {w w' : World} {e : Ending} (he : e = .returned (.bool true)) (hk : Keeps [P, Q, T] w w')
    (hp : Box w' P 40 (.slice (tl (some a) (h + n) c 1) (l - (h + n)) (c - (h + n)))) (hq : Box w' Q 40 (.slice (tl (some a) h c 1) n (c - h))) (ht : Box w' T 43 (.int .u8 x0)) :
    AsnPost P Q T l c a x0 (some (h, n)) w e w' := ⟨hk, he, hp, hq, ht⟩

section
variable {P Q T l c b off k m B : Nat} {x0 : Int} {uq ut : Value} {w : World}

set_option maxRecDepth 100000 in
theorem readASN1_tiny {A : Option Addr} {a : Addr} (hp : Box w P 40 (.slice A l c)) (hl : l < 2) :
    Calls Try.prog 35 #[.pointer (some ⟨P, 0, none⟩), .pointer (some ⟨Q, 0, none⟩), .pointer (some ⟨T, 0, none⟩), .bool true] w (AsnPost P Q T l c a x0 none w) := by
  have hpc := hp.cell
  go_enter Try.func35, Try.ntmps35
  go_wp2_with fail
  go_ret
  exact .no rfl (Keeps.refl _ _)

set_option maxRecDepth 100000 in
theorem readASN1_tag (hp : Box w P 40 (.slice (some ⟨b, off, none⟩) l c)) (hc0 : w.cell? ⟨b, off, none⟩ = some (.int .u8 x0)) {x1 : Int} (hc1 : w.cell? ⟨b, off + 1, none⟩ = some (.int .u8 x1))
    (h0 : 0 ≤ x0 ∧ x0 ≤ 255) (hl : 2 ≤ l) (hx0 : x0 % 32 = 31) :
    Calls Try.prog 35 #[.pointer (some ⟨P, 0, none⟩), .pointer (some ⟨Q, 0, none⟩), .pointer (some ⟨T, 0, none⟩), .bool true] w (AsnPost P Q T l c ⟨b, off, none⟩ x0 none w) := by
  have hpc := hp.cell
  go_enter Try.func35, Try.ntmps35
  go_wp2_with fail
  go_quiet (fail)
  go_wp2_with fail
  go_ret
  exact .no rfl ((Keeps.refl _ _).drewN _)

set_option maxRecDepth 100000 in
theorem readASN1_short (hp : Box w P 40 (.slice (some ⟨b, off, none⟩) l c)) (hq : Box w Q 40 uq) (ht : Box w T 43 ut) (hPQ : P ≠ Q) (hPT : P ≠ T) (hQT : Q ≠ T)
    (hc0 : w.cell? ⟨b, off, none⟩ = some (.int .u8 x0)) (hc1 : w.cell? ⟨b, off + 1, none⟩ = some (.int .u8 (m : Int))) (h0 : 0 ≤ x0 ∧ x0 ≤ 255) (h1' : m < 128)
    (hlc : l ≤ c) (hx0 : ¬ x0 % 32 = 31) (hlx : m + 2 ≤ l) :
    Calls Try.prog 35 #[.pointer (some ⟨P, 0, none⟩), .pointer (some ⟨Q, 0, none⟩), .pointer (some ⟨T, 0, none⟩), .bool true] w (AsnPost P Q T l c ⟨b, off, none⟩ x0 (some (2, m)) w) := by
  have hpc := hp.cell
  have htc := ht.cell
  have htf := ht.free
  have hb1 : (bits BinOp.and IntKind.u8 (m : Int) 128 == 0) = true := by rw [u8_and128_lo (by omega) (by omega)]; rfl
  go_enter Try.func35, Try.ntmps35
  go_wp2_with fail
  go_quiet (fail)
  go_wp2_with fail
  refine (ReadBytes_ok (n := 2 + m) ((hp.drewN nq).far2 hPT _) ((hq.drewN nq).far2 hQT _) hPQ (by omega) (by omega) hlc).mono ?_
  rintro e w' ⟨rfl, rfl⟩
  go_wp2_with fail
  refine (Skip_ok (n := 2) ((((hq.drewN nq).far2 hQT _).far2 (Ne.symm hPQ) _).set_ _) (by omega) (by omega) (by omega)).mono ?_
  rintro e w' ⟨rfl, rfl⟩
  go_wp2_with fail
  go_ret
  refine .yes rfl ?_ ?_ ?_ ?_
  · exact (((((Keeps.refl _ _).drewN nq).setCell (by simp) _).setCell (by simp) _).setCell (by simp) _).setCell (by simp) _
  · exact ((((hp.drewN nq).far2 hPT _).set_ _).far2 hPQ _).far2 hPQ _
  · exact ((((hq.drewN nq).far2 hQT _).far2 (Ne.symm hPQ) _).set_ _).set_ _
  · exact ((((ht.drewN nq).set_ _).far2 (Ne.symm hPT) _).far2 (Ne.symm hQT) _).far2 (Ne.symm hQT) _

set_option maxRecDepth 100000 in
theorem readASN1_short_no (hp : Box w P 40 (.slice (some ⟨b, off, none⟩) l c)) (ht : Box w T 43 ut) (hPT : P ≠ T)
    (hc0 : w.cell? ⟨b, off, none⟩ = some (.int .u8 x0)) (hc1 : w.cell? ⟨b, off + 1, none⟩ = some (.int .u8 (m : Int))) (h0 : 0 ≤ x0 ∧ x0 ≤ 255) (h1' : m < 128)
    (hx0 : ¬ x0 % 32 = 31) (hl : 2 ≤ l) (hlx : l < m + 2) :
    Calls Try.prog 35 #[.pointer (some ⟨P, 0, none⟩), .pointer (some ⟨Q, 0, none⟩), .pointer (some ⟨T, 0, none⟩), .bool true] w (AsnPost P Q T l c ⟨b, off, none⟩ x0 none w) := by
  have hpc := hp.cell
  have htc := ht.cell
  have htf := ht.free
  have hb1 : (bits BinOp.and IntKind.u8 (m : Int) 128 == 0) = true := by rw [u8_and128_lo (by omega) (by omega)]; rfl
  go_enter Try.func35, Try.ntmps35
  go_wp2_with fail
  go_quiet (fail)
  go_wp2_with fail
  refine (ReadBytes_no (n := 2 + m) ((hp.drewN nq).far2 hPT _) (by omega) (by omega)).mono ?_
  rintro e w' ⟨rfl, rfl⟩
  go_wp2_with fail
  go_ret
  exact .no rfl (((Keeps.refl _ _).drewN nq).setCell (by simp) _)

set_option maxRecDepth 100000 in
theorem readASN1_len0 (hp : Box w P 40 (.slice (some ⟨b, off, none⟩) l c)) (ht : Box w T 43 ut)
    (hc0 : w.cell? ⟨b, off, none⟩ = some (.int .u8 x0)) (hc1 : w.cell? ⟨b, off + 1, none⟩ = some (.int .u8 128)) (h0 : 0 ≤ x0 ∧ x0 ≤ 255)
    (hx0 : ¬ x0 % 32 = 31) (hl : 2 ≤ l) :
    Calls Try.prog 35 #[.pointer (some ⟨P, 0, none⟩), .pointer (some ⟨Q, 0, none⟩), .pointer (some ⟨T, 0, none⟩), .bool true] w (AsnPost P Q T l c ⟨b, off, none⟩ x0 none w) := by
  have hpc := hp.cell
  have htc := ht.cell
  have htf := ht.free
  have hb1 : (bits BinOp.and IntKind.u8 128 128 == 0) = false := by decide
  have hb2 : bits BinOp.and IntKind.u8 128 127 = 0 := by decide
  go_enter Try.func35, Try.ntmps35
  go_wp2_with fail
  go_quiet (fail)
  go_wp2_with fail
  go_ret
  exact .no rfl ((((Keeps.refl _ _).drewN nq).setCell (by simp) _).alloc _)

set_option maxRecDepth 100000 in
theorem readASN1_len5 (hp : Box w P 40 (.slice (some ⟨b, off, none⟩) l c)) (ht : Box w T 43 ut)
    (hc0 : w.cell? ⟨b, off, none⟩ = some (.int .u8 x0)) (hc1 : w.cell? ⟨b, off + 1, none⟩ = some (.int .u8 ((k : Int) + 128))) (h0 : 0 ≤ x0 ∧ x0 ≤ 255)
    (hx0 : ¬ x0 % 32 = 31) (hl : 2 ≤ l) (hk : 4 < k) (hk' : k ≤ 127) :
    Calls Try.prog 35 #[.pointer (some ⟨P, 0, none⟩), .pointer (some ⟨Q, 0, none⟩), .pointer (some ⟨T, 0, none⟩), .bool true] w (AsnPost P Q T l c ⟨b, off, none⟩ x0 none w) := by
  have hpc := hp.cell
  have htc := ht.cell
  have htf := ht.free
  have hb1 : (bits BinOp.and IntKind.u8 ((k : Int) + 128) 128 == 0) = false := by rw [u8_and128_hi (by omega) (by omega)]; rfl
  have hb2 : bits BinOp.and IntKind.u8 ((k : Int) + 128) 127 = (k : Int) := by rw [u8_and127_hi (by omega) (by omega)]; omega
  have hb3 : (((k : Nat) : Int) == 0) = false := by rw [beq_eq_false_iff_ne]; omega
  go_enter Try.func35, Try.ntmps35
  go_wp2_with fail
  go_quiet (fail)
  go_wp2_with fail
  go_ret
  exact .no rfl ((((Keeps.refl _ _).drewN nq).setCell (by simp) _).alloc _)

set_option maxRecDepth 100000 in
theorem readASN1_cut (hp : Box w P 40 (.slice (some ⟨b, off, none⟩) l c)) (ht : Box w T 43 ut) (hPT : P ≠ T)
    (hc0 : w.cell? ⟨b, off, none⟩ = some (.int .u8 x0)) (hc1 : w.cell? ⟨b, off + 1, none⟩ = some (.int .u8 ((k : Int) + 128))) (h0 : 0 ≤ x0 ∧ x0 ≤ 255)
    (hx0 : ¬ x0 % 32 = 31) (hl : 2 ≤ l) (hk1 : 1 ≤ k) (hk4 : k ≤ 4) (hlk : l < k + 2) :
    Calls Try.prog 35 #[.pointer (some ⟨P, 0, none⟩), .pointer (some ⟨Q, 0, none⟩), .pointer (some ⟨T, 0, none⟩), .bool true] w (AsnPost P Q T l c ⟨b, off, none⟩ x0 none w) := by
  have hpc := hp.cell
  have htc := ht.cell
  have htf := ht.free
  have hPw := hp.lt
  have hb1 : (bits BinOp.and IntKind.u8 ((k : Int) + 128) 128 == 0) = false := by rw [u8_and128_hi (by omega) (by omega)]; rfl
  have hb2 : bits BinOp.and IntKind.u8 ((k : Int) + 128) 127 = (k : Int) := by rw [u8_and127_hi (by omega) (by omega)]; omega
  have hb3 : (((k : Nat) : Int) == 0) = false := by rw [beq_eq_false_iff_ne]; omega
  go_enter Try.func35, Try.ntmps35
  go_wp2_with fail
  go_quiet (fail)
  go_wp2_with fail
  go_ret
  exact .no rfl ((((Keeps.refl _ _).drewN nq).setCell (by simp) _).alloc _)

set_option maxRecDepth 100000 in
theorem readASN1_long {ys : List Int} {N : Int} (hN : num ys = N) (hp : Box w P 40 (.slice (some ⟨b, off, none⟩) l c)) (hq : Box w Q 40 uq) (ht : Box w T 43 ut) (hPQ : P ≠ Q) (hPT : P ≠ T) (hQT : Q ≠ T)
    (hBT : B ≤ T) (hBw : B ≤ w.heap.size)
    (hc0 : w.cell? ⟨b, off, none⟩ = some (.int .u8 x0)) (hc1 : w.cell? ⟨b, off + 1, none⟩ = some (.int .u8 ((k : Int) + 128))) (h0 : 0 ≤ x0 ∧ x0 ≤ 255)
    (hys : Rd w B (tl (some ⟨b, off, none⟩) 2 c 1) ys) (hyl : ys.length = k) (hk1 : 1 ≤ k) (hk4 : k ≤ 4)
    (hlc : l ≤ c) (hx0 : ¬ x0 % 32 = 31) (hlk : k + 2 ≤ l) (hl : l ≤ 65536) :
    Calls Try.prog 35 #[.pointer (some ⟨P, 0, none⟩), .pointer (some ⟨Q, 0, none⟩), .pointer (some ⟨T, 0, none⟩), .bool true] w (AsnPost P Q T l c ⟨b, off, none⟩ x0 (longHead l k N) w) := by
  have HN := hide hN
  clear hN
  have hpc := hp.cell
  have htc := ht.cell
  have htf := ht.free
  have hb1 : (bits BinOp.and IntKind.u8 ((k : Int) + 128) 128 == 0) = false := by rw [u8_and128_hi (by omega) (by omega)]; rfl
  have hb2 : bits BinOp.and IntKind.u8 ((k : Int) + 128) 127 = (k : Int) := by rw [u8_and127_hi (by omega) (by omega)]; omega
  have hb3 : (((k : Nat) : Int) == 0) = false := by rw [beq_eq_false_iff_ne]; omega
  have hPw := hp.lt
  have hQw := hq.lt
  have hTw := ht.lt
  go_enter Try.func35, Try.ntmps35
  go_wp2_with fail
  go_quiet (fail)
  go_wp2_with fail
  have hyw := (hys.below (((below_drewN (Below.refl B w) nq).setCell (p := ⟨T, 0, none⟩) hBT (.int .u8 x0)).alloc (by simp [World.setCell]; omega) (.cells #[.int .u32 0] 69))).below
    ((Below.refl B _).alloc (by simp [World.setCell]; omega) (.cells #[.slice (tl (some ⟨b, off, none⟩) 2 c 1) k (c - 2)] 40))
  refine (readUnsigned_ok (u := .int .u32 0) hyw hyl (Box.new' (by simp) _ _) ((Box.new' (by simp) _ _).alloc _) (by omega) (by omega) rfl hk1 hk4 (by omega)).mono ?_
  rintro e w3 ⟨rfl, hw3⟩
  have p3 : Box w3 P 40 (.slice (some ⟨b, off, none⟩) l c) := by
    rw [← hw3]; exact (((((hp.drewN nq).far2 hPT _).alloc _).alloc _).far2 (by omega) _).far2 (by omega) _
  have q3 : Box w3 Q 40 uq := by
    rw [← hw3]; exact (((((hq.drewN nq).far2 hQT _).alloc _).alloc _).far2 (by omega) _).far2 (by omega) _
  have t3 : Box w3 T 43 (.int .u8 x0) := by
    rw [← hw3]; exact (((((ht.drewN nq).set_ _).alloc _).alloc _).far2 (by omega) _).far2 (by omega) _
  have n3 : Box w3 w.heap.size 69 (.int .u32 (num ys)) := by
    rw [← hw3]; exact (((Box.new' (by simp) _ _).alloc _).far2 (by omega) _).set_ _
  have k3 : Keeps [P, Q, T] w w3 := by
    rw [← hw3]; exact ((((((Keeps.refl _ _).drewN nq).setCell (by simp) _).alloc _).alloc _).setCell (by simp) _).setCell (by simp) _
  have hnb := num_bound ys hys.1 k hk4
  rw [List.take_of_length_le (by omega)] at hnb
  have HK := hide k3
  clear hw3 hyw k3
  rw [HN.out] at n3 hnb
  have hN0 := hnb.1
  clear hnb
  have pc3 := p3.cell
  have nc3 := n3.cell
  go_wp2_with fail
  · have hlt : N < 128 := by assumption
    go_ret
    rw [show longHead l k N = none from if_pos (.inl hlt)]
    exact .no rfl HK.out
  · have hz : (N / 2 ^ ((k - 1) * 8) == 0) = true := by assumption
    go_ret
    rw [show longHead l k N = none from if_pos (.inr (.inl (by simpa using hz)))]
    exact .no rfl HK.out
  · have hov : (2 + (k : Int) + N) % 4294967296 < N := by assumption
    go_ret
    rw [show longHead l k N = none from if_pos (.inr (.inr (by omega)))]
    exact .no rfl HK.out
  · have hlo : 128 ≤ N := by assumption
    have hnz : (N / 2 ^ ((k - 1) * 8) == 0) = false := by assumption
    have hz' : ¬ N / 2 ^ ((k - 1) * 8) = 0 := by simpa using hnz
    by_cases hfit : (l : Int) < 2 + k + N
    · refine (ReadBytes_no (n := 2 + k + N.toNat) p3 (by omega) (by omega)).mono ?_
      rintro e w' ⟨rfl, rfl⟩
      go_wp2_with fail
      go_ret
      rw [show longHead l k N = none from if_pos (.inr (.inr hfit))]
      exact .no rfl HK.out
    · refine (ReadBytes_ok (n := 2 + k + N.toNat) p3 q3 hPQ (by omega) (by omega) hlc).mono ?_
      rintro e w' ⟨rfl, rfl⟩
      go_wp2_with fail
      refine (Skip_ok (n := 2 + k) ((q3.far2 (Ne.symm hPQ) _).set_ _) (by omega) (by omega) (by omega)).mono ?_
      rintro e w' ⟨rfl, rfl⟩
      go_wp2_with fail
      go_ret
      rw [show longHead l k N = some (2 + k, N.toNat) from if_neg (by rintro (h | h | h) <;> first | omega | exact hz' h)]
      refine .yes rfl ?_ ?_ ?_ ?_
      · exact ((HK.out.setCell (by simp) _).setCell (by simp) _).setCell (by simp) _
      · exact ((p3.set_ _).far2 hPQ _).far2 hPQ _
      · exact ((q3.far2 (Ne.symm hPQ) _).set_ _).set_ _
      · exact ((t3.far2 (Ne.symm hPT) _).far2 (Ne.symm hQT) _).far2 (Ne.symm hQT) _

theorem readASN1_any {A : Option Addr} {xs : List Int} (hr : Rd w B A xs) (hn : xs.length = l) (hp : Box w P 40 (.slice A l c)) (hq : Box w Q 40 uq) (ht : Box w T 43 ut)
    (hPQ : P ≠ Q) (hPT : P ≠ T) (hQT : Q ≠ T) (hBT : B ≤ T) (hBw : B ≤ w.heap.size) (hlc : l ≤ c) (hl : l ≤ 65536) :
    Calls Try.prog 35 #[.pointer (some ⟨P, 0, none⟩), .pointer (some ⟨Q, 0, none⟩), .pointer (some ⟨T, 0, none⟩), .bool true] w
      fun e w' => ∃ a, (hdr xs ≠ none → A = some a) ∧ AsnPost P Q T l c a (xs.headD 0) (hdr xs) w e w' := by
  match xs, hn, hr with
  | [], hn, hr => exact (readASN1_tiny (a := default) hp (by simp at hn; omega)).mono fun e w' h => ⟨_, fun h' => absurd rfl h', h⟩
  | [x0], hn, hr => exact (readASN1_tiny (a := default) hp (by simp at hn; omega)).mono fun e w' h => ⟨_, fun h' => absurd rfl h', h⟩
  | x0 :: x1 :: r, hn, hr =>
    obtain ⟨b, off, rfl, hbB, hcell⟩ := hr.at_ (by simp)
    have hc0 := hcell 0 x0 rfl
    have hc1 := hcell 1 x1 rfl
    rw [Nat.add_zero] at hc0
    have hb0 := hr.byte (i := 0) (x := x0) rfl
    have hb1 := hr.byte (i := 1) (x := x1) rfl
    have hl2 : 2 ≤ l := by rw [← hn]; simp
    have go : ∀ {o : Option (Nat × Nat)}, hdr (x0 :: x1 :: r) = o → Calls Try.prog 35 #[.pointer (some ⟨P, 0, none⟩), .pointer (some ⟨Q, 0, none⟩), .pointer (some ⟨T, 0, none⟩), .bool true] w (AsnPost P Q T l c ⟨b, off, none⟩ x0 o w) →
        Calls Try.prog 35 #[.pointer (some ⟨P, 0, none⟩), .pointer (some ⟨Q, 0, none⟩), .pointer (some ⟨T, 0, none⟩), .bool true] w
          fun e w' => ∃ a, (hdr (x0 :: x1 :: r) ≠ none → some (⟨b, off, none⟩ : Addr) = some a) ∧ AsnPost P Q T l c a ((x0 :: x1 :: r).headD 0) (hdr (x0 :: x1 :: r)) w e w' := by
      intro o ho hc
      exact hc.mono fun e w' h => ⟨_, fun _ => rfl, by rw [ho]; exact h⟩
    by_cases ht31 : x0 % 32 = 31
    · exact go (by simp [hdr, ht31]) (readASN1_tag hp hc0 hc1 hb0 hl2 ht31)
    · by_cases h128 : x1 < 128
      · obtain ⟨m, rfl⟩ := Int.eq_ofNat_of_zero_le hb1.1
        by_cases hfit : m + 2 ≤ l
        · refine go ?_ (readASN1_short hp hq ht hPQ hPT hQT hc0 hc1 hb0 (by omega) hlc ht31 hfit)
          unfold hdr
          simp only []
          rw [if_neg ht31, if_pos h128, if_pos (by rw [hn]; simpa using hfit)]
          simp
        · refine go ?_ (readASN1_short_no hp ht hPT hc0 hc1 hb0 (by omega) ht31 hl2 (by omega))
          unfold hdr
          simp only []
          rw [if_neg ht31, if_pos h128, if_neg (by rw [hn]; simpa using hfit)]
      · obtain ⟨k, hk⟩ : ∃ k : Nat, x1 = (k : Int) + 128 := ⟨(x1 - 128).toNat, by omega⟩
        subst hk
        have ek : ((k : Int) + 128 - 128).toNat = k := by omega
        by_cases hk0 : k = 0
        · subst hk0
          exact go (by unfold hdr; simp only []; rw [if_neg ht31, if_neg h128, if_pos (.inl (by omega))]) (readASN1_len0 hp ht hc0 hc1 hb0 ht31 hl2)
        · by_cases hk5 : 4 < k
          · exact go (by unfold hdr; simp only []; rw [if_neg ht31, if_neg h128, if_pos (.inr (.inl (by omega)))]) (readASN1_len5 hp ht hc0 hc1 hb0 ht31 hl2 hk5 (by omega))
          · by_cases hlk : l < k + 2
            · exact go (by unfold hdr; simp only []; rw [if_neg ht31, if_neg h128, if_pos (.inr (.inr (by rw [ek, hn]; omega)))]) (readASN1_cut hp ht hPT hc0 hc1 hb0 ht31 hl2 (by omega) (by omega) hlk)
            · have hys := (hr.cut (k := 2) (c := c) (by omega)).take k
              have hyl : (((x0 :: ((k : Int) + 128) :: r).drop 2).take k).length = k := by
                rw [List.length_take, List.length_drop, hn]; omega
              refine go ?_ (readASN1_long rfl hp hq ht hPQ hPT hQT hBT hBw hc0 hc1 hb0 hys hyl (by omega) (by omega) hlc ht31 (by omega) hl)
              unfold hdr
              simp only []
              rw [if_neg ht31, if_neg h128, if_neg (by rw [ek, hn]; omega), ek, hn]
              rfl
end
end Go.Proofs.Ytlmidbmmnjnagaa

/- The walks of the reference's Stripped, tagged, integer and Signed. -/
import Derived.Test.YtlmidbmmnjnagaaOwn
import Derived.Test.YtlmidbmmnjnagaaPlain4
import Derived.Deep.DeepMust
namespace Go.Proofs.Ytlmidbmmnjnagaa
open Go.RowKit

attribute [local go_sem ↓] sliced_tl
attribute [local go_sem] tl_zero

def lenOf : Value → Nat | .slice _ n _ => n | _ => 0

section
variable {l c B : Nat} {A : Option Addr} {xs : List Int} {tag : Int} {w : World}

theorem Stripped_any (hr : Rd w B A xs) (hn : xs.length = l) (hlc : l ≤ c) :
    Calls Try.prog 8 #[.slice A l c] w fun e w' => (∃ A' c', e = .returned (.slice A' (strip xs).length c') ∧ (strip xs).length ≤ c' ∧ Rd w B A' (strip xs)) ∧ w = w' := by
  have HR := hide hr
  have HN := hide hn
  clear hr hn
  go_enter Try.func8, Try.ntmps8
  go_wp2_with fail
  go_loop [0] (fun v => ∃ (A' : Option Addr) (c' : Nat) (ys : List Int), v = .slice A' ys.length c' ∧ ys.length ≤ c' ∧ Hid (Rd w B A' ys) ∧ Hid (strip ys = strip xs)) (fun v => lenOf v)
  case atStart => exact ⟨A, c, xs, by rw [HN.out], by rw [HN.out]; exact hlc, HR, hide rfl⟩
  case round =>
    obtain ⟨A', c', ys, rfl, hc', HR', HS⟩ := hrel
    obtain ⟨n, hn⟩ : ∃ n, ys.length = n := ⟨_, rfl⟩
    rw [hn] at hc' ⊢
    have HNy := hide hn
    clear hn
    by_cases h0 : n = 0
    · subst h0
      have hy : ys = [] := List.eq_nil_of_length_eq_zero HNy.out
      have HSx : Hid ((strip xs) = []) := hide (by rw [← HS.out, hy]; rfl)
      clear hy
      go_wp2_with fail
      go_ret
      rw [HSx.out]
      exact ⟨⟨A', c', rfl, by simp, Rd.nil _ _ _⟩, rfl⟩
    · obtain ⟨a, ha⟩ : ∃ a, ys[0]? = some a := ⟨_, List.getElem?_eq_getElem (show 0 < ys.length by rw [HNy.out]; omega)⟩
      obtain ⟨g, off, rfl, hgB, hcell⟩ := HR'.out.at_ (show 0 < ys.length by rw [HNy.out]; omega)
      have hc0 := hcell 0 a ha
      rw [Nat.add_zero] at hc0
      have HA := hide ha
      clear ha hcell
      by_cases ha0 : a = 0
      · subst ha0
        have HS1 : Hid (strip (ys.drop 1) = strip xs) := hide (by rw [← HS.out]; exact (strip_drop HA.out).symm)
        have HR1 : Hid (Rd w B (tl (some ⟨g, off, none⟩) 1 c' 1) (ys.drop 1)) := hide (HR'.out.cut (by rw [HNy.out]; exact hc'))
        have HL1 : Hid ((ys.drop 1).length = n - 1) := hide (by rw [List.length_drop, HNy.out])
        go_wp2_with fail
        go_round
        case rel => exact ⟨_, c' - 1, ys.drop 1, by rw [HL1.out], by rw [HL1.out]; omega, HR1, HS1⟩
        case measure => simp [lenOf]; omega
      · have e1 : (a == 0) = false := by rw [beq_eq_false_iff_ne]; exact ha0
        have HSx : Hid (strip xs = ys) := hide (by rw [← HS.out]; exact strip_of_head (fun b hb => by rw [HA.out] at hb; cases hb; exact ha0))
        go_wp2_with fail
        go_ret
        rw [HSx.out]
        exact ⟨⟨_, c', by rw [HNy.out]; rfl, by rw [HNy.out]; exact hc', HR'.out⟩, rfl⟩

theorem Rd.lit {w : World} {g : Nat} (hg : w.heap.size = g) (xs : List Int) (hb : ∀ x ∈ xs, 0 ≤ x ∧ x ≤ 255) : Rd (w.alloc (.cells (xs.map (Value.int .u8)).toArray 5)) (g + 1) (some ⟨g, 0, none⟩) xs := by
  subst hg
  refine ⟨hb, fun _ => ⟨w.heap.size, 0, rfl, Nat.lt_succ_self _, fun i x hx => ?_⟩⟩
  rw [cell_of_row (w.alloc (.cells (xs.map (Value.int .u8)).toArray 5)) w.heap.size (0 + i) _ 5 (0, 0) (heap_alloc_new w _), Nat.zero_add]
  simp [hx]
theorem Own.lit {w : World} {base g : Nat} (hg : w.heap.size = g) (hbase : base ≤ g) (xs : List Int) (hb : ∀ x ∈ xs, 0 ≤ x ∧ x ≤ 255) (hl : xs.length ≤ 65536) :
    Own (w.alloc (.cells (xs.map (Value.int .u8)).toArray 5)) base (.slice (some ⟨g, 0, none⟩) xs.length xs.length) xs := by
  subst hg
  have h := World.ownsRow_lit (base := base) (e := 5) (size := 1) w (xs.map (Value.int .u8)).toArray xs.length hbase (by unfold maxLen; omega) (by simp)
  exact ⟨h, hb⟩

theorem Own.less {w : World} {base base' : Nat} {v : Value} {xs : List Int} (h : Own w base v xs) (hb : base' ≤ base) : Own w base' v xs := by
  refine ⟨⟨h.1.1, ?_⟩, h.2⟩
  rcases h.1.2 with h2 | ⟨g, cap, cur, hv, hg, r⟩
  · exact .inl h2
  · exact .inr ⟨g, cap, cur, hv, Nat.le_trans hb hg, r⟩

theorem Own.kept_below {w w' : World} {base : Nat} {v : Value} {xs : List Int} (h : Own w base v xs) (hb : Below w.heap.size w w') : Own w' base v xs := by
  refine ⟨⟨h.1.1, ?_⟩, h.2⟩
  rcases h.1.2 with h2 | ⟨g, cap, cur, hv, hg, hh, r⟩
  · exact .inl h2
  · exact .inr ⟨g, cap, cur, hv, hg, (hb.block g (lt_of_block hh)).trans hh, r⟩

set_option maxRecDepth 100000 in
theorem tagged_any (hr : Rd w B A xs) (hn : xs.length = l) (hl : l ≤ 60000) (ht : 0 ≤ tag ∧ tag ≤ 255) (hB : B ≤ w.heap.size) :
    Calls Try.prog 16 #[.int .u8 tag, .slice A l c] w fun e w' => ∃ v, e = .returned v ∧ Own w' w.heap.size v (tagged tag xs) ∧ Below w.heap.size w w' := by
  have HR := hide hr
  have HN := hide hn
  clear hr hn
  by_cases h1 : l < 128
  · have hmod : (l : Int) % 256 = l := by omega
    have HLB : Hid (lenBytes l = [(l : Int)]) := hide (by unfold lenBytes; rw [if_pos h1])
    have hmem : ∀ x ∈ [(l : Int)], (0 : Int) ≤ x ∧ x ≤ 255 := by rw [← HLB.out]; exact lenBytes_byte (by omega)
    have o1 : Own (w.alloc (.cells #[.int .u8 tag] 5)) w.heap.size (.slice (some ⟨w.heap.size, 0, none⟩) 1 1) [tag] := Own.lit (xs := [tag]) rfl (Nat.le_refl _) (by simpa using ht) (by simp)
    have r1 : Rd ((w.alloc (.cells #[.int .u8 tag] 5)).alloc (.cells #[.int .u8 ((l : Int))] 5)) (w.heap.size + 1 + 1) (some ⟨w.heap.size + 1, 0, none⟩) [(l : Int)] := Rd.lit (xs := [(l : Int)]) (by simp) hmem
    have O1 := hide o1
    have R1 := hide r1
    clear o1 r1 hmem
    have K1 : ∀ w1, World.grownBy ((w.alloc (.cells #[.int .u8 tag] 5)).alloc (.cells #[.int .u8 ((l : Int))] 5)) w1 (some w.heap.size) → Below w.heap.size w w1 :=
      fun w1 hg => (((Below.refl _ _).alloc (Nat.le_refl _) _).alloc (by simp) _).grown hg (by simp; omega) (by intro k hk; cases hk; exact Nat.le_refl _)
    have tok1 : True := trivial
    have tok2 : True := trivial
    go_enter Try.func16, Try.ntmps16
    go_wp2_with (first
      | (at_builtin; have _t := tok1; refine wpList_append_rd (v := .slice (some ⟨w.heap.size, 0, none⟩) 1 1) (ys := [tag]) (base := w.heap.size) rfl (.tmp 22) (.tmp 25) rfl rfl (O1.out.alloc _) rfl R1.out rfl (by simp) (by simp; omega) ?_; intro v1 w1 hown1 hg1 hat1; have hb1 := K1 w1 hg1; clear tok1 hg1 hat1)
      | (at_builtin; have _t := tok2; refine wpList_append_rd (v := v1) (ys := [tag] ++ [(l : Int)]) (base := w.heap.size) rfl (.tmp 35) (.tmp 36) rfl rfl hown1 rfl (HR.out.below (hb1.mono hB)) HN.out (by simp; omega) hb1.size ?_; intro v2 w2 hown2 hg2 hat2; clear tok2))
    go_ret
    refine ⟨v2, rfl, ?_, hb1.grown hg2 hb1.size (fun k hk => (hown1.1.lt k hk).1)⟩
    have e : tagged tag xs = [tag] ++ [(l : Int)] ++ xs := by unfold tagged; rw [HN.out, HLB.out]; rfl
    rw [e]
    exact hown2
  · by_cases h2 : l < 256
    · have hmod : (l : Int) % 256 = l := by omega
      have HLB : Hid (lenBytes l = [129, (l : Int)]) := hide (by unfold lenBytes; rw [if_neg h1, if_pos h2])
      have hmem : ∀ x ∈ [129, (l : Int)], (0 : Int) ≤ x ∧ x ≤ 255 := by rw [← HLB.out]; exact lenBytes_byte (by omega)
      have o1 : Own (w.alloc (.cells #[.int .u8 tag] 5)) w.heap.size (.slice (some ⟨w.heap.size, 0, none⟩) 1 1) [tag] := Own.lit (xs := [tag]) rfl (Nat.le_refl _) (by simpa using ht) (by simp)
      have r1 : Rd ((w.alloc (.cells #[.int .u8 tag] 5)).alloc (.cells #[.int .u8 (129), .int .u8 ((l : Int))] 5)) (w.heap.size + 1 + 1) (some ⟨w.heap.size + 1, 0, none⟩) [129, (l : Int)] := Rd.lit (xs := [129, (l : Int)]) (by simp) hmem
      have O1 := hide o1
      have R1 := hide r1
      clear o1 r1 hmem
      have K1 : ∀ w1, World.grownBy ((w.alloc (.cells #[.int .u8 tag] 5)).alloc (.cells #[.int .u8 (129), .int .u8 ((l : Int))] 5)) w1 (some w.heap.size) → Below w.heap.size w w1 :=
        fun w1 hg => (((Below.refl _ _).alloc (Nat.le_refl _) _).alloc (by simp) _).grown hg (by simp; omega) (by intro k hk; cases hk; exact Nat.le_refl _)
      have tok1 : True := trivial
      have tok2 : True := trivial
      go_enter Try.func16, Try.ntmps16
      go_wp2_with (first
        | (at_builtin; have _t := tok1; refine wpList_append_rd (v := .slice (some ⟨w.heap.size, 0, none⟩) 1 1) (ys := [tag]) (base := w.heap.size) rfl (.tmp 30) (.tmp 33) rfl rfl (O1.out.alloc _) rfl R1.out rfl (by simp) (by simp; omega) ?_; intro v1 w1 hown1 hg1 hat1; have hb1 := K1 w1 hg1; clear tok1 hg1 hat1)
        | (at_builtin; have _t := tok2; refine wpList_append_rd (v := v1) (ys := [tag] ++ [129, (l : Int)]) (base := w.heap.size) rfl (.tmp 35) (.tmp 36) rfl rfl hown1 rfl (HR.out.below (hb1.mono hB)) HN.out (by simp; omega) hb1.size ?_; intro v2 w2 hown2 hg2 hat2; clear tok2))
      go_ret
      refine ⟨v2, rfl, ?_, hb1.grown hg2 hb1.size (fun k hk => (hown1.1.lt k hk).1)⟩
      have e : tagged tag xs = [tag] ++ [129, (l : Int)] ++ xs := by unfold tagged; rw [HN.out, HLB.out]; rfl
      rw [e]
      exact hown2
    · have hmod : (l : Int) / 256 % 256 = (l : Int) / 256 := by omega
      have HLB : Hid (lenBytes l = [130, (l : Int) / 256, (l : Int) % 256]) := hide (by unfold lenBytes; rw [if_neg h1, if_neg h2])
      have hmem : ∀ x ∈ [130, (l : Int) / 256, (l : Int) % 256], (0 : Int) ≤ x ∧ x ≤ 255 := by rw [← HLB.out]; exact lenBytes_byte (by omega)
      have o1 : Own (w.alloc (.cells #[.int .u8 tag] 5)) w.heap.size (.slice (some ⟨w.heap.size, 0, none⟩) 1 1) [tag] := Own.lit (xs := [tag]) rfl (Nat.le_refl _) (by simpa using ht) (by simp)
      have r1 : Rd ((w.alloc (.cells #[.int .u8 tag] 5)).alloc (.cells #[.int .u8 (130), .int .u8 ((l : Int) / 256), .int .u8 ((l : Int) % 256)] 5)) (w.heap.size + 1 + 1) (some ⟨w.heap.size + 1, 0, none⟩) [130, (l : Int) / 256, (l : Int) % 256] := Rd.lit (xs := [130, (l : Int) / 256, (l : Int) % 256]) (by simp) hmem
      have O1 := hide o1
      have R1 := hide r1
      clear o1 r1 hmem
      have K1 : ∀ w1, World.grownBy ((w.alloc (.cells #[.int .u8 tag] 5)).alloc (.cells #[.int .u8 (130), .int .u8 ((l : Int) / 256), .int .u8 ((l : Int) % 256)] 5)) w1 (some w.heap.size) → Below w.heap.size w w1 :=
        fun w1 hg => (((Below.refl _ _).alloc (Nat.le_refl _) _).alloc (by simp) _).grown hg (by simp; omega) (by intro k hk; cases hk; exact Nat.le_refl _)
      have tok1 : True := trivial
      have tok2 : True := trivial
      go_enter Try.func16, Try.ntmps16
      go_wp2_with (first
        | (at_builtin; have _t := tok1; refine wpList_append_rd (v := .slice (some ⟨w.heap.size, 0, none⟩) 1 1) (ys := [tag]) (base := w.heap.size) rfl (.tmp 11) (.tmp 17) rfl rfl (O1.out.alloc _) rfl R1.out rfl (by simp) (by simp; omega) ?_; intro v1 w1 hown1 hg1 hat1; have hb1 := K1 w1 hg1; clear tok1 hg1 hat1)
        | (at_builtin; have _t := tok2; refine wpList_append_rd (v := v1) (ys := [tag] ++ [130, (l : Int) / 256, (l : Int) % 256]) (base := w.heap.size) rfl (.tmp 35) (.tmp 36) rfl rfl hown1 rfl (HR.out.below (hb1.mono hB)) HN.out (by simp; omega) hb1.size ?_; intro v2 w2 hown2 hg2 hat2; clear tok2))
      go_ret
      refine ⟨v2, rfl, ?_, hb1.grown hg2 hb1.size (fun k hk => (hown1.1.lt k hk).1)⟩
      have e : tagged tag xs = [tag] ++ [130, (l : Int) / 256, (l : Int) % 256] ++ xs := by unfold tagged; rw [HN.out, HLB.out]; rfl
      rw [e]
      exact hown2
end
end Go.Proofs.Ytlmidbmmnjnagaa

/-
  DERIVED. The walk of FnNextLandsOnTheRightByte (function 5).
-/
import Derived.Test.Qxb6602906aNext
import Derived.Test.Qxb6602906aClone
namespace Go.Proofs.Qxb6602906a
open Go.RowKit

/-- Too long a line, or an end beyond it: the law says nothing of it. -/
theorem nx_outside (a : Option Addr) (len cap : Nat) (e op : Int) (w : World) (hl : len ≤ 9223372036854775807) (h : 1048576 < len ∨ (len : Int) < e) :
    Calls Try.prog 5 #[.slice a len cap, .int .i64 e, .int .u8 op] w fun e w' => e = .returned (.bool true) ∧ Below w.heap.size w w' := by
  by_cases hb : 1048576 < len
  · have hd : decide (len ≤ 1048576) = false := by simp; omega
    go_enter Try.func5, Try.ntmps5
    go_wp2_with (go_at_call 11; refine (bytes_any _ _ _ _ _ _ hl).mono ?_; rintro e w' ⟨rfl, rfl⟩)
    go_ret
    exact ⟨rfl, Below.refl _ _⟩
  · have hd : decide (len ≤ 1048576) = true := by simp; omega
    have he : (len : Int) < e := by omega
    clear h
    go_enter Try.func5, Try.ntmps5
    go_wp2_with (go_at_call 11; refine (bytes_any _ _ _ _ _ _ hl).mono ?_; rintro e w' ⟨rfl, rfl⟩)
    go_ret
    exact ⟨rfl, Below.refl _ _⟩

/-- A nil line. -/
theorem nx_nil (e op : Int) (w : World) (he : e ≤ 0) :
    Calls Try.prog 5 #[.slice none 0 0, .int .i64 e, .int .u8 op] w fun e w' => e = .returned (.bool true) ∧ Below w.heap.size w w' := by
  by_cases hn : e < 0
  · go_enter Try.func5, Try.ntmps5
    go_wp2_with (first
      | (go_at_call 11; refine (bytes_any _ _ _ _ _ _ (by omega)).mono ?_; rintro e w' ⟨rfl, hw⟩; rw [hw]; clear hw w')
      | (go_at_call 7; refine (clone_nil _).mono ?_; rintro e w' ⟨rfl, hw⟩; rw [hw]; clear hw w')
      | (go_at_call 12; refine (zznext_neg _ _ _ _ _ _ hn).mono ?_; rintro e w' ⟨rfl, hw⟩; rw [hw]; clear hw w'))
    go_ret
    exact ⟨rfl, Below.refl _ _⟩
  · obtain rfl : e = 0 := by omega
    go_enter Try.func5, Try.ntmps5
    go_wp2_with (first
      | (go_at_call 11; refine (bytes_any _ _ _ _ _ _ (by omega)).mono ?_; rintro e w' ⟨rfl, hw⟩; rw [hw]; clear hw w')
      | (go_at_call 7; refine (clone_nil _).mono ?_; rintro e w' ⟨rfl, hw⟩; rw [hw]; clear hw w')
      | (go_at_call 12; refine (zznext_zero _ _ _ _ _).mono ?_; rintro e w' ⟨rfl, hw⟩; rw [hw]; clear hw w'))
    go_ret
    exact ⟨rfl, Below.refl _ _⟩

/-- A line that is not nil, a negative end. -/
theorem nx_neg (x : Addr) (len cap : Nat) (e op : Int) (G : Nat → Int) (w : World) (hl : len ≤ 1048576) (hn : e < 0)
    (hc : ∀ j, j < len → w.cell? (x.add j) = some (.int .u8 (G j))) :
    Calls Try.prog 5 #[.slice (some x) len cap, .int .i64 e, .int .u8 op] w fun e w' => e = .returned (.bool true) ∧ Below w.heap.size w w' := by
  have hd : decide (len ≤ 1048576) = true := by simp; omega
  have HC := hide hc
  clear hc
  go_enter Try.func5, Try.ntmps5
  go_wp2_with (first
    | (go_at_call 11; refine (bytes_any _ _ _ _ _ _ (by omega)).mono ?_; rintro e w' ⟨rfl, hw⟩; rw [hw]; clear hw w')
    | (go_at_call 7; refine (clone_any x len cap G w hl HC.out).mono ?_; rintro e w2 ⟨rfl, HR, hb2⟩)
    | (go_at_call 12; refine (zznext_neg _ _ _ _ _ _ hn).mono ?_; rintro e w' ⟨rfl, hw⟩; rw [hw]; clear hw w'))
  go_ret
  exact ⟨rfl, hb2⟩

/-- How many commas lie behind p and ahead of k, the only one being at m. -/
def commas (p m k : Nat) : Int := if p < m ∧ m < k then 1 else 0
theorem commas_bd (p m k : Nat) : 0 ≤ commas p m k ∧ commas p m k ≤ 1 := by unfold commas; split <;> omega
theorem commas_start (p m : Nat) : commas p m (p + 1) = 0 := by unfold commas; rw [if_neg (by omega)]
theorem commas_hit {p m k : Nat} (h : p < k) (e : k = m) : commas p m k + 1 = commas p m (k + 1) := by
  unfold commas; rw [if_neg (by omega), if_pos (by omega)]; rfl
theorem commas_miss {p m k : Nat} (e : ¬ k = m) : commas p m k = commas p m (k + 1) := by
  unfold commas
  by_cases h : p < m ∧ m < k
  · rw [if_pos h, if_pos (by omega)]
  · rw [if_neg h, if_neg (by omega)]
/-- No space is a comma. -/
theorem spB_comma {c : Int} (h : spB c = true) : (c == 44) = false := by
  unfold spB at h
  simp only [decide_eq_true_eq] at h
  simp
  omega

set_option maxHeartbeats 1000000 in
theorem nx_inside (x : Addr) (len cap n : Nat) (op : Int) (G : Nat → Int) (w : World) (hl : len ≤ 1048576) (hn : n ≤ len)
    (hc : ∀ j, j < len → w.cell? (x.add j) = some (.int .u8 (G j))) (hG : ∀ j, 0 ≤ G j ∧ G j ≤ 255) :
    Calls Try.prog 5 #[.slice (some x) len cap, .int .i64 n, .int .u8 op] w fun e w' => e = .returned (.bool true) ∧ Below w.heap.size w w' := by
  have hd : decide (len ≤ 1048576) = true := by simp; omega
  have HC := hide hc
  have HG := hide hG
  clear hc hG
  go_enter Try.func5, Try.ntmps5
  go_wp2_with (first
    | (go_at_call 11; refine (bytes_any _ _ _ _ _ _ (by omega)).mono ?_; rintro e w' ⟨rfl, hw⟩; rw [hw]; clear hw w')
    | (go_at_call 7; refine (clone_any x len cap G w hl HC.out).mono ?_; rintro e w2 ⟨rfl, HR, hb2⟩))
  refine (zznext_any w.heap.size 0 len len n G op w2 hn hl HR.out HG.out).mono ?_
  rintro e w' ⟨r, ok, rfl, hok, hw⟩
  rw [hw]; clear hw w'
  rcases hok with ⟨rfl, rfl⟩ | ⟨p, rfl, rfl, hp, ho, hs⟩ | ⟨p, m, rfl, rfl, hp, hns, hne, hs⟩
  · go_wp2
    go_ret
    exact ⟨rfl, hb2⟩
  · have HS := hide hs
    have hcell : w2.cell? ⟨w.heap.size, p, none⟩ = some (.int .u8 op) := by rw [← ho]; have := HR.out p (by omega); rwa [Nat.zero_add] at this
    have HO := hide ho
    have e1 : decide (n < p) = false := by simp; omega
    have e2 : decide ((p : Int) < -1) = false := by simp
    have e3 : ((p : Int) == -1) = false := by simp
    have e4 : decide (n ≤ p) = false := by simp; omega
    clear hs ho
    go_wp2
    go_loop [12] (fun i => ∃ k : Nat, p < k ∧ k ≤ n ∧ i = .int .i64 k) (fun i => n - (intOf i).toNat)
    case atStart => exact ⟨p + 1, by omega, by omega, by go_num⟩
    case round =>
      obtain ⟨k, hk1, hk2, rfl⟩ := hrel
      clear hcell
      by_cases hlt : k < n
      · obtain ⟨c, hcd⟩ : ∃ c, c = G k := ⟨_, rfl⟩
        have hsp : spB c = true := by rw [hcd]; exact HS.out k hk1 hlt
        have hck : w2.cell? ⟨w.heap.size, k, none⟩ = some (.int .u8 c) := by rw [hcd]; have := HR.out k (by omega); rwa [Nat.zero_add] at this
        have HCD := hide hcd
        clear hcd
        go_wp2_with (go_at_call 13; refine (jsonSpace_any _ _).mono ?_; rintro e w' ⟨rfl, hw⟩; rw [hw]; clear hw w')
        go_round
        case rel =>
          exact ⟨k + 1, by omega, by omega, by go_num⟩
        case measure => simp [intOf]; omega
      · go_wp2
        go_ret
        exact ⟨rfl, hb2⟩
  · have HS := hide hs
    obtain ⟨c, hcd⟩ : ∃ c, c = G p := ⟨_, rfl⟩
    have hcell : w2.cell? ⟨w.heap.size, p, none⟩ = some (.int .u8 c) := by rw [hcd]; have := HR.out p (by omega); rwa [Nat.zero_add] at this
    rw [← hcd] at hns hne
    have HCD := hide hcd
    clear hs hcd
    go_wp2_with (go_at_call 13; refine (jsonSpace_any _ _).mono ?_; rintro e w' ⟨rfl, hw⟩; rw [hw]; clear hw w')
    go_loop [10, 11] (fun t i => ∃ k : Nat, p < k ∧ k ≤ n ∧ i = .int .i64 k ∧ t = .int .i64 (commas p m k)) (fun _ i => n - (intOf i).toNat)
    case atStart => exact ⟨p + 1, by omega, by omega, by go_num, by rw [commas_start]⟩
    case round =>
      obtain ⟨k, hk1, hk2, rfl, rfl⟩ := hrel
      clear hcell hns hne
      obtain ⟨t, htd⟩ : ∃ t, t = commas p m k := ⟨_, rfl⟩
      have ht := commas_bd p m k
      rw [← htd] at ht ⊢
      have HT := hide htd
      clear htd
      by_cases hlt : k < n
      · obtain ⟨c2, hcd2⟩ : ∃ c2, c2 = G k := ⟨_, rfl⟩
        have hck : w2.cell? ⟨w.heap.size, k, none⟩ = some (.int .u8 c2) := by rw [hcd2]; have := HR.out k (by omega); rwa [Nat.zero_add] at this
        have hsk := HS.out k hk1 hlt
        by_cases hkm : k = m
        · rw [if_pos hkm, ← hcd2] at hsk
          subst hsk
          have HK := hide hkm
          clear hcd2 hkm
          go_wp2_with (go_at_call 13; refine (jsonSpace_any _ _).mono ?_; rintro e w' ⟨rfl, hw⟩; rw [hw]; clear hw w')
          go_round
          case rel => exact ⟨k + 1, by omega, by omega, by go_num, by rw [HT.out, commas_hit hk1 HK.out]⟩
          case measure => simp [intOf]; omega
        · rw [if_neg hkm, ← hcd2] at hsk
          have h44 := spB_comma hsk
          have HCD2 := hide hcd2
          have HK := hide hkm
          clear hcd2 hkm
          go_wp2_with (go_at_call 13; refine (jsonSpace_any _ _).mono ?_; rintro e w' ⟨rfl, hw⟩; rw [hw]; clear hw w')
          go_round
          case rel => exact ⟨k + 1, by omega, by omega, by go_num, by rw [HT.out, commas_miss HK.out]⟩
          case measure => simp [intOf]; omega
      · go_wp2
        go_ret
        exact ⟨ret_bool (by simp), hb2⟩

end Go.Proofs.Qxb6602906a

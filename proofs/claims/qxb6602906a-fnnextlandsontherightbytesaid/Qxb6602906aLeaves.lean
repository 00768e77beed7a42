/-
  DERIVED. The contracts of the functions on the road of FnNextLandsOnTheRightByte.
-/
import Derived.Test.Qxb6602906aRows
import Derived.WalkKit
import Derived.WalkSpells
import Derived.OpenShut
import Derived.Laws.CopyOwn
namespace Go.Proofs.Qxb6602906a
open Go.RowKit

/-- Is a byte one of JSON's four spaces? -/
def spB (c : Int) : Bool := decide (c = 32 ∨ c = 9 ∨ c = 10 ∨ c = 13)
/-- Where the space that ends at e begins. -/
def back (G : Nat → Int) : Nat → Nat
  | 0 => 0
  | n + 1 => if spB (G n) = true then back G n else n + 1

theorem hide {p : Prop} (h : p) : Hid p := h
theorem ret_int {k : IntKind} {a b : Int} (h : a = b) : Ending.returned (.int k a) = .returned (.int k b) := by rw [h]
theorem ret_bool {a b : Bool} (h : a = b) : Ending.returned (.bool a) = .returned (.bool b) := by rw [h]

theorem back_yes {G : Nat → Int} {p : Nat} (h : spB (G p) = true) : back G (p + 1) = back G p := by simp [back, h]
theorem back_no {G : Nat → Int} {p : Nat} (h : spB (G p) = false) : back G (p + 1) = p + 1 := by simp [back, h]
theorem back_le (G : Nat → Int) : ∀ e, back G e ≤ e
  | 0 => Nat.le_refl _
  | n + 1 => by
    have := back_le G n
    unfold back
    split <;> omega
theorem back_space (G : Nat → Int) : ∀ e j, back G e ≤ j → j < e → spB (G j) = true
  | 0, j, _, h => by omega
  | n + 1, j, h1, h2 => by
    unfold back at h1
    split at h1
    · by_cases e : j = n
      · rw [e]; assumption
      · exact back_space G n j h1 (by omega)
    · omega
theorem back_stop (G : Nat → Int) : ∀ e p, back G e = p + 1 → spB (G p) = false
  | 0, p, h => by simp [back] at h
  | n + 1, p, h => by
    unfold back at h
    split at h
    · exact back_stop G n p h
    · obtain rfl : n = p := by omega
      simpa using ‹¬ spB (G n) = true›

set_option maxHeartbeats 400000 in
theorem jsonSpace_any (c : Int) (w : World) :
    Calls Try.prog 13 #[.int .u8 c] w fun e w' => e = .returned (.bool (spB c)) ∧ w' = w := by
  go_enter Try.func13, Try.ntmps13
  go_wp2
  all_goals go_ret
  all_goals exact ⟨ret_bool (by unfold spB; rw [Bool.eq_iff_iff]; simp; omega), rfl⟩

set_option maxHeartbeats 400000 in
theorem bytes_any (a : Option Addr) (len cap : Nat) (e op : Int) (w : World) (h : len ≤ 9223372036854775807) :
    Calls Try.prog 11 #[.slice a len cap, .int .i64 e, .int .u8 op] w fun e w' => e = .returned (.bool (decide (len ≤ 1048576))) ∧ w' = w := by
  go_enter Try.func11, Try.ntmps11
  go_wp2
  all_goals go_ret
  all_goals exact ⟨ret_bool (by simp; omega), rfl⟩

set_option maxHeartbeats 400000 in
theorem space_zero (a : Option Addr) (len cap : Nat) (w : World) :
    Calls Try.prog 17 #[.slice a len cap, .int .i64 0] w fun e w' => e = .returned (.int .i64 0) ∧ w' = w := by
  go_enter Try.func17, Try.ntmps17
  go_wp2
  go_loop [5] (fun i => i = .int .i64 0) (fun _ => 0)
  case atStart => rfl
  case round =>
    obtain rfl := hrel
    go_wp2
    go_ret
    exact ⟨rfl, rfl⟩

set_option maxHeartbeats 1000000 in
theorem space_any (b off len cap n : Nat) (G : Nat → Int) (w : World) (hn : n ≤ len) (hl : len ≤ 1048576)
    (hc : ∀ j, j < len → w.cell? ⟨b, off + j, none⟩ = some (.int .u8 (G j))) (hG : ∀ j, 0 ≤ G j ∧ G j ≤ 255) :
    Calls Try.prog 17 #[.slice (some ⟨b, off, none⟩) len cap, .int .i64 n] w fun e w' => e = .returned (.int .i64 (back G n)) ∧ w' = w := by
  go_enter Try.func17, Try.ntmps17
  go_wp2
  go_loop [5] (fun i => ∃ k : Nat, k ≤ n ∧ i = .int .i64 k ∧ Hid (back G k = back G n)) (fun i => (intOf i).toNat)
  case atStart => exact ⟨n, Nat.le_refl _, rfl, rfl⟩
  case round =>
    obtain ⟨k, hk, rfl, HB⟩ := hrel
    cases k with
    | zero =>
      clear hc hG
      go_wp2
      go_ret
      exact ⟨ret_int (by rw [← HB.out]; rfl), rfl⟩
    | succ p =>
      obtain ⟨c, hcd⟩ : ∃ c, c = G p := ⟨_, rfl⟩
      have hcell : w.cell? ⟨b, off + p, none⟩ = some (.int .u8 c) := by rw [hcd]; exact hc p (by omega)
      have hb := hG p
      rw [← hcd] at hb
      have HC := hide hcd
      clear hcd hc hG
      by_cases hs : c = 32 ∨ c = 9 ∨ c = 10 ∨ c = 13
      · have HS : Hid (back G p = back G n) := by
          rw [← HB.out]; exact (back_yes (by rw [← HC.out]; simpa [spB] using hs)).symm
        rcases hs with rfl | rfl | rfl | rfl
        all_goals
          go_wp2
          go_round
          case rel => exact ⟨p, by omega, by go_num, HS⟩
          case measure => simp [intOf]
      · have HS : Hid (back G n = p + 1) := by
          rw [← HB.out]; exact back_no (by rw [← HC.out]; simpa [spB] using hs)
        have h1 : (c == 32) = false := by simp; omega
        have h2 : (c == 9) = false := by simp; omega
        have h3 : (c == 10) = false := by simp; omega
        have h4 : (c == 13) = false := by simp; omega
        go_wp2
        all_goals go_ret
        all_goals exact ⟨ret_int (by rw [HS.out]; simp), rfl⟩

end Go.Proofs.Qxb6602906a

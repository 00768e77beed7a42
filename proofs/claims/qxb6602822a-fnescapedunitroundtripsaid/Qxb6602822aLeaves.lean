/-
  DERIVED. The contracts of the leaves on the roads of FnEscapedUnitInverse and FnEscapedUnitRoundTrip.
-/
import Derived.Test.Qxb6602822aRows
import Derived.WalkKit
import Derived.WalkSpells
import Derived.Laws.BitsLemmas
namespace Go.Proofs.Qxb6602822a
open Go.RowKit

/-- A nibble as a lowercase digit. -/
def lowHex (n : Int) : Int := if n < 10 then 48 + n else 87 + n
/-- A byte, its case folded. -/
def lowAscii (c : Int) : Int := if 65 ≤ c ∧ c ≤ 90 then c + 32 else c
/-- Is a byte a hexadecimal digit? -/
def hexB (c : Int) : Bool := decide ((48 ≤ c ∧ c ≤ 57) ∨ (97 ≤ c ∧ c ≤ 102) ∨ (65 ≤ c ∧ c ≤ 70))
/-- What a hexadecimal digit is worth. -/
def hexVal (c : Int) : Int := if 97 ≤ c then c - 87 else if 65 ≤ c then c - 55 else c - 48
/-- The unit that the first k digits of g name. -/
def unitOf (g : Nat → Int) : Nat → Int
  | 0 => 0
  | k + 1 => 16 * unitOf g k + hexVal (g k)

theorem hide {p : Prop} (h : p) : Hid p := h
theorem ret_int {k : IntKind} {a b : Int} (h : a = b) : Ending.returned (.int k a) = .returned (.int k b) := by rw [h]
theorem ret_bool {a b : Bool} (h : a = b) : Ending.returned (.bool a) = .returned (.bool b) := by rw [h]

set_option maxHeartbeats 400000 in
theorem lower_any (n : Int) (w : World) (h0 : 0 ≤ n) (h1 : n ≤ 15) :
    Calls Try.prog 8 #[.int .i32 n] w fun e w' => e = .returned (.int .u8 (lowHex n)) ∧ w' = w := by
  by_cases h : n < 10
  · go_enter Try.func8, Try.ntmps8
    go_wp2
    go_ret
    exact ⟨ret_int (by unfold lowHex; omega), rfl⟩
  · go_enter Try.func8, Try.ntmps8
    go_wp2
    go_ret
    exact ⟨ret_int (by unfold lowHex; omega), rfl⟩

set_option maxHeartbeats 400000 in
theorem toLower_any (c : Int) (w : World) (h0 : 0 ≤ c) (h1 : c ≤ 255) :
    Calls Try.prog 9 #[.int .u8 c] w fun e w' => e = .returned (.int .u8 (lowAscii c)) ∧ w' = w := by
  go_enter Try.func9, Try.ntmps9
  go_wp2
  all_goals go_ret
  all_goals exact ⟨ret_int (by unfold lowAscii; omega), rfl⟩

set_option maxHeartbeats 400000 in
theorem isHex_any (c : Int) (w : World) (h0 : 0 ≤ c) (h1 : c ≤ 255) :
    Calls Try.prog 6 #[.int .u8 c] w fun e w' => e = .returned (.bool (hexB c)) ∧ w' = w := by
  go_enter Try.func6, Try.ntmps6
  go_wp2
  all_goals go_ret
  all_goals exact ⟨ret_bool (by unfold hexB; rw [Bool.eq_iff_iff]; simp; omega), rfl⟩

set_option maxHeartbeats 400000 in
theorem bytes_any (a : Option Addr) (len cap : Nat) (w : World) (h : len ≤ 9223372036854775807):
    Calls Try.prog 5 #[.slice a len cap] w fun e w' => e = .returned (.bool (decide (len ≤ 1048576))) ∧ w' = w := by
  go_enter Try.func5, Try.ntmps5
  go_wp2
  all_goals go_ret
  all_goals exact ⟨ret_bool (by simp; omega), rfl⟩

theorem hexB_bd {c : Int} (h : hexB c = true) : 48 ≤ c ∧ c ≤ 102 := by
  unfold hexB at h; simp at h; omega
theorem hexVal_bd {c : Int} (h : hexB c = true) : 0 ≤ hexVal c ∧ hexVal c ≤ 15 := by
  unfold hexB at h; unfold hexVal; simp at h; omega
theorem unitOf_lt (g : Nat → Int) (hx : ∀ k, k < 4 → hexB (g k) = true) : ∀ k, k ≤ 4 → 0 ≤ unitOf g k ∧ unitOf g k < 16 ^ k ∧ unitOf g k ≤ 65535 := by
  have h0 := hexVal_bd (hx 0 (by omega))
  have h1 := hexVal_bd (hx 1 (by omega))
  have h2 := hexVal_bd (hx 2 (by omega))
  have h3 := hexVal_bd (hx 3 (by omega))
  intro k hk
  match k, hk with
  | 0, _ => simp [unitOf]
  | 1, _ => simp [unitOf]; omega
  | 2, _ => simp [unitOf]; omega
  | 3, _ => simp [unitOf]; omega
  | 4, _ => simp [unitOf]; omega

theorem unit_step (g : Nat → Int) (k : Nat) {u c v : Int} (hk : k < 4) (h0 : 0 ≤ u) (h1 : u < 16 ^ k) (hu : u = unitOf g k) (hc : c = g k) (hx : hexB c = true) (hv : v = hexVal c) :
    Value.int IntKind.i32 (bits BinOp.or IntKind.i32 (u * 16) v) = Value.int IntKind.i32 (unitOf g (k + 1)) := by
  have hb := hexVal_bd hx
  have h2 : u < 4096 := by
    have : (16 : Int) ^ k ≤ 4096 := by
      match k, hk with
      | 0, _ => decide
      | 1, _ => decide
      | 2, _ => decide
      | 3, _ => decide
    omega
  rw [bits_join .i32 31 (by decide) wraps_i32 4 (u * 16) v (by omega) (by omega) (by omega) (by omega) (by omega) (by omega)]
  subst hv hc
  rw [unitOf, ← hu, Int.mul_comm]

set_option maxHeartbeats 400000 in
theorem unit_any (b off len cap : Nat) (g : Nat → Int) (w : World) (hl : 6 ≤ len) (hlc : len ≤ cap) (hm : cap ≤ maxLen)
    (hc : ∀ k, k < 4 → w.cell? ⟨b, off + 2 + k, none⟩ = some (.int .u8 (g k)))
    (hx : ∀ k, k < 4 → hexB (g k) = true) :
    Calls Try.prog 10 #[.slice (some ⟨b, off, none⟩) len cap] w fun e w' => e = .returned (.int .i32 (unitOf g 4)) ∧ w' = w := by
  unfold maxLen at hm
  have hU := unitOf_lt g hx
  go_enter Try.func10, Try.ntmps10
  go_wp2
  go_loop [3, 9] (fun u i => ∃ k : Nat, k ≤ 4 ∧ i = .int .i64 k ∧ u = .int .i32 (unitOf g k)) (fun _ i => 4 - (intOf i).toNat)
  case atStart => exact ⟨0, Nat.zero_le _, rfl, rfl⟩
  case round =>
    obtain ⟨k, hk, rfl, rfl⟩ := hrel
    by_cases hlt : k < 4
    · obtain ⟨c, hcd⟩ : ∃ c, c = g k := ⟨_, rfl⟩
      have hcell : w.cell? ⟨b, off + 2 + k, none⟩ = some (.int .u8 c) := by rw [hcd]; exact hc k hlt
      have hxk := hx k hlt
      rw [← hcd] at hxk
      have hb := hexB_bd hxk
      have HX : Hid (hexB c = true) := hxk
      have HC : Hid (c = g k) := hcd
      have hUk := hU k hk
      obtain ⟨u, hud⟩ : ∃ u, u = unitOf g k := ⟨_, rfl⟩
      rw [← hud] at hUk
      have HU : Hid (u = unitOf g k) := hud
      rw [← hud]
      clear hcd hxk hc hx hU hud
      go_wp2
      all_goals
        go_round
        case rel => exact ⟨k + 1, by omega, by go_num, unit_step g k (by omega) hUk.1 hUk.2.1 HU.out HC.out HX.out (by unfold hexVal; omega)⟩
        case measure => simp [intOf]; omega
    · go_wp2
      go_ret
      have : k = 4 := by omega
      subst this
      exact ⟨rfl, rfl⟩

set_option maxHeartbeats 400000 in
theorem zzunit_any (b off len cap : Nat) (g : Nat → Int) (w : World) (hl : 6 ≤ len) (hlc : len ≤ cap) (hm : cap ≤ maxLen)
    (hc : ∀ k, k < 4 → w.cell? ⟨b, off + 2 + k, none⟩ = some (.int .u8 (g k)))
    (hx : ∀ k, k < 4 → hexB (g k) = true) :
    Calls Try.prog 7 #[.slice (some ⟨b, off, none⟩) len cap] w fun e w' => e = .returned (.int .i32 (unitOf g 4)) ∧ w' = w := by
  have H := hide (unit_any b off len cap g w hl hlc hm hc hx)
  clear hc hx
  go_enter Try.func7, Try.ntmps7
  go_wp2_with (go_at_call 10; refine H.out.mono ?_; rintro e w' ⟨rfl, rfl⟩)
  go_ret
  exact ⟨rfl, rfl⟩

end Go.Proofs.Qxb6602822a

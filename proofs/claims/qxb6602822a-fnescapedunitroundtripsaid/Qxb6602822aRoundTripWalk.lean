/-
  DERIVED. The walk of FnEscapedUnitRoundTrip (function 3).
-/
import Derived.Test.Qxb6602822aRows
import Derived.Test.Qxb6602822aLeaves
import Derived.WalkKit
import Derived.OpenShut
import Derived.Laws.CopyOwn
import Derived.Deep.QuietTactic
import Derived.BigQuiet
namespace Go.Proofs.Qxb6602822a
open Go.RowKit

theorem Try.info5 : (Try.prog.info? 5).map (fun i => (i.zero, i.size, i.bytes)) = some (some (.int .u8 0), 1, 1) := by kernel_rfl
theorem Try.size5 : (Try.prog.info? 5).map (·.size) = some 1 := by kernel_rfl

/-- Too short or too long: the law says nothing of it. -/
theorem rt_outside (a : Option Addr) (len cap : Nat) (w : World) (hl : len ≤ 9223372036854775807) (h : len < 6 ∨ 1048576 < len) :
    Calls Try.prog 3 #[.slice a len cap] w fun e w' => e = .returned (.bool true) ∧ Below w.heap.size w w' := by
  rcases h with h | h
  · have hd : decide (len ≤ 1048576) = true := by simp; omega
    go_enter Try.func3, Try.ntmps3
    go_wp2_with (go_at_call 5; refine (bytes_any _ _ _ _ hl).mono ?_; rintro e w' ⟨rfl, rfl⟩)
    go_ret
    exact ⟨rfl, Below.refl _ _⟩
  · have hd : decide (len ≤ 1048576) = false := by simp; omega
    go_enter Try.func3, Try.ntmps3
    go_wp2_with (go_at_call 5; refine (bytes_any _ _ _ _ hl).mono ?_; rintro e w' ⟨rfl, rfl⟩)
    go_ret
    exact ⟨rfl, Below.refl _ _⟩

/-- The cells that go over. -/
def over (G : Nat → Int) (len : Nat) : List Value := (List.range len).map fun j => .int .u8 (G j)
theorem over_length (G : Nat → Int) (len : Nat) : (over G len).length = len := by simp [over]
theorem over_get (G : Nat → Int) (len j : Nat) (v : Value) (h : (over G len)[j]? = some v) : j < len ∧ v = .int .u8 (G j) := by
  by_cases hj : j < len
  · simp [over, hj] at h
    exact ⟨hj, h.symm⟩
  · simp [over, hj] at h
theorem over_at (G : Nat → Int) (len j : Nat) (h : j < len) : (over G len)[j]? = some (.int .u8 (G j)) := by
  simp [over, h]

/-- The row that 'make' has laid. -/
theorem made_row {w1 : World} {B len : Nat} {xs : List Value} (h : w1.ownsRow B 5 1 (.slice (some ⟨B, 0, none⟩) len len) len xs) :
    ∃ cur : List Value, cur.length = len ∧ w1.heap[B]? = some (.cells cur.toArray 5 (0, 0)) := by
  obtain ⟨_, ⟨h1, _⟩ | ⟨g, cap, cur, h1, _, h3, _, _, h6, _⟩⟩ := h
  · cases h1
  · cases h1
    exact ⟨cur.toList, by simpa using h6, by simpa using h3⟩
theorem over_one (G : Nat → Int) (len : Nat) : ∀ v ∈ over G len, v.oneCell' = true := by
  intro v hv
  simp [over] at hv
  obtain ⟨_, _, rfl⟩ := hv
  rfl
theorem over_src {w w1 : World} {b off len : Nat} (G : Nat → Int) (hb : Below w.heap.size w w1)
    (hc : ∀ j, j < len → w.cell? ⟨b, off + j, none⟩ = some (.int .u8 (G j))) (j : Nat) (v : Value) (h : (over G len)[j]? = some v) :
    w1.cell? ((⟨b, off, none⟩ : Addr).add j) = some v := by
  obtain ⟨hj, rfl⟩ := over_get G len j v h
  have h1 := hc j hj
  have h2 := World.block_lt_of_cell? w _ h1
  rw [Go.WideShapes.add_plain]
  exact (hb.cell (by exact h2)).trans h1

/-- What 'copy' does: the whole argument goes over. -/
theorem copy_run {w w1 : World} {b off len cap : Nat} {cur : List Value} (G : Nat → Int) (ty : TypeId) (hcl : cur.length = len) (hrow : w1.heap[w.heap.size]? = some (.cells cur.toArray 5 (0, 0)))
    (hb : Below w.heap.size w w1) (hc : ∀ j, j < len → w.cell? ⟨b, off + j, none⟩ = some (.int .u8 (G j))) :
    ∃ w2, (Builtin.copy_ #[22, 22] ty #[.slice (some ⟨w.heap.size, 0, none⟩) len len, .slice (some ⟨b, off, none⟩) len cap]).run Try.prog w1 = .ok (.int .i64 len) w2 ∧
      Hid (∀ j, j < len → w2.cell? ⟨w.heap.size, j, none⟩ = some (.int .u8 (G j))) ∧ Below w.heap.size w w2 := by
  have hrun := run_copy_row (P := Try.prog) w1 22 22 ty 5 w.heap.size 0 len len ⟨b, off, none⟩ len cap cur.toArray 5 (over G len) Try.underlying22 Try.size5 hrow
    (by rw [over_length]; simp) (over_src G hb hc) (by rw [over_length]; simp [hcl]) (over_one G len)
  rw [over_length] at hrun
  refine ⟨_, hrun, ?_, below_setRow hb (Nat.le_refl _) _⟩
  intro j hj
  have hh := setRow_heap w1 w.heap.size _ (List.take 0 cur.toArray.toList ++ over G len ++ List.drop (0 + len) cur.toArray.toList).toArray 5 _ hrow
  have e : List.take 0 cur.toArray.toList ++ over G len ++ List.drop (0 + len) cur.toArray.toList = over G len := by simp [hcl]
  rw [e] at hh ⊢
  simp [World.cell?, hh, over_at G len j hj]

/-- A hexadecimal digit's worth, written in lowercase, is the digit with its case folded. -/
theorem low_val {c : Int} (h : hexB c = true) : lowHex (hexVal c) = lowAscii c := by
  unfold hexB at h
  simp only [decide_eq_true_eq] at h
  unfold lowHex hexVal lowAscii
  omega
theorem nib_mask (x : Int) (h0 : 0 ≤ x) (h1 : x ≤ 65535) : bits BinOp.and IntKind.i32 x 15 = x % 16 :=
  bits_mask .i32 31 (by decide) wraps_i32 4 (by decide) x h0 (by omega)
/-- THE PLAIN LAW: each nibble of the unit is the worth of its digit. -/
theorem unit_nibs (g : Nat → Int) (hx : ∀ k, k < 4 → hexB (g k) = true) :
    unitOf g 4 / 4096 % 16 = hexVal (g 0) ∧ unitOf g 4 / 256 % 16 = hexVal (g 1) ∧ unitOf g 4 / 16 % 16 = hexVal (g 2) ∧ unitOf g 4 % 16 = hexVal (g 3) := by
  have h0 := hexVal_bd (hx 0 (by omega))
  have h1 := hexVal_bd (hx 1 (by omega))
  have h2 := hexVal_bd (hx 2 (by omega))
  have h3 := hexVal_bd (hx 3 (by omega))
  simp only [unitOf]
  omega
theorem name_of {g : Nat → Int} {k : Nat} {x : Int} (hx : hexB (g k) = true) (h0 : 0 ≤ x) (h1 : x ≤ 65535) (hv : x % 16 = hexVal (g k)) :
    ∃ n c d : Int, 0 ≤ n ∧ n ≤ 15 ∧ bits BinOp.and IntKind.i32 x 15 = n ∧ 0 ≤ c ∧ c ≤ 255 ∧ lowHex n = d ∧ lowAscii c = d ∧ Hid (c = g k) := by
  have hb := hexB_bd hx
  have hvb := hexVal_bd hx
  exact ⟨hexVal (g k), g k, lowAscii (g k), hvb.1, hvb.2, by rw [nib_mask x h0 h1, hv], by omega, by omega, low_val hx, rfl, rfl⟩
theorem rt_name0 (g : Nat → Int) {U : Int} (hx : ∀ k, k < 4 → hexB (g k) = true) (hU : U = unitOf g 4) :
    ∃ n c d : Int, 0 ≤ n ∧ n ≤ 15 ∧ bits BinOp.and IntKind.i32 (U / 4096) 15 = n ∧ 0 ≤ c ∧ c ≤ 255 ∧ lowHex n = d ∧ lowAscii c = d ∧ Hid (c = g 0) := by
  have hb := unitOf_lt g hx 4 (Nat.le_refl _)
  have hn := (unit_nibs g hx).1
  rw [← hU] at hb hn
  exact name_of (hx 0 (by omega)) (by omega) (by omega) hn
theorem rt_name1 (g : Nat → Int) {U : Int} (hx : ∀ k, k < 4 → hexB (g k) = true) (hU : U = unitOf g 4) :
    ∃ n c d : Int, 0 ≤ n ∧ n ≤ 15 ∧ bits BinOp.and IntKind.i32 (U / 256) 15 = n ∧ 0 ≤ c ∧ c ≤ 255 ∧ lowHex n = d ∧ lowAscii c = d ∧ Hid (c = g 1) := by
  have hb := unitOf_lt g hx 4 (Nat.le_refl _)
  have hn := (unit_nibs g hx).2.1
  rw [← hU] at hb hn
  exact name_of (hx 1 (by omega)) (by omega) (by omega) hn
theorem rt_name2 (g : Nat → Int) {U : Int} (hx : ∀ k, k < 4 → hexB (g k) = true) (hU : U = unitOf g 4) :
    ∃ n c d : Int, 0 ≤ n ∧ n ≤ 15 ∧ bits BinOp.and IntKind.i32 (U / 16) 15 = n ∧ 0 ≤ c ∧ c ≤ 255 ∧ lowHex n = d ∧ lowAscii c = d ∧ Hid (c = g 2) := by
  have hb := unitOf_lt g hx 4 (Nat.le_refl _)
  have hn := (unit_nibs g hx).2.2.1
  rw [← hU] at hb hn
  exact name_of (hx 2 (by omega)) (by omega) (by omega) hn
theorem rt_name3 (g : Nat → Int) {U : Int} (hx : ∀ k, k < 4 → hexB (g k) = true) (hU : U = unitOf g 4) :
    ∃ n c d : Int, 0 ≤ n ∧ n ≤ 15 ∧ bits BinOp.and IntKind.i32 (U) 15 = n ∧ 0 ≤ c ∧ c ≤ 255 ∧ lowHex n = d ∧ lowAscii c = d ∧ Hid (c = g 3) := by
  have hb := unitOf_lt g hx 4 (Nat.le_refl _)
  have hn := (unit_nibs g hx).2.2.2
  rw [← hU] at hb hn
  exact name_of (hx 3 (by omega)) (by omega) (by omega) hn

set_option maxHeartbeats 1000000 in
theorem rt_inside (b off len cap : Nat) (G : Nat → Int) (w : World) (h6 : 6 ≤ len) (hbig : len ≤ 1048576)
    (hc : ∀ j, j < len → w.cell? ⟨b, off + j, none⟩ = some (.int .u8 (G j))) (hG : ∀ j, 0 ≤ G j ∧ G j ≤ 255) :
    Calls Try.prog 3 #[.slice (some ⟨b, off, none⟩) len cap] w fun e w' => e = .returned (.bool true) ∧ Below w.heap.size w w' := by
  have hd : decide (len ≤ 1048576) = true := by simp; omega
  obtain ⟨i0, hi, hz0, hz1, hz2⟩ := info_parts Try.info5
  go_enter Try.func3, Try.ntmps3
  go_wp2_with (go_at_call 5; refine (bytes_any _ _ _ _ (by omega)).mono ?_; rintro e w' ⟨rfl, hw⟩; rw [hw]; clear hw w')
  go_loop [3] (fun i => ∃ k : Nat, 2 ≤ k ∧ k ≤ 6 ∧ i = .int .i64 k ∧ Hid (∀ j, 2 ≤ j → j < k → hexB (G j) = true)) (fun i => 6 - (intOf i).toNat)
  case atStart => exact ⟨2, by omega, by omega, rfl, fun j h1 h2 => by omega⟩
  case round =>
    obtain ⟨k, hk2, hk6, rfl, HX⟩ := hrel
    by_cases hlt : k < 6
    · have hcell := hc k (by omega)
      have hg := hG k
      have HC := hide hc
      have HG := hide hG
      clear hc hG
      by_cases hx : hexB (G k) = true
      · go_wp2_with (go_at_call 6; refine (isHex_any _ _ hg.1 hg.2).mono ?_; rintro e w' ⟨rfl, hw⟩; rw [hw]; clear hw w')
        go_round
        case rel => exact ⟨k + 1, by omega, by omega, by go_num, fun j h1 h2 => by
          by_cases e : j = k
          · rw [e]; exact hx
          · exact HX.out j h1 (by omega)⟩
        case measure => simp [intOf]; omega
      · have hx' : hexB (G k) = false := by simpa using hx
        go_wp2_with (go_at_call 6; refine (isHex_any _ _ hg.1 hg.2).mono ?_; rintro e w' ⟨rfl, hw⟩; rw [hw]; clear hw w')
        go_ret
        exact ⟨rfl, Below.refl _ _⟩
    · obtain rfl : k = 6 := by omega
      have HC := hide hc
      have HG := hide hG
      clear hc hG
      go_wp2_with (at_make; refine wpList_make_full _ rfl _ _ 22 rfl w.heap.size 5 i0 (.int .u8 0) 1 Try.underlying22 hi hz0 hz1 .i64 .i64 _ _ len rfl rfl rfl rfl (by rw [hz2]; omega) (by unfold maxLen; omega) (Nat.le_refl _) ?_; intro w1 hown hgrow; obtain ⟨cur, hcl, hrow⟩ := made_row hown; have hb1 : Below w.heap.size w w1 := (Below.refl _ _).grown hgrow (Nat.le_refl _) (by simp); obtain ⟨w2, hcp, HR, hb2⟩ := copy_run (cap := cap) G 3 hcl hrow hb1 HC.out; clear hown hgrow hrow hcl hb1)
      have HX4 : Hid (∀ k, k < 4 → hexB ((fun k => G (2 + k)) k) = true) := fun k hk => HX.out (2 + k) (by omega) (by omega)
      have hUb := unitOf_lt (fun k => G (2 + k)) HX4.out 4 (Nat.le_refl _)
      have H := zzunit_any w.heap.size 0 len len (fun k => G (2 + k)) w2 h6 (Nat.le_refl _) (by unfold maxLen; omega) (fun k hk => by rw [Nat.zero_add]; exact HR.out (2 + k) (by omega)) HX4.out
      obtain ⟨U, hU⟩ : ∃ U, U = unitOf (fun k => G (2 + k)) 4 := ⟨_, rfl⟩
      rw [← hU] at H hUb
      have HU := hide hU
      obtain ⟨hU0, _, hU1⟩ := hUb
      have HH := hide H
      have HRr : Hid (∀ j, j < 4 → w2.cell? ⟨w.heap.size, 2 + j, none⟩ = some (.int .u8 (G (2 + j)))) := fun j hj => HR.out (2 + j) (by omega)
      clear hU H hcp HR
      refine HH.out.mono ?_
      rintro e w' ⟨rfl, hw⟩
      rw [hw]
      clear hw w' HH
      go_wp2
      go_loopw [6] (fun i wr => ∃ k : Nat, k ≤ 4 ∧ i = .int .i64 k ∧ Below w.heap.size w wr ∧ Hid (∀ j, j < 4 → wr.cell? ⟨w.heap.size, 2 + j, none⟩ = some (.int .u8 (G (2 + j))))) (fun i _ => 4 - (intOf i).toNat)
      case atStart => exact ⟨0, Nat.zero_le _, rfl, hb2, HRr⟩
      case round =>
        obtain ⟨k, hk, rfl, hbr, HRr⟩ := hrel
        by_cases hlt : k < 4
        · obtain rfl | rfl | rfl | rfl : k = 0 ∨ k = 1 ∨ k = 2 ∨ k = 3 := by omega
          · obtain ⟨n, c, d, hn0, hn1, hn, hc0, hc1, hd1, hd2, HCG⟩ := rt_name0 (fun k => G (2 + k)) HX4.out HU.out
            have hcell : wr.cell? ⟨w.heap.size, 2, none⟩ = some (.int .u8 c) := by rw [HCG.out]; exact HRr.out 0 (by omega)
            go_wp2_with fail
            go_quiet ((first | (go_at_call 8; exact Calls.quiet_of_same (lower_any _ _ hn0 hn1)) | (go_at_call 9; exact Calls.quiet_of_same (toLower_any _ _ hc0 hc1))))
            go_wp2
            go_roundw
            case rel => exact ⟨1, by omega, rfl, hbr.trans ⟨rfl, rfl, rfl, Nat.le_refl _, fun _ _ => rfl⟩, HRr⟩
            case measure => simp [intOf]
          · obtain ⟨n, c, d, hn0, hn1, hn, hc0, hc1, hd1, hd2, HCG⟩ := rt_name1 (fun k => G (2 + k)) HX4.out HU.out
            have hcell : wr.cell? ⟨w.heap.size, 3, none⟩ = some (.int .u8 c) := by rw [HCG.out]; exact HRr.out 1 (by omega)
            go_wp2_with fail
            go_quiet ((first | (go_at_call 8; exact Calls.quiet_of_same (lower_any _ _ hn0 hn1)) | (go_at_call 9; exact Calls.quiet_of_same (toLower_any _ _ hc0 hc1))))
            go_wp2
            go_roundw
            case rel => exact ⟨2, by omega, rfl, hbr.trans ⟨rfl, rfl, rfl, Nat.le_refl _, fun _ _ => rfl⟩, HRr⟩
            case measure => simp [intOf]
          · obtain ⟨n, c, d, hn0, hn1, hn, hc0, hc1, hd1, hd2, HCG⟩ := rt_name2 (fun k => G (2 + k)) HX4.out HU.out
            have hcell : wr.cell? ⟨w.heap.size, 4, none⟩ = some (.int .u8 c) := by rw [HCG.out]; exact HRr.out 2 (by omega)
            go_wp2_with fail
            go_quiet ((first | (go_at_call 8; exact Calls.quiet_of_same (lower_any _ _ hn0 hn1)) | (go_at_call 9; exact Calls.quiet_of_same (toLower_any _ _ hc0 hc1))))
            go_wp2
            go_roundw
            case rel => exact ⟨3, by omega, rfl, hbr.trans ⟨rfl, rfl, rfl, Nat.le_refl _, fun _ _ => rfl⟩, HRr⟩
            case measure => simp [intOf]
          · obtain ⟨n, c, d, hn0, hn1, hn, hc0, hc1, hd1, hd2, HCG⟩ := rt_name3 (fun k => G (2 + k)) HX4.out HU.out
            have hcell : wr.cell? ⟨w.heap.size, 5, none⟩ = some (.int .u8 c) := by rw [HCG.out]; exact HRr.out 3 (by omega)
            go_wp2_with fail
            go_quiet ((first | (go_at_call 8; exact Calls.quiet_of_same (lower_any _ _ hn0 hn1)) | (go_at_call 9; exact Calls.quiet_of_same (toLower_any _ _ hc0 hc1))))
            go_wp2
            go_roundw
            case rel => exact ⟨4, by omega, rfl, hbr.trans ⟨rfl, rfl, rfl, Nat.le_refl _, fun _ _ => rfl⟩, HRr⟩
            case measure => simp [intOf]
        · go_wp2
          go_ret
          exact ⟨rfl, hbr⟩

end Go.Proofs.Qxb6602822a

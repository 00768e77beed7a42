/-
  A PROOF OF 'Rows.FnEscapedUnitInverseSaid'. The frame is the seat's shell (proof-skeleton.mjs, by program); the walk, its plain law and the small lemmas ahead of it are this seat's own.
-/
import Derived.Test.Qxb6602822aRows
import Derived.WalkKit
import Derived.ProofKit
import Derived.OpenShut
import Derived.ShutString
import Derived.Test.Qxb6602822aLeaves
namespace Go.Proofs.Qxb6602822a.fnEscapedUnitInverse
open Go.ChangeShapes Go.WideShapes Go.ChangeAt Go.RowKit
open Go.ChangeMaps (open_string shut_string)
set_option linter.unusedVariables false      -- a walk need not use every 'w<i>' (that an integer argument fits its kind)

theorem own : ownKnob Try.prog.godebug = none := by kernel_rfl

/-- The k-th digit that the law writes: the nibble's lowercase digit, turned to uppercase where bit k of 'up' says so and the digit is a letter. -/
def dig (u up : Int) (k : Nat) : Int :=
  if up / 2 ^ k % 2 = 1 ∧ 97 ≤ lowHex (u / 2 ^ (12 - 4 * k) % 16) then lowHex (u / 2 ^ (12 - 4 * k) % 16) - 32 else lowHex (u / 2 ^ (12 - 4 * k) % 16)

/-- The buffer behind k rounds. -/
def bufAt (d : Nat → Int) (k : Nat) : Array Value :=
  #[.int .u8 92, .int .u8 117, .int .u8 (if 0 < k then d 0 else 0), .int .u8 (if 1 < k then d 1 else 0), .int .u8 (if 2 < k then d 2 else 0), .int .u8 (if 3 < k then d 3 else 0)]
theorem buf0 (d : Nat → Int) : bufAt d 0 = #[.int .u8 92, .int .u8 117, .int .u8 0, .int .u8 0, .int .u8 0, .int .u8 0] := rfl
theorem buf1 (d : Nat → Int) : bufAt d 1 = #[.int .u8 92, .int .u8 117, .int .u8 (d 0), .int .u8 0, .int .u8 0, .int .u8 0] := rfl
theorem buf2 (d : Nat → Int) : bufAt d 2 = #[.int .u8 92, .int .u8 117, .int .u8 (d 0), .int .u8 (d 1), .int .u8 0, .int .u8 0] := rfl
theorem buf3 (d : Nat → Int) : bufAt d 3 = #[.int .u8 92, .int .u8 117, .int .u8 (d 0), .int .u8 (d 1), .int .u8 (d 2), .int .u8 0] := rfl
theorem buf4 (d : Nat → Int) : bufAt d 4 = #[.int .u8 92, .int .u8 117, .int .u8 (d 0), .int .u8 (d 1), .int .u8 (d 2), .int .u8 (d 3)] := rfl

/-- A nibble's lowercase digit: its bounds. -/
theorem lowHex_bd {n : Int} (h0 : 0 ≤ n) (h1 : n ≤ 15) : 48 ≤ lowHex n ∧ lowHex n ≤ 102 := by unfold lowHex; omega
/-- The nibble, as the walk spells it. -/
theorem nib_eq (x : Int) (h0 : 0 ≤ x) (h1 : x ≤ 65535) : bits BinOp.and IntKind.i32 x 15 = x % 16 :=
  bits_mask .i32 31 (by decide) wraps_i32 4 (by decide) x h0 (by omega)
/-- The bit, as the walk spells it. -/
theorem bit_eq (x : Int) (h0 : 0 ≤ x) (h1 : x ≤ 255) : bits BinOp.and IntKind.u8 x 1 = x % 2 :=
  bits_mask .u8 8 (by decide) wraps_u8 1 (by decide) x h0 (by omega)

/-- What the digit is worth, in either case. -/
theorem nib_val {n : Int} (h0 : 0 ≤ n) (h1 : n ≤ 15) : hexVal (lowHex n) = n ∧ hexB (lowHex n) = true ∧ (97 ≤ lowHex n → hexVal (lowHex n - 32) = n ∧ hexB (lowHex n - 32) = true) := by
  unfold hexVal hexB lowHex
  simp only [decide_eq_true_eq]
  omega
theorem dig_val (u up : Int) (k : Nat) : hexVal (dig u up k) = u / 2 ^ (12 - 4 * k) % 16 ∧ hexB (dig u up k) = true := by
  have h := nib_val (n := u / 2 ^ (12 - 4 * k) % 16) (by omega) (by omega)
  unfold dig
  split
  · exact h.2.2 (by omega)
  · exact ⟨h.1, h.2.1⟩
theorem dig_hex (u up : Int) (k : Nat) : hexB (dig u up k) = true := (dig_val u up k).2
/-- THE PLAIN LAW: the unit that the four digits name is the one that they were written for. -/
theorem unit_dig (u up : Int) (h0 : 0 ≤ u) (h1 : u ≤ 65535) : unitOf (dig u up) 4 = u := by
  simp only [unitOf, (dig_val u up _).1]
  simp
  omega
theorem dig0 {u up c : Int} (h : Hid (lowHex (u / 4096 % 16) = c)) : dig u up 0 = if up % 2 = 1 ∧ 97 ≤ c then c - 32 else c := by
  have h' := h.out
  simp only [dig, ← h']
  simp
theorem dig1 {u up c : Int} (h : Hid (lowHex (u / 256 % 16) = c)) : dig u up 1 = if up / 2 % 2 = 1 ∧ 97 ≤ c then c - 32 else c := by
  have h' := h.out
  simp only [dig, ← h']
  simp
theorem dig2 {u up c : Int} (h : Hid (lowHex (u / 16 % 16) = c)) : dig u up 2 = if up / 4 % 2 = 1 ∧ 97 ≤ c then c - 32 else c := by
  have h' := h.out
  simp only [dig, ← h']
  simp
theorem dig3 {u up c : Int} (h : Hid (lowHex (u % 16) = c)) : dig u up 3 = if up / 8 % 2 = 1 ∧ 97 ≤ c then c - 32 else c := by
  have h' := h.out
  simp only [dig, ← h']
  simp

/-- The nibble and its digit under one name each, for the walk. -/
theorem nib_name (x : Int) (h0 : 0 ≤ x) (h1 : x ≤ 65535) : ∃ n c : Int, 0 ≤ n ∧ n ≤ 15 ∧ bits BinOp.and IntKind.i32 x 15 = n ∧ lowHex n = c ∧ 48 ≤ c ∧ c ≤ 102 ∧ Hid (lowHex (x % 16) = c) := by
  refine ⟨x % 16, lowHex (x % 16), by omega, by omega, nib_eq x h0 h1, rfl, ?_, ?_, rfl⟩
  · exact (lowHex_bd (by omega) (by omega)).1
  · exact (lowHex_bd (by omega) (by omega)).2

/-! ### STEP 1: THE WALK: the Go text returns true. 'Grown w w'': the world has at most new blocks (Derived/RowKit3.lean). Part the cases AHEAD of 'go_enter' where a test parts the walk; take each callee by a contract of your own. -/
theorem walk (a0 : Int) (a1 : Int) (w0 : (Lit.int .i32 a0).wf = true) (w1 : (Lit.int .u8 a1).wf = true) (w : World) :
    Calls Try.prog 4 #[.int .i32 a0, .int .u8 a1] w fun e w' => e = .returned (.bool true) ∧ Grown w w' := by
  by_cases hlo : a0 < 0
  · go_enter Try.func4, Try.ntmps4
    go_wp2
    go_ret
    exact ⟨rfl, Grown.refl _⟩
  by_cases hhi : 65535 < a0
  · go_enter Try.func4, Try.ntmps4
    go_wp2
    go_ret
    exact ⟨rfl, Grown.refl _⟩
  have hup := bounds_u8 w1
  go_enter Try.func4, Try.ntmps4
  go_wp2
  go_loopw [6] (fun i wr => ∃ k : Nat, k ≤ 4 ∧ i = .int .i64 k ∧ wr = w.alloc (.cells (bufAt (dig a0 a1) k) 29)) (fun i _ => 4 - (intOf i).toNat)
  case atStart => exact ⟨0, Nat.zero_le _, rfl, rfl⟩
  case round =>
    obtain ⟨k, hk, rfl, rfl⟩ := hrel
    by_cases hlt : k < 4
    · obtain rfl | rfl | rfl | rfl : k = 0 ∨ k = 1 ∨ k = 2 ∨ k = 3 := by omega
      · rw [buf0]
        obtain ⟨n, c, hn0, hn1, hn, hc, hc0, hc1, HC⟩ := nib_name (a0 / 4096) (by omega) (by omega)
        have hq := bit_eq (a1) (by omega) (by omega)
        go_wp2_with (go_at_call 8; refine (lower_any _ _ hn0 hn1).mono ?_; rintro e w' ⟨rfl, rfl⟩)
        all_goals
          go_roundw
          case rel => exact ⟨1, by omega, rfl, by rw [buf1, dig0 HC]; first | rw [if_pos ⟨‹_›, ‹_›⟩] | rw [if_neg (by omega)]⟩
          case measure => simp [intOf]
      · rw [buf1]
        obtain ⟨n, c, hn0, hn1, hn, hc, hc0, hc1, HC⟩ := nib_name (a0 / 256) (by omega) (by omega)
        have hq := bit_eq (a1 / 2) (by omega) (by omega)
        go_wp2_with (go_at_call 8; refine (lower_any _ _ hn0 hn1).mono ?_; rintro e w' ⟨rfl, rfl⟩)
        all_goals
          go_roundw
          case rel => exact ⟨2, by omega, rfl, by rw [buf2, dig1 HC]; first | rw [if_pos ⟨‹_›, ‹_›⟩] | rw [if_neg (by omega)]⟩
          case measure => simp [intOf]
      · rw [buf2]
        obtain ⟨n, c, hn0, hn1, hn, hc, hc0, hc1, HC⟩ := nib_name (a0 / 16) (by omega) (by omega)
        have hq := bit_eq (a1 / 4) (by omega) (by omega)
        go_wp2_with (go_at_call 8; refine (lower_any _ _ hn0 hn1).mono ?_; rintro e w' ⟨rfl, rfl⟩)
        all_goals
          go_roundw
          case rel => exact ⟨3, by omega, rfl, by rw [buf3, dig2 HC]; first | rw [if_pos ⟨‹_›, ‹_›⟩] | rw [if_neg (by omega)]⟩
          case measure => simp [intOf]
      · rw [buf3]
        obtain ⟨n, c, hn0, hn1, hn, hc, hc0, hc1, HC⟩ := nib_name (a0) (by omega) (by omega)
        have hq := bit_eq (a1 / 8) (by omega) (by omega)
        go_wp2_with (go_at_call 8; refine (lower_any _ _ hn0 hn1).mono ?_; rintro e w' ⟨rfl, rfl⟩)
        all_goals
          go_roundw
          case rel => exact ⟨4, by omega, rfl, by rw [buf4, dig3 HC]; first | rw [if_pos ⟨‹_›, ‹_›⟩] | rw [if_neg (by omega)]⟩
          case measure => simp [intOf]
    · obtain rfl : k = 4 := by omega
      have hcell : ∀ k, k < 4 → (w.alloc (.cells (bufAt (dig a0 a1) 4) 29)).cell? ⟨w.heap.size, 0 + 2 + k, none⟩ = some (.int .u8 (dig a0 a1 k)) := by
        intro k hk
        rw [buf4]
        obtain rfl | rfl | rfl | rfl : k = 0 ∨ k = 1 ∨ k = 2 ∨ k = 3 := by omega
        all_goals simp [go_sem]
      have H := hide (zzunit_any w.heap.size 0 6 6 (dig a0 a1) _ (by omega) (by omega) (by decide) hcell (fun k _ => dig_hex a0 a1 k))
      have hU := unit_dig a0 a1 (by omega) (by omega)
      rw [buf4] at H ⊢
      clear hcell
      go_wp2_with (go_at_call 7; refine H.out.mono ?_; rintro e w' ⟨rfl, rfl⟩)
      go_ret
      exact ⟨rfl, (Grown.refl _).alloc _ _⟩

/-! ### THE ROW's STEP: WRITTEN OUT: LEAVE IT -/
set_option maxRecDepth 100000 in
theorem lifted (os : Os) (started : os.Started) (H : Type) (enc : TypeId × Value → H) :
    ReturnsInHanded {} Try.checked os 4 .any (Rows.fnEscapedUnitInverseSpec.pre6 enc Try.prog Try.f4 Rows.fnEscapedUnitInverseRow.domain false) (Rows.fnEscapedUnitInverseSpec.post enc Try.prog Try.f4 false true false false) := by
  refine returnsInHanded_of_change (C := Try.checked) own started (by kernel_rfl) Try.func4
    (ChangeSpec.witness6 (enc := enc) (C := Try.checked) false ⟨#[], #[.int .i32 0, .int .u8 0], []⟩ 8 (by kernel_rfl) (by kernel_rfl) (by kernel_rfl) (by kernel_rfl)) ?_
  intro W base args ds gs before hval0 hW hcnd _
  have hval : ∀ (j : Nat) t v, Try.f4.params[j]? = some t → args[j]? = some v → Value.okWide Try.prog W .any base t v := hval0
  have hW' := hW
  obtain ⟨p, q, hA0, hV, rfl, hfz, hnd⟩ := hW
  have hA : DataW.TrodAll enc Try.prog W 0 (fun _ => true) true Try.f4.params.toList args.toList ds p := hA0
  rw [Try.params4] at hA hval
  obtain ⟨v0, vs0, d0, ds0, p0, q0, hargs, rfl, rfl, h0, r0⟩ := trodAll_cons hA
  obtain ⟨v1, vs1, d1, ds1, p1, q1, rfl, rfl, rfl, h1, r1⟩ := trodAll_cons r0
  obtain ⟨rfl, rfl, rfl⟩ := trodAll_nil r1
  obtain rfl : args = #[v0, v1] := by cases args; simp_all
  obtain ⟨rfl, rfl⟩ := trodVars_none hV
  obtain ⟨a0, rfl, rfl, rfl, w0⟩ := open_int Try.underlying21 (hval 0 21 v0 rfl rfl) h0
  obtain ⟨a1, rfl, rfl, rfl, w1⟩ := open_int Try.underlying5 (hval 1 5 v1 rfl rfl) h1
  clear hA0 hval0
  simp only [List.append_nil] at hW'
  refine (walk a0 a1 w0 w1 W).mono fun e W' ⟨he, hg⟩ => ?_
  subst he
  exact ⟨_, rfl, post_of_same (pa := []) (pv := []) hW' (fun _ _ _ => (trodAll_cons_mk (shut_bool Try.underlying4 _) trodAll_mk0)) (fun sp _ => (trodAll_cons_mk (shut_int Try.underlying21 w0) (trodAll_cons_mk (shut_int Try.underlying5 w1) trodAll_mk0))) (fun _ _ => rfl) rfl
    (hg.frame _) hg.2.1 (ok_one (by kernel_rfl) rfl (okWide_bool_mk Try.underlying4 _))⟩

theorem over : Rows.fnEscapedUnitInverseRow.holds Try.pinned (OpenSpec.ofChange Rows.fnEscapedUnitInverseSpec) :=
  OpenClaim.holds_of_wide 4 Try.f4 rfl rfl rfl rfl rfl rfl rfl ⟨rfl, rfl, rfl, rfl, rfl⟩ rfl rfl rfl rfl rfl (by kernel_rfl) Try.func4 (by kernel_rfl)
    (of_decide_eq_true (by kernel_rfl)) (by unfold Func.isWrapper; first | (rw [if_pos (by decide +kernel)]; kernel_rfl) | (rw [if_neg (by decide +kernel)]; exact ⟨rfl, rfl⟩))
    (fun os started H enc _ => lifted os started H enc)

/-- ████ THE STATEMENT ████ -/
theorem proved : Rows.FnEscapedUnitInverseSaid :=
  over
#print axioms proved
end Go.Proofs.Qxb6602822a.fnEscapedUnitInverse

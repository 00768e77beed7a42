/-
  DERIVED. The contracts of another, next and ZZNext.
-/
import Derived.Test.Qxb6602906aLeaves
namespace Go.Proofs.Qxb6602906a
open Go.RowKit

set_option maxHeartbeats 400000 in
theorem another_zero (a : Option Addr) (len cap : Nat) (op : Int) (w : World) :
    Calls Try.prog 18 #[.slice a len cap, .int .i64 0, .int .u8 op] w fun e w' => e = .returned (.tuple #[.int .i64 (-1), .bool false]) ∧ w' = w := by
  go_enter Try.func18, Try.ntmps18
  go_wp2
  go_ret2
  exact ⟨rfl, rfl⟩

set_option maxHeartbeats 400000 in
theorem another_hit (b off len cap p : Nat) (op : Int) (w : World) (hp : p < len) (hl : len ≤ 1048576) (hc : w.cell? ⟨b, off + p, none⟩ = some (.int .u8 op)) :
    Calls Try.prog 18 #[.slice (some ⟨b, off, none⟩) len cap, .int .i64 ((p : Int) + 1), .int .u8 op] w fun e w' => e = .returned (.tuple #[.int .i64 p, .bool false]) ∧ w' = w := by
  go_enter Try.func18, Try.ntmps18
  go_wp2
  go_ret2
  exact ⟨rfl, rfl⟩

set_option maxHeartbeats 400000 in
theorem another_miss (b off len cap p : Nat) (op c : Int) (w : World) (hp : p < len) (hl : len ≤ 1048576) (hc : w.cell? ⟨b, off + p, none⟩ = some (.int .u8 c)) (hne : (c == op) = false) :
    Calls Try.prog 18 #[.slice (some ⟨b, off, none⟩) len cap, .int .i64 ((p : Int) + 1), .int .u8 op] w fun e w' => e = .returned (.tuple #[.int .i64 ((p : Int) + 1), .bool true]) ∧ w' = w := by
  go_enter Try.func18, Try.ntmps18
  go_wp2
  go_ret2
  exact ⟨rfl, rfl⟩

/-- WHAT next ANSWERS: neither; the opening bracket, only space behind it; or the end of another member, only space and at most one comma (at m) behind it. -/
def NextOk (G : Nat → Int) (n : Nat) (op r : Int) (ok : Bool) : Prop :=
  (r = -1 ∧ ok = false) ∨
  (∃ p : Nat, r = p ∧ ok = false ∧ p < n ∧ G p = op ∧ ∀ j, p < j → j < n → spB (G j) = true) ∨
  (∃ p m : Nat, r = (p : Int) + 1 ∧ ok = true ∧ p < n ∧ spB (G p) = false ∧ (G p == op) = false ∧ ∀ j, p < j → j < n → if j = m then G j = 44 else spB (G j) = true)

theorem next_neg (a : Option Addr) (len cap : Nat) (n op : Int) (w : World) (h : n < 0) :
    Calls Try.prog 15 #[.slice a len cap, .int .i64 n, .int .u8 op] w fun e w' => e = .returned (.tuple #[.int .i64 (-1), .bool false]) ∧ w' = w := by
  go_enter Try.func15, Try.ntmps15
  go_wp2
  go_ret2
  exact ⟨rfl, rfl⟩

theorem next_zero (a : Option Addr) (len cap : Nat) (op : Int) (w : World) :
    Calls Try.prog 15 #[.slice a len cap, .int .i64 0, .int .u8 op] w fun e w' => e = .returned (.tuple #[.int .i64 (-1), .bool false]) ∧ w' = w := by
  go_enter Try.func15, Try.ntmps15
  go_wp2_with (first
    | (go_at_call 17; refine (space_zero _ _ _ _).mono ?_; rintro e w' ⟨rfl, hw⟩; rw [hw]; clear hw w')
    | (go_at_call 18; refine (another_zero _ _ _ _ _).mono ?_; rintro e w' ⟨rfl, hw⟩; rw [hw]; clear hw w'))
  go_ret2
  exact ⟨rfl, rfl⟩

set_option maxHeartbeats 1000000 in
theorem next_any (b off len cap n : Nat) (G : Nat → Int) (op : Int) (w : World) (hn : n ≤ len) (hl : len ≤ 1048576)
    (hc : ∀ j, j < len → w.cell? ⟨b, off + j, none⟩ = some (.int .u8 (G j))) (hG : ∀ j, 0 ≤ G j ∧ G j ≤ 255) :
    Calls Try.prog 15 #[.slice (some ⟨b, off, none⟩) len cap, .int .i64 n, .int .u8 op] w fun e w' => ∃ r ok, e = .returned (.tuple #[.int .i64 r, .bool ok]) ∧ NextOk G n op r ok ∧ w' = w := by
  have H1 := space_any b off len cap n G w hn hl hc hG
  have hle := back_le G n
  have HSP := hide (back_space G n)
  cases hb : back G n with
  | zero =>
    rw [hb] at H1
    have HH := hide H1
    clear H1 hc hG hb
    go_enter Try.func15, Try.ntmps15
    go_wp2_with (first
      | (go_at_call 17; refine HH.out.mono ?_; rintro e w' ⟨rfl, hw⟩; rw [hw]; clear hw w')
      | (go_at_call 18; refine (another_zero _ _ _ _ _).mono ?_; rintro e w' ⟨rfl, hw⟩; rw [hw]; clear hw w'))
    go_ret2
    exact ⟨_, _, rfl, .inl ⟨rfl, rfl⟩, rfl⟩
  | succ p =>
    rw [hb] at H1 hle HSP
    have HNS := hide (back_stop G n p hb)
    obtain ⟨c, hcd⟩ : ∃ c, c = G p := ⟨_, rfl⟩
    have hcell : w.cell? ⟨b, off + p, none⟩ = some (.int .u8 c) := by rw [hcd]; exact hc p (by omega)
    by_cases h44 : c = 44
    · subst h44
      have H2 := space_any b off len cap p G w (by omega) hl hc hG
      have hle2 := back_le G p
      have HSP2 := hide (back_space G p)
      cases hb2 : back G p with
      | zero =>
        rw [hb2] at H2
        have HH := hide H1
        have HH2 := hide H2
        clear H1 H2 hc hG hb hb2 hcd
        go_enter Try.func15, Try.ntmps15
        go_wp2_with fail
        refine HH.out.mono ?_
        rintro e w' ⟨rfl, hw⟩
        rw [hw]; clear hw w'
        go_wp2_with fail
        refine HH2.out.mono ?_
        rintro e w' ⟨rfl, hw⟩
        rw [hw]; clear hw w'
        go_wp2
        go_ret2
        exact ⟨_, _, rfl, .inl ⟨rfl, rfl⟩, rfl⟩
      | succ q =>
        rw [hb2] at H2 hle2 HSP2
        have HNS2 := hide (back_stop G p q hb2)
        obtain ⟨c2, hcd2⟩ : ∃ c2, c2 = G q := ⟨_, rfl⟩
        have hcell2 : w.cell? ⟨b, off + q, none⟩ = some (.int .u8 c2) := by rw [hcd2]; exact hc q (by omega)
        have HH := hide H1
        have HH2 := hide H2
        by_cases ho : c2 = op
        · subst ho
          clear H1 H2 hc hG hb hb2 hcd hcd2
          go_enter Try.func15, Try.ntmps15
          go_wp2_with fail
          refine HH.out.mono ?_
          rintro e w' ⟨rfl, hw⟩
          rw [hw]; clear hw w'
          go_wp2_with fail
          refine HH2.out.mono ?_
          rintro e w' ⟨rfl, hw⟩
          rw [hw]; clear hw w'
          go_wp2
          go_ret2
          exact ⟨_, _, rfl, .inl ⟨rfl, rfl⟩, rfl⟩
        · have ho' : (c2 == op) = false := by simp; omega
          have HN : Hid (NextOk G n op ((q : Int) + 1) true) := by
            refine .inr (.inr ⟨q, p, rfl, rfl, by omega, HNS2.out, by rw [← hcd2]; exact ho', fun j h1 h2 => ?_⟩)
            by_cases e : j = p
            · rw [if_pos e, e]; exact hcd.symm
            · rw [if_neg e]
              by_cases e2 : j < p
              · exact HSP2.out j (by omega) e2
              · exact HSP.out j (by omega) h2
          clear H1 H2 hc hG hb hb2 hcd hcd2 ho
          go_enter Try.func15, Try.ntmps15
          go_wp2_with fail
          refine HH.out.mono ?_
          rintro e w' ⟨rfl, hw⟩
          rw [hw]; clear hw w'
          go_wp2_with fail
          refine HH2.out.mono ?_
          rintro e w' ⟨rfl, hw⟩
          rw [hw]; clear hw w'
          go_wp2
          go_ret2
          exact ⟨_, _, rfl, HN.out, rfl⟩
    · have h44' : (c != 44) = true := by simp; omega
      have HH := hide H1
      by_cases ho : c = op
      · subst ho
        have HN : Hid (NextOk G n c p false) := .inr (.inl ⟨p, rfl, rfl, by omega, hcd.symm, fun j h1 h2 => HSP.out j (by omega) h2⟩)
        clear H1 hc hG hb hcd h44
        go_enter Try.func15, Try.ntmps15
        go_wp2_with fail
        refine HH.out.mono ?_
        rintro e w' ⟨rfl, hw⟩
        rw [hw]; clear hw w'
        go_wp2_with fail
        refine (another_hit b off len cap p c w (by omega) hl hcell).mono ?_
        rintro e w' ⟨rfl, hw⟩
        rw [hw]; clear hw w'
        go_wp2
        go_ret2
        exact ⟨_, _, rfl, HN.out, rfl⟩
      · have ho' : (c == op) = false := by simp; omega
        have HN : Hid (NextOk G n op ((p : Int) + 1) true) :=
          .inr (.inr ⟨p, n, rfl, rfl, by omega, HNS.out, by rw [← hcd]; exact ho', fun j h1 h2 => by rw [if_neg (by omega)]; exact HSP.out j (by omega) h2⟩)
        clear H1 hc hG hb hcd h44 ho
        go_enter Try.func15, Try.ntmps15
        go_wp2_with fail
        refine HH.out.mono ?_
        rintro e w' ⟨rfl, hw⟩
        rw [hw]; clear hw w'
        go_wp2_with fail
        refine (another_miss b off len cap p op c w (by omega) hl hcell ho').mono ?_
        rintro e w' ⟨rfl, hw⟩
        rw [hw]; clear hw w'
        go_wp2
        go_ret2
        exact ⟨_, _, rfl, HN.out, rfl⟩

set_option maxHeartbeats 400000 in
theorem zznext_neg (a : Option Addr) (len cap : Nat) (n op : Int) (w : World) (h : n < 0) :
    Calls Try.prog 12 #[.slice a len cap, .int .i64 n, .int .u8 op] w fun e w' => e = .returned (.tuple #[.int .i64 (-1), .bool false]) ∧ w' = w := by
  go_enter Try.func12, Try.ntmps12
  go_wp2_with (go_at_call 15; refine (next_neg _ _ _ _ _ _ h).mono ?_; rintro e w' ⟨rfl, hw⟩; rw [hw]; clear hw w')
  go_ret2
  exact ⟨rfl, rfl⟩

set_option maxHeartbeats 400000 in
theorem zznext_zero (a : Option Addr) (len cap : Nat) (op : Int) (w : World) :
    Calls Try.prog 12 #[.slice a len cap, .int .i64 0, .int .u8 op] w fun e w' => e = .returned (.tuple #[.int .i64 (-1), .bool false]) ∧ w' = w := by
  go_enter Try.func12, Try.ntmps12
  go_wp2_with (go_at_call 15; refine (next_zero _ _ _ _ _).mono ?_; rintro e w' ⟨rfl, hw⟩; rw [hw]; clear hw w')
  go_ret2
  exact ⟨rfl, rfl⟩

set_option maxHeartbeats 400000 in
theorem zznext_any (b off len cap n : Nat) (G : Nat → Int) (op : Int) (w : World) (hn : n ≤ len) (hl : len ≤ 1048576)
    (hc : ∀ j, j < len → w.cell? ⟨b, off + j, none⟩ = some (.int .u8 (G j))) (hG : ∀ j, 0 ≤ G j ∧ G j ≤ 255) :
    Calls Try.prog 12 #[.slice (some ⟨b, off, none⟩) len cap, .int .i64 n, .int .u8 op] w fun e w' => ∃ r ok, e = .returned (.tuple #[.int .i64 r, .bool ok]) ∧ NextOk G n op r ok ∧ w' = w := by
  have HH := hide (next_any b off len cap n G op w hn hl hc hG)
  clear hc hG
  go_enter Try.func12, Try.ntmps12
  go_wp2_with (go_at_call 15; refine HH.out.mono ?_; rintro e w' ⟨r, ok, rfl, hok, hw⟩; have HN := hide hok; rw [hw]; clear hw w' hok)
  go_ret2
  exact ⟨_, _, rfl, HN.out, rfl⟩

end Go.Proofs.Qxb6602906a

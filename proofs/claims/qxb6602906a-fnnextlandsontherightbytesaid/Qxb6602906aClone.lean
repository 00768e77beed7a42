/-
  DERIVED. The contract of cloneBytes (function 7).
-/
import Derived.Test.Qxb6602906aLeaves
import Derived.Lib.SliceRun
namespace Go.Proofs.Qxb6602906a
open Go.RowKit

theorem Try.info5 : (Try.prog.info? 5).map (fun i => (i.zero, i.size, i.bytes)) = some (some (.int .u8 0), 1, 1) := by kernel_rfl
theorem Try.size5 : (Try.prog.info? 5).map (·.size) = some 1 := by kernel_rfl

/-- The cells that go over. -/
def sent (G : Nat → Int) (len : Nat) : List Value := (List.range len).map fun j => .int .u8 (G j)
theorem sent_length (G : Nat → Int) (len : Nat) : (sent G len).length = len := by simp [sent]
theorem sent_get (G : Nat → Int) (len j : Nat) (v : Value) (h : (sent G len)[j]? = some v) : j < len ∧ v = .int .u8 (G j) := by
  by_cases hj : j < len
  · simp [sent, hj] at h
    exact ⟨hj, h.symm⟩
  · simp [sent, hj] at h
theorem sent_at (G : Nat → Int) (len j : Nat) (h : j < len) : (sent G len)[j]? = some (.int .u8 (G j)) := by
  simp [sent, h]
theorem sent_one (G : Nat → Int) (len : Nat) : ∀ v ∈ sent G len, v.oneCell' = true := by
  intro v hv
  simp [sent] at hv
  obtain ⟨_, _, rfl⟩ := hv
  rfl
/-- The row that 'make' has laid. -/
theorem made_row {w1 : World} {B len : Nat} {xs : List Value} (h : w1.ownsRow B 5 1 (.slice (some ⟨B, 0, none⟩) len len) len xs) :
    ∃ cur : List Value, cur.length = len ∧ w1.heap[B]? = some (.cells cur.toArray 5 (0, 0)) := by
  obtain ⟨_, ⟨h1, _⟩ | ⟨g, cap, cur, h1, _, h3, _, _, h6, _⟩⟩ := h
  · cases h1
  · cases h1
    exact ⟨cur.toList, by simpa using h6, by simpa using h3⟩
theorem sent_src {w w1 : World} {x : Addr} {len : Nat} (G : Nat → Int) (hb : Below w.heap.size w w1)
    (hc : ∀ j, j < len → w.cell? (x.add j) = some (.int .u8 (G j))) (j : Nat) (v : Value) (h : (sent G len)[j]? = some v) :
    w1.cell? (x.add j) = some v := by
  obtain ⟨hj, rfl⟩ := sent_get G len j v h
  have h1 := hc j hj
  have h2 := World.block_lt_of_cell? w _ h1
  exact (hb.cell h2).trans h1

/-- What 'copy' does: the whole argument goes over. -/
theorem copy_run {w w1 : World} {x : Addr} {len cap : Nat} {cur : List Value} (G : Nat → Int) (ty : TypeId) (hcl : cur.length = len) (hrow : w1.heap[w.heap.size]? = some (.cells cur.toArray 5 (0, 0)))
    (hb : Below w.heap.size w w1) (hc : ∀ j, j < len → w.cell? (x.add j) = some (.int .u8 (G j))) :
    ∃ w2, (Builtin.copy_ #[22, 22] ty #[.slice (some ⟨w.heap.size, 0, none⟩) len len, .slice (some x) len cap]).run Try.prog w1 = .ok (.int .i64 len) w2 ∧
      Hid (∀ j, j < len → w2.cell? ⟨w.heap.size, 0 + j, none⟩ = some (.int .u8 (G j))) ∧ Below w.heap.size w w2 := by
  have hrun := run_copy_row (P := Try.prog) w1 22 22 ty 5 w.heap.size 0 len len x len cap cur.toArray 5 (sent G len) Try.underlying22 Try.size5 hrow
    (by rw [sent_length]; simp) (sent_src G hb hc) (by rw [sent_length]; simp [hcl]) (sent_one G len)
  rw [sent_length] at hrun
  refine ⟨_, hrun, ?_, below_setRow hb (Nat.le_refl _) _⟩
  intro j hj
  have hh := setRow_heap w1 w.heap.size _ (List.take 0 cur.toArray.toList ++ sent G len ++ List.drop (0 + len) cur.toArray.toList).toArray 5 _ hrow
  have e : List.take 0 cur.toArray.toList ++ sent G len ++ List.drop (0 + len) cur.toArray.toList = sent G len := by simp [hcl]
  rw [e] at hh ⊢
  simp [World.cell?, hh, sent_at G len j hj]

set_option maxHeartbeats 400000 in
theorem clone_nil (w : World) :
    Calls Try.prog 7 #[.slice none 0 0] w fun e w' => e = .returned (.slice none 0 0) ∧ w' = w := by
  have hnil := Go.Lib.run_eql_slice_nil (P := Try.prog) w 22 5 none 0 0 0 0 Try.underlying22
  go_enter Try.func7, Try.ntmps7
  go_wp2
  go_ret
  exact ⟨rfl, rfl⟩

set_option maxHeartbeats 400000 in
theorem clone_any (x : Addr) (len cap : Nat) (G : Nat → Int) (w : World) (hl : len ≤ 1048576) (hc : ∀ j, j < len → w.cell? (x.add j) = some (.int .u8 (G j))) :
    Calls Try.prog 7 #[.slice (some x) len cap] w fun e w' => e = .returned (.slice (some ⟨w.heap.size, 0, none⟩) len len) ∧
      Hid (∀ j, j < len → w'.cell? ⟨w.heap.size, 0 + j, none⟩ = some (.int .u8 (G j))) ∧ Below w.heap.size w w' := by
  obtain ⟨i0, hi, hz0, hz1, hz2⟩ := info_parts Try.info5
  have HC := hide hc
  have hnil := Go.Lib.run_eql_slice_nil (P := Try.prog) w 22 5 (some x) len cap 0 0 Try.underlying22
  clear hc
  go_enter Try.func7, Try.ntmps7
  go_wp2_with (at_make; refine wpList_make_full _ rfl _ _ 22 rfl w.heap.size 5 i0 (.int .u8 0) 1 Try.underlying22 hi hz0 hz1 .i64 .i64 _ _ len rfl rfl rfl rfl (by rw [hz2]; omega) (by unfold maxLen; omega) (Nat.le_refl _) ?_; intro w1 hown hgrow; obtain ⟨cur, hcl, hrow⟩ := made_row hown; have hb1 : Below w.heap.size w w1 := (Below.refl _ _).grown hgrow (Nat.le_refl _) (by simp); obtain ⟨w2, hcp, HR, hb2⟩ := copy_run (cap := cap) G 3 hcl hrow hb1 HC.out; clear hown hgrow hrow hcl hb1)
  go_ret
  exact ⟨rfl, HR, hb2⟩

end Go.Proofs.Qxb6602906a

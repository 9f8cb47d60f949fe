import Derived.Test.Qxb6613447aBuild
namespace Go.Proofs.Qxb6613447a
open Go.RowKit
/-- Block w.heap.size holds n strings, of which the first k are the names. -/
structure Nb (w : World) (G n : Nat) (nm : Nat → ByteArray) (k : Nat) (wr : World) : Prop where
  below : Below w.heap.size w wr
  gw : w.heap.size = G
  row : ∃ C : Array Value, wr.heap[G]? = some (.cells C 9 (0, 0)) ∧ C.size = n ∧ ∀ j, j < k → C[j]? = some (.string (nm j))
theorem Nb.cell {w : World} {G n : Nat} {nm : Nat → ByteArray} {k : Nat} {wr : World} (h : Nb w G n nm k wr) (o : Nat) (ho : o < n) : ∃ v0, wr.cell? ⟨G, o, none⟩ = some v0 := by
  obtain ⟨C, hC, hs, -⟩ := h.row
  unfold World.cell?
  rw [hC]
  have ho' : o < C.size := by omega
  exact ⟨C[o], Array.getElem?_eq_getElem ho'⟩
theorem Nb.name {w : World} {G n : Nat} {nm : Nat → ByteArray} {k : Nat} {wr : World} (h : Nb w G n nm k wr) (j : Nat) (hj : j < k) : wr.cell? ⟨G, j, none⟩ = some (.string (nm j)) := by
  obtain ⟨C, hC, hs, hn⟩ := h.row
  unfold World.cell?
  rw [hC]
  exact hn j hj
theorem Nb.free {w : World} {G n : Nat} {nm : Nat → ByteArray} {k : Nat} {wr : World} (h : Nb w G n nm k wr) (o : Nat) : wr.frozen? ⟨G, o, none⟩ = false := by
  obtain ⟨C, hC, -⟩ := h.row
  unfold World.frozen?
  rw [hC]
  simp
theorem Nb.lt {w : World} {G n : Nat} {nm : Nat → ByteArray} {k : Nat} {wr : World} (h : Nb w G n nm k wr) : G < wr.heap.size := by
  obtain ⟨C, hC, -⟩ := h.row
  exact (Array.getElem?_eq_some_iff.1 hC).1
theorem Nb.start (w : World) (n : Nat) (nm : Nat → ByteArray) : Nb w w.heap.size n nm 0 (w.alloc (.cells (Z9 n) 9)) :=
  ⟨(Below.refl _ _).alloc (Nat.le_refl _) _, rfl, Z9 n, heap_alloc_new w _, by unfold Z9; rw [size_madeCells]; omega, fun j hj => by omega⟩

theorem Nb.step {w : World} {G n : Nat} {nm : Nat → ByteArray} {k : Nat} {wr : World} (h : Nb w G n nm k wr) (hk : k < n) (o : Obj) :
    Nb w G n nm (k + 1) ((wr.setCell ⟨G, k, none⟩ (.string (nm k))).alloc o) := by
  obtain ⟨C, hC, hs, hj⟩ := h.row
  have hlt := h.lt
  have h1 := row_setCell hC k (.string (nm k))
  have hG := h.gw
  have hsz := h.below.size
  refine ⟨(h.below.setCell (p := ⟨G, k, none⟩) (by simp; omega) _).alloc (by simp [World.setCell]; omega) o, hG, _, (Below.heap_alloc _ _ _ (by simp [World.setCell]; omega)).trans h1, by simp [hs], fun j hjk => ?_⟩
  simp only [Array.getElem?_setIfInBounds]
  by_cases e : j = k
  · subst e
    rw [if_pos rfl, if_pos (by omega)]
  · rw [if_neg (by omega)]
    exact hj j (by omega)
set_option maxHeartbeats 1000000 in
theorem names8 (G len : Nat) (nm : Nat → ByteArray) (rq : Nat → Bool) (w : World) (hG : G < w.heap.size) (hlen : len ≤ 65537)
    (hc : ∀ j, j < len → w.cell? ⟨G, j * 3, none⟩ = some (.string (nm j)) ∧ w.cell? ⟨G, j * 3 + 1, none⟩ = some (.bool (rq j)) ∧ w.cell? ⟨G, j * 3 + 2, none⟩ = some .nilFunc) :
    Calls Try.prog 8 #[.slice (some ⟨G, 0, none⟩) len len] w fun e w' => e = .returned (.slice (some ⟨w.heap.size, 0, none⟩) len len) ∧ Nb w w.heap.size len nm len w' := by
  have hlen' : (len : Int) ≤ 65537 := by omega
  have hmk := mk27 len hlen w
  go_enter Try.func8, Try.ntmps8
  go_wp2
  go_loopw [11] (fun i wr => ∃ k : Nat, k ≤ len ∧ i = .int .i64 k ∧ Nb w w.heap.size len nm k wr) (fun i _ => len - (intOf i).toNat)
  case atStart => exact ⟨0, Nat.zero_le _, rfl, Nb.start w len nm⟩
  case round =>
    obtain ⟨k, hk, rfl, hbd⟩ := hrel
    by_cases hlt : k < len
    · have hlt' : (k : Int) < (len : Int) := by omega
      have hsz := hbd.below.size
      have hb1 : G < wr.heap.size := by omega
      have hG1 : w.heap.size < wr.heap.size := hbd.lt
      obtain ⟨q0, q1, q2⟩ := hc k hlt
      have c0 : wr.cell? ⟨G, k * 3, none⟩ = some (.string (nm k)) := (hbd.below.cell (p := ⟨G, k * 3, none⟩) hG).trans q0
      have c1 : wr.cell? ⟨G, k * 3 + 1, none⟩ = some (.bool (rq k)) := (hbd.below.cell (p := ⟨G, k * 3 + 1, none⟩) hG).trans q1
      have c2 : wr.cell? ⟨G, k * 3 + 2, none⟩ = some .nilFunc := (hbd.below.cell (p := ⟨G, k * 3 + 2, none⟩) hG).trans q2
      obtain ⟨v0, g0⟩ := hbd.cell k hlt
      have gf := hbd.free
      have HB : Hid (Nb w w.heap.size len nm k wr) := hbd
      clear hbd q0 q1 q2
      go_wp2
      go_roundw
      case rel => exact ⟨k + 1, by omega, by go_num, HB.out.step hlt _⟩
      case measure => simp [intOf]; omega
    · have hlt' : ¬ (k : Int) < (len : Int) := by omega
      have : k = len := by omega
      subst this
      go_wp2
      go_ret
      exact ⟨rfl, hbd⟩
theorem names6 (G len : Nat) (nm : Nat → ByteArray) (rq : Nat → Bool) (w : World) (hG : G < w.heap.size) (hlen : len ≤ 65537)
    (hc : ∀ j, j < len → w.cell? ⟨G, j * 3, none⟩ = some (.string (nm j)) ∧ w.cell? ⟨G, j * 3 + 1, none⟩ = some (.bool (rq j)) ∧ w.cell? ⟨G, j * 3 + 2, none⟩ = some .nilFunc) :
    Calls Try.prog 6 #[.slice (some ⟨G, 0, none⟩) len len] w fun e w' => e = .returned (.slice (some ⟨w.heap.size, 0, none⟩) len len) ∧ Nb w w.heap.size len nm len w' := by
  have H := names8 G len nm rq w hG hlen hc
  have HH : Hid (Calls Try.prog 8 #[.slice (some ⟨G, 0, none⟩) len len] w fun e w' => e = .returned (.slice (some ⟨w.heap.size, 0, none⟩) len len) ∧ Nb w w.heap.size len nm len w') := H
  clear H hc
  go_enter Try.func6, Try.ntmps6
  go_wp2_with fail
  refine (Hid.out HH).mono ?_
  rintro e w1 ⟨rfl, h1⟩
  go_wp2
  go_ret
  exact ⟨rfl, h1⟩
theorem Bd.reads {w : World} {G n : Nat} {nm : Nat → ByteArray} {rq : Nat → Bool} {k : Nat} {wr : World} (h : Bd w G n nm rq k wr) : ∀ j, j < k → wr.cell? ⟨G, j * 3, none⟩ = some (.string (nm j)) ∧ wr.cell? ⟨G, j * 3 + 1, none⟩ = some (.bool (rq j)) ∧ wr.cell? ⟨G, j * 3 + 2, none⟩ = some .nilFunc := by
  obtain ⟨C, hC, hs, hn⟩ := h.row
  intro j hj
  unfold World.cell?
  rw [hC]
  exact hn j hj
end Go.Proofs.Qxb6613447a

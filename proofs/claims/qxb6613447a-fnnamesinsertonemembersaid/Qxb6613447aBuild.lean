import Derived.Test.Qxb6613447aParts
import Derived.Deep.RegionHeld3
namespace Go.Proofs.Qxb6613447a
open Go.RowKit
theorem info33 : (Try.prog.info? 33).map (fun i => (i.zero, i.size, i.bytes)) = some (some (.agg #[.string ByteArray.empty, .bool false, .nilFunc]), 3, 32) := by kernel_rfl
theorem info26 : (Try.prog.info? 26).map (fun i => (i.zero, i.size, i.bytes)) = some (some (.agg #[.string ByteArray.empty, .bool false]), 2, 24) := by kernel_rfl
theorem info9 : (Try.prog.info? 9).map (fun i => (i.zero, i.size, i.bytes)) = some (some (.string ByteArray.empty), 1, 16) := by kernel_rfl
def Z33 (n : Nat) : Array Value := madeCells #[.string ByteArray.empty, .bool false, .nilFunc] (n * 3)
def Z26 (n : Nat) : Array Value := madeCells #[.string ByteArray.empty, .bool false] (n * 2)
def Z9 (n : Nat) : Array Value := madeCells #[.string ByteArray.empty] (n * 1)
theorem mk29 (n : Nat) (hn : n ≤ 65537) (w : World) : (Instr.makeSlice 29 (.int .i64 n) (.int .i64 n)).run Try.prog w = .ok (.slice (some ⟨w.heap.size, 0, none⟩) n n) (w.alloc (.cells (Z33 n) 33)) := by
  obtain ⟨i0, hi, hz0, hz1, hz2⟩ := info_parts info33
  have h := run_make (P := Try.prog) w 29 33 i0 _ Try.underlying29 hi hz0 .i64 .i64 n n (by omega) (by omega) (by rw [hz2]; omega) (by omega)
  rw [hz1] at h
  exact h
theorem mk22 (n : Nat) (hn : n ≤ 65537) (w : World) : (Instr.makeSlice 22 (.int .i64 n) (.int .i64 n)).run Try.prog w = .ok (.slice (some ⟨w.heap.size, 0, none⟩) n n) (w.alloc (.cells (Z26 n) 26)) := by
  obtain ⟨i0, hi, hz0, hz1, hz2⟩ := info_parts info26
  have h := run_make (P := Try.prog) w 22 26 i0 _ Try.underlying22 hi hz0 .i64 .i64 n n (by omega) (by omega) (by rw [hz2]; omega) (by omega)
  rw [hz1] at h
  exact h
theorem mk27 (n : Nat) (hn : n ≤ 65537) (w : World) : (Instr.makeSlice 27 (.int .i64 n) (.int .i64 n)).run Try.prog w = .ok (.slice (some ⟨w.heap.size, 0, none⟩) n n) (w.alloc (.cells (Z9 n) 9)) := by
  obtain ⟨i0, hi, hz0, hz1, hz2⟩ := info_parts info9
  have h := run_make (P := Try.prog) w 27 9 i0 _ Try.underlying27 hi hz0 .i64 .i64 n n (by omega) (by omega) (by rw [hz2]; omega) (by omega)
  rw [hz1] at h
  exact h

/-- Block G holds n elements of three cells, of which the first k are the members. -/
structure Bd (w : World) (G n : Nat) (nm : Nat → ByteArray) (rq : Nat → Bool) (k : Nat) (wr : World) : Prop where
  below : Below w.heap.size w wr
  gw : w.heap.size = G
  row : ∃ C : Array Value, wr.heap[G]? = some (.cells C 33 (0, 0)) ∧ C.size = n * 3 ∧ ∀ j, j < k → C[j * 3]? = some (.string (nm j)) ∧ C[j * 3 + 1]? = some (.bool (rq j)) ∧ C[j * 3 + 2]? = some .nilFunc

theorem Bd.cells {w : World} {G n : Nat} {nm : Nat → ByteArray} {rq : Nat → Bool} {k : Nat} {wr : World} (h : Bd w G n nm rq k wr) (o : Nat) (ho : o < n * 3) : ∃ v0, wr.cell? ⟨G, o, none⟩ = some v0 := by
  obtain ⟨C, hC, hs, -⟩ := h.row
  unfold World.cell?
  rw [hC]
  have ho' : o < C.size := by omega
  exact ⟨C[o], Array.getElem?_eq_getElem ho'⟩
theorem Bd.free {w : World} {G n : Nat} {nm : Nat → ByteArray} {rq : Nat → Bool} {k : Nat} {wr : World} (h : Bd w G n nm rq k wr) (o : Nat) : wr.frozen? ⟨G, o, none⟩ = false := by
  obtain ⟨C, hC, -⟩ := h.row
  unfold World.frozen?
  rw [hC]
  simp
theorem Bd.lt {w : World} {G n : Nat} {nm : Nat → ByteArray} {rq : Nat → Bool} {k : Nat} {wr : World} (h : Bd w G n nm rq k wr) : G < wr.heap.size := by
  obtain ⟨C, hC, -⟩ := h.row
  exact (Array.getElem?_eq_some_iff.1 hC).1
theorem row_setCell {w : World} {g : Nat} {C : Array Value} {T : TypeId} (h : w.heap[g]? = some (.cells C T (0, 0))) (o : Nat) (v : Value) : (w.setCell ⟨g, o, none⟩ v).heap[g]? = some (.cells (C.setIfInBounds o v) T (0, 0)) := by
  rw [setCell_eq_setRow w g o C T (0, 0) v h]
  exact setRow_heap w g C _ T (0, 0) h
theorem Bd.step {w : World} {G n : Nat} {nm : Nat → ByteArray} {rq : Nat → Bool} {k : Nat} {wr : World} (h : Bd w G n nm rq k wr) (hk : k < n) (o : Obj) :
    Bd w G n nm rq (k + 1) ((((wr.setCell ⟨G, k * 3, none⟩ (.string (nm k))).setCell ⟨G, k * 3 + 1, none⟩ (.bool (rq k))).setCell ⟨G, k * 3 + 2, none⟩ .nilFunc).alloc o).drew := by
  obtain ⟨C, hC, hs, hj⟩ := h.row
  have hlt := h.lt
  have h1 := row_setCell hC (k * 3) (.string (nm k))
  have h2 := row_setCell h1 (k * 3 + 1) (.bool (rq k))
  have h3 := row_setCell h2 (k * 3 + 2) .nilFunc
  have hG := h.gw
  have hsz := h.below.size
  refine ⟨((((h.below.setCell (p := ⟨G, k * 3, none⟩) (by simp; omega) _).setCell (p := ⟨G, k * 3 + 1, none⟩) (by simp; omega) _).setCell (p := ⟨G, k * 3 + 2, none⟩) (by simp; omega) _).alloc (by simp [World.setCell]; omega) o).drew, hG, _, (Below.heap_alloc _ _ _ (by simp [World.setCell]; omega)).trans h3, by simp [hs], fun j hjk => ?_⟩
  simp only [Array.getElem?_setIfInBounds, Array.size_setIfInBounds]
  by_cases e : j = k
  · subst e
    refine ⟨?_, ?_, ?_⟩
    · rw [if_neg (by omega), if_neg (by omega), if_pos rfl, if_pos (by omega)]
    · rw [if_neg (by omega), if_pos rfl, if_pos (by omega)]
    · rw [if_pos rfl, if_pos (by omega)]
  · obtain ⟨a1, a2, a3⟩ := hj j (by omega)
    refine ⟨?_, ?_, ?_⟩
    · rw [if_neg (by omega), if_neg (by omega), if_neg (by omega)]; exact a1
    · rw [if_neg (by omega), if_neg (by omega), if_neg (by omega)]; exact a2
    · rw [if_neg (by omega), if_neg (by omega), if_neg (by omega)]; exact a3
theorem Bd.start (w : World) (n : Nat) (nm : Nat → ByteArray) (rq : Nat → Bool) : Bd w w.heap.size n nm rq 0 (w.alloc (.cells (Z33 n) 33)) :=
  ⟨(Below.refl _ _).alloc (Nat.le_refl _) _, rfl, Z33 n, heap_alloc_new w _, size_madeCells _ _, fun j hj => by omega⟩

set_option maxHeartbeats 1000000 in
theorem build7 (ao : Option Addr) (len cap b off : Nat) (nm : Nat → ByteArray) (rq : Nat → Bool) (w : World) (h : IsSchema w ao len b off nm rq) (hlen : len ≤ 65537) :
    Calls Try.prog 7 #[.slice ao len cap] w fun e w' => e = .returned (.slice (some ⟨w.heap.size, 0, none⟩) len len) ∧ Bd w w.heap.size len nm rq len w' := by
  have hlen' : (len : Int) ≤ 65537 := by omega
  have hmk := mk29 len hlen w
  go_enter Try.func7, Try.ntmps7
  go_wp2
  go_loopw [4] (fun i wr => ∃ k : Nat, k ≤ len ∧ i = .int .i64 k ∧ Bd w w.heap.size len nm rq k wr) (fun i _ => len - (intOf i).toNat)
  case atStart => exact ⟨0, Nat.zero_le _, rfl, Bd.start w len nm rq⟩
  case round =>
    obtain ⟨k, hk, rfl, hbd⟩ := hrel
    by_cases hlt : k < len
    · have hlt' : (k : Int) < (len : Int) := by omega
      have e := h.at_ (by omega)
      subst e
      have hb0 : b < w.heap.size := h.lt (by omega)
      have hsz := hbd.below.size
      have hb1 : b < wr.heap.size := by omega
      have hG1 : w.heap.size < wr.heap.size := hbd.lt
      have c0 : wr.cell? ⟨b, off + k * 2, none⟩ = some (.string (nm k)) := (hbd.below.cell (p := ⟨b, off + k * 2, none⟩) hb0).trans (h.name k hlt)
      have c1 : wr.cell? ⟨b, off + k * 2 + 1, none⟩ = some (.bool (rq k)) := (hbd.below.cell (p := ⟨b, off + k * 2 + 1, none⟩) hb0).trans (h.flag k hlt)
      have g0 := hbd.cells (k * 3) (by omega)
      have g1 := hbd.cells (k * 3 + 1) (by omega)
      have g2 := hbd.cells (k * 3 + 2) (by omega)
      have gf := hbd.free
      obtain ⟨v0, g0⟩ := g0
      obtain ⟨v1, g1⟩ := g1
      obtain ⟨v2, g2⟩ := g2
      have HB : Hid (Bd w w.heap.size len nm rq k wr) := hbd
      clear hbd
      go_wp2
      go_region_held3 (fun w' => w'.cell? ⟨b, off + k * 2, none⟩ = some (.string (nm k)) ∧ w'.cell? ⟨b, off + k * 2 + 1, none⟩ = some (.bool (rq k))) (simp [*, go_sem, World.cell?_alloc_past])
        (first | (go_at_call 9; refine (new9 _ _ _).mono ?_; rintro e w' ⟨rfl, rfl⟩))
      go_wp2
      go_roundw
      case rel => exact ⟨k + 1, by omega, by go_num, HB.out.step hlt _⟩
      case measure => simp [intOf]; omega
    · have hlt' : ¬ (k : Int) < (len : Int) := by omega
      have : k = len := by omega
      subst this
      go_wp2
      go_ret
      exact ⟨rfl, hbd⟩
end Go.Proofs.Qxb6613447a

import Derived.Test.Qxb6613591aParts
namespace Go.Proofs.Qxb6613591a
open Go.RowKit
/-- The streams stand, no block goes, and of the blocks that were there only those in S may have turned. -/
structure Upd (S : Nat → Prop) (w w' : World) : Prop where
  os : w'.os = w.os
  tape : w'.tape = w.tape
  output : w'.output = w.output
  size : w.heap.size ≤ w'.heap.size
  block : ∀ k, k < w.heap.size → ¬ S k → w'.heap[k]? = w.heap[k]?

theorem Upd.refl (S : Nat → Prop) (w : World) : Upd S w w := ⟨rfl, rfl, rfl, Nat.le_refl _, fun _ _ _ => rfl⟩
theorem Upd.trans {S : Nat → Prop} {a b c : World} (h : Upd S a b) (k : Upd S b c) : Upd S a c :=
  ⟨k.os.trans h.os, k.tape.trans h.tape, k.output.trans h.output, Nat.le_trans h.size k.size, fun i hi hs => (k.block i (Nat.lt_of_lt_of_le hi h.size) hs).trans (h.block i hi hs)⟩
theorem Upd.weaken {S T : Nat → Prop} {a b : World} (h : Upd S a b) (hst : ∀ k, k < a.heap.size → S k → T k) : Upd T a b :=
  ⟨h.os, h.tape, h.output, h.size, fun i hi ht => h.block i hi (fun hs => ht (hst i hi hs))⟩
theorem Upd.alloc {S : Nat → Prop} {a w : World} (h : Upd S a w) (o : Obj) : Upd S a (w.alloc o) :=
  h.trans ⟨rfl, rfl, rfl, by simp, fun _ hk _ => Below.heap_alloc _ _ _ hk⟩
theorem Upd.drewN {S : Nat → Prop} {a w : World} (h : Upd S a w) (n : Nat) : Upd S a (w.drewN n) := h.trans ⟨rfl, rfl, rfl, Nat.le_refl _, fun _ _ _ => rfl⟩
theorem Upd.drew {S : Nat → Prop} {a w : World} (h : Upd S a w) : Upd S a w.drew := h.trans ⟨rfl, rfl, rfl, Nat.le_refl _, fun _ _ _ => rfl⟩
theorem Upd.setRow {S : Nat → Prop} {a w : World} (h : Upd S a w) {g : Nat} (hg : S g) (cs : Array Value) : Upd S a (w.setRow g cs) :=
  h.trans ⟨rfl, rfl, rfl, by simp [World.setRow], fun k _ hs => setRow_other w g k cs (fun e => hs (e ▸ hg))⟩
theorem Upd.setCell {S : Nat → Prop} {a w : World} (h : Upd S a w) {p : Addr} (hp : S p.block) (v : Value) : Upd S a (w.setCell p v) :=
  h.trans ⟨rfl, rfl, rfl, by simp [World.setCell], fun k _ hs => Below.heap_setCell _ _ _ _ (fun e => hs (e ▸ hp))⟩
theorem Upd.below {S : Nat → Prop} {a w : World} (h : Upd S a w) {B : Nat} (hB : B ≤ a.heap.size) (hs : ∀ k, S k → B ≤ k) : Below B a w :=
  ⟨h.os, h.tape, h.output, h.size, fun k hk => h.block k (by omega) (fun e => by have := hs k e; omega)⟩
theorem Upd.heap {S : Nat → Prop} {a w : World} (h : Upd S a w) {k : Nat} {o : Obj} (hk : a.heap[k]? = some o) (hs : ¬ S k) : w.heap[k]? = some o :=
  (h.block k ((Array.getElem?_eq_some_iff.1 hk).1) hs).trans hk
theorem lt_of_heap {w : World} {k : Nat} {o : Obj} (hk : w.heap[k]? = some o) : k < w.heap.size := (Array.getElem?_eq_some_iff.1 hk).1

theorem info5 : (Try.prog.info? 5).map (fun i => (i.zero, i.size, i.bytes)) = some (some (.int .u8 0), 1, 1) := by kernel_rfl
theorem size5 : (Try.prog.info? 5).map (·.size) = some 1 := by kernel_rfl
def Z5 (n : Nat) : Array Value := madeCells #[.int .u8 0] (n * 1)
theorem mk22 (n : Nat) (hn : n ≤ 65536) (w : World) : (Instr.makeSlice 22 (.int .i64 n) (.int .i64 n)).run Try.prog w = .ok (.slice (some ⟨w.heap.size, 0, none⟩) n n) (w.alloc (.cells (Z5 n) 5)) := by
  obtain ⟨i0, hi, hz0, hz1, hz2⟩ := info_parts info5
  have h := run_make (P := Try.prog) w 22 5 i0 _ Try.underlying22 hi hz0 .i64 .i64 n n (by omega) (by omega) (by rw [hz2]; omega) (by omega)
  rw [hz1] at h
  exact h
/-- The bytes as cells. -/
def bcells (l : List UInt8) : List Value := l.map fun c => .int .u8 (c.toNat : Int)
theorem bcells_length (l : List UInt8) : (bcells l).length = l.length := by simp [bcells]
theorem bcells_one (l : List UInt8) : ∀ v ∈ bcells l, v.oneCell' = true := fun v hv => by
  rw [bcells, List.mem_map] at hv
  obtain ⟨c, -, rfl⟩ := hv
  rfl
/-- The slice's elements, as bytes. -/
def Bytes (w : World) (b off : Nat) (bs : List UInt8) : Prop := ∀ (j : Nat) (c : UInt8), bs[j]? = some c → w.cell? ⟨b, off + j, none⟩ = some (.int .u8 (c.toNat : Int))
theorem addr_add (b o j : Nat) : (⟨b, o, none⟩ : Addr).add j = ⟨b, o + j, none⟩ := by
  by_cases h : j = 0
  · subst h; rfl
  · simp [Addr.add, h]

theorem modify_push (a : Array Obj) (x : Obj) (f : Obj → Obj) : (a.push x).modify a.size f = a.push (f x) := by
  apply Array.ext_getElem?
  intro i
  rw [Array.getElem?_modify, Array.getElem?_push, Array.getElem?_push]
  by_cases h : i = a.size
  · rw [if_pos h.symm, if_pos h, if_pos h]; rfl
  · rw [if_neg (fun e => h e.symm), if_neg h, if_neg h]
theorem alloc_setRow (w : World) (Z C : Array Value) (t : TypeId) : (w.alloc (.cells Z t)).setRow w.heap.size C = w.alloc (.cells C t) := by
  show ({ w with heap := (w.heap.push (.cells Z t)).modify w.heap.size _ } : World) = { w with heap := w.heap.push (.cells C t) }
  rw [modify_push]
theorem notNil (b off len cap : Nat) (w : World) : (binOp .eql 22 (.slice (some ⟨b, off, none⟩) len cap) (.slice none 0 0)).run Try.prog w = .ok (.bool false) w := by kernel_rfl
theorem bcells_at (bs : List UInt8) (j : Nat) (v : Value) (h : (bcells bs)[j]? = some v) : ∃ c, bs[j]? = some c ∧ v = .int .u8 (c.toNat : Int) := by
  rw [bcells, List.getElem?_map, Option.map_eq_some_iff] at h
  obtain ⟨c, h1, h2⟩ := h
  exact ⟨c, h1, h2.symm⟩

set_option maxHeartbeats 1000000 in
theorem clone5 (b off cap : Nat) (bs : List UInt8) (len : Nat) (hlen : bs.length = len) (w : World) (h : Bytes w b off bs) (hb : b < w.heap.size) (hl : len ≤ 65536) :
    Calls Try.prog 5 #[.slice (some ⟨b, off, none⟩) len cap] w fun e w' => e = .returned (.slice (some ⟨w.heap.size, 0, none⟩) len len) ∧ w' = w.alloc (.cells (bcells bs).toArray 5) := by
  have hmk := mk22 len hl w
  have hcp : (Builtin.copy_ #[22, 22] 3 #[.slice (some ⟨w.heap.size, 0, none⟩) len len, .slice (some ⟨b, off, none⟩) len cap]).run Try.prog (w.alloc (.cells (Z5 len) 5)) = .ok (.int .i64 len) (w.alloc (.cells (bcells bs).toArray 5)) := by
    have hr := run_copy_row Try.prog (w.alloc (.cells (Z5 len) 5)) 22 22 3 5 w.heap.size 0 len len ⟨b, off, none⟩ len cap (Z5 len) 5 (bcells bs) Try.underlying22 size5 (heap_alloc_new w _)
      (by rw [bcells_length, hlen]; exact (Nat.min_self _).symm) (fun j v hj => by
        obtain ⟨c, hc, rfl⟩ := bcells_at bs j v hj
        rw [addr_add, ← h j c hc]
        exact World.cell?_of_block (w := w) (Below.heap_alloc w _ b hb)) (by rw [bcells_length, Z5, size_madeCells]; omega) (bcells_one _)
    rw [bcells_length, hlen] at hr
    rw [hr, alloc_setRow]
    have e : (Z5 len).toList.drop (0 + len) = [] := List.drop_eq_nil_of_le (by rw [Array.length_toList, Z5, size_madeCells]; omega)
    rw [e]
    simp [goInt]
  have hnn := notNil b off len cap
  clear h
  go_enter Try.func5, Try.ntmps5
  go_wp2
  go_ret
  exact ⟨rfl, rfl⟩
end Go.Proofs.Qxb6613591a

import Derived.Test.Qxb6613412aFmtProg
import Derived.WalkKit
import Derived.WalkSpells
import Derived.WalkLawsBesides
import Derived.RegionTactic
import Derived.ChangeAlike
import Derived.Laws.CopyRow
namespace Go.Proofs.Qxb6613412aFmt
open Go.RowKit

theorem new11 (s : ByteArray) (w : World) :
    Calls Tryf.prog 11 #[.string s] w fun e w' => e = .returned (.iface 47 (.pointer (some ⟨w.heap.size, 0, none⟩))) ∧ w' = w.alloc (.cells #[.string s] 49) := by
  go_enter Tryf.func11, Tryf.ntmps11
  go_wp2
  go_ret
  exact ⟨rfl, rfl⟩
theorem err46 (s : ByteArray) (a : Nat) (w : World) (h : w.cell? ⟨a, 0, none⟩ = some (.string s)) :
    Calls Tryf.prog 46 #[.pointer (some ⟨a, 0, none⟩)] w fun e w' => e = .returned (.string s) ∧ w' = w := by
  go_enter Tryf.func46, Tryf.ntmps46
  go_wp2
  go_ret
  exact ⟨rfl, rfl⟩

theorem info5 : (Tryf.prog.info? 5).map (fun i => (i.zero, i.size, i.bytes)) = some (some (.int .u8 0), 1, 1) := by kernel_rfl
def Z4096 : Array Value := madeCells #[.int .u8 0] 4096
theorem make4096 (w : World) : (Instr.makeSlice 23 (.int .i64 4096) (.int .i64 4096)).run Tryf.prog w = .ok (.slice (some ⟨w.heap.size, 0, none⟩) 4096 4096) (w.alloc (.cells Z4096 5)) := by
  obtain ⟨i0, hi, hz0, hz1, hz2⟩ := info_parts info5
  have h := run_make (P := Tryf.prog) w 23 5 i0 (.int .u8 0) Tryf.underlying23 hi hz0 .i64 .i64 4096 4096 (by omega) (by omega) (by rw [hz2]; decide) (by omega)
  rw [hz1] at h
  exact h
theorem notW (a : Nat) (w : World) : (Instr.typeAssert (.iface 34 (.pointer (some ⟨a, 0, none⟩))) 41 32 true).run Tryf.prog w = .ok (.tuple #[.pointer none, .bool false]) w := by kernel_rfl
theorem newsize13 (a : Nat) (w : World) :
    Calls Tryf.prog 13 #[.iface 34 (.pointer (some ⟨a, 0, none⟩)), .int .i64 4096] w fun e w' => e = .returned (.pointer (some ⟨w.heap.size + 1, 0, none⟩)) ∧ w' = (w.alloc (.cells Z4096 5)).alloc (.cells #[.nilIface, .slice (some ⟨w.heap.size, 0, none⟩) 4096 4096, .int .i64 0, .iface 34 (.pointer (some ⟨a, 0, none⟩))] 52) := by
  have hmk := make4096
  have hta := notW a
  go_enter Tryf.func13, Tryf.ntmps13
  go_wp2
  go_ret
  exact ⟨rfl, rfl⟩
theorem new9 (a : Nat) (w : World) :
    Calls Tryf.prog 9 #[.iface 34 (.pointer (some ⟨a, 0, none⟩))] w fun e w' => e = .returned (.pointer (some ⟨w.heap.size + 1, 0, none⟩)) ∧ w' = (w.alloc (.cells Z4096 5)).alloc (.cells #[.nilIface, .slice (some ⟨w.heap.size, 0, none⟩) 4096 4096, .int .i64 0, .iface 34 (.pointer (some ⟨a, 0, none⟩))] 52) := by
  go_enter Tryf.func9, Tryf.ntmps9
  go_wp2_with (go_at_call 13; refine (newsize13 a _).mono ?_; rintro e w' ⟨rfl, rfl⟩)
  go_ret
  exact ⟨rfl, rfl⟩
/-- The streams stand, no block goes, and of the blocks that were there only those in S may have turned. -/
structure Upd (S : Nat → Prop) (w w' : World) : Prop where
  os : w'.os = w.os
  tape : w'.tape = w.tape
  output : w'.output = w.output
  size : w.heap.size ≤ w'.heap.size
  block : ∀ k, k < w.heap.size → ¬ S k → w'.heap[k]? = w.heap[k]?

theorem Upd.refl (S : Nat → Prop) (w : World) : Upd S w w := ⟨rfl, rfl, rfl, Nat.le_refl _, fun _ _ _ => rfl⟩
theorem Upd.trans {S : Nat → Prop} {a b c : World} (h : Upd S a b) (k : Upd S b c) : Upd S a c :=
  ⟨k.os.trans h.os, k.tape.trans h.tape, k.output.trans h.output, Nat.le_trans h.size k.size, fun i hi hs => (k.block i (Nat.lt_of_lt_of_le hi h.size) hs).trans (h.block i hi hs)⟩
theorem Upd.weaken {S T : Nat → Prop} {a b : World} (h : Upd S a b) (hst : ∀ k, k < a.heap.size → S k → T k) : Upd T a b :=
  ⟨h.os, h.tape, h.output, h.size, fun i hi ht => h.block i hi (fun hs => ht (hst i hi hs))⟩
theorem Upd.alloc {S : Nat → Prop} {a w : World} (h : Upd S a w) (o : Obj) : Upd S a (w.alloc o) :=
  h.trans ⟨rfl, rfl, rfl, by simp, fun _ hk _ => Below.heap_alloc _ _ _ hk⟩
theorem Upd.drewN {S : Nat → Prop} {a w : World} (h : Upd S a w) (n : Nat) : Upd S a (w.drewN n) := h.trans ⟨rfl, rfl, rfl, Nat.le_refl _, fun _ _ _ => rfl⟩
theorem Upd.drew {S : Nat → Prop} {a w : World} (h : Upd S a w) : Upd S a w.drew := h.trans ⟨rfl, rfl, rfl, Nat.le_refl _, fun _ _ _ => rfl⟩
theorem Upd.setRow {S : Nat → Prop} {a w : World} (h : Upd S a w) {g : Nat} (hg : S g) (cs : Array Value) : Upd S a (w.setRow g cs) :=
  h.trans ⟨rfl, rfl, rfl, by simp [World.setRow], fun k _ hs => setRow_other w g k cs (fun e => hs (e ▸ hg))⟩
theorem Upd.setCell {S : Nat → Prop} {a w : World} (h : Upd S a w) {p : Addr} (hp : S p.block) (v : Value) : Upd S a (w.setCell p v) :=
  h.trans ⟨rfl, rfl, rfl, by simp [World.setCell], fun k _ hs => Below.heap_setCell _ _ _ _ (fun e => hs (e ▸ hp))⟩
theorem Upd.below {S : Nat → Prop} {a w : World} (h : Upd S a w) {B : Nat} (hB : B ≤ a.heap.size) (hs : ∀ k, S k → B ≤ k) : Below B a w :=
  ⟨h.os, h.tape, h.output, h.size, fun k hk => h.block k (by omega) (fun e => by have := hs k e; omega)⟩
theorem Upd.heap {S : Nat → Prop} {a w : World} (h : Upd S a w) {k : Nat} {o : Obj} (hk : a.heap[k]? = some o) (hs : ¬ S k) : w.heap[k]? = some o :=
  (h.block k ((Array.getElem?_eq_some_iff.1 hk).1) hs).trans hk
theorem lt_of_heap {w : World} {k : Nat} {o : Obj} (hk : w.heap[k]? = some o) : k < w.heap.size := (Array.getElem?_eq_some_iff.1 hk).1

/-- The bufio.Writer: no error, its buffer's row g, n bytes held, the bytes.Buffer in block b0 beneath. -/
def WB (g b0 : Nat) (n : Int) : Obj := .cells #[.nilIface, .slice (some ⟨g, 0, none⟩) 4096 4096, .int .i64 n, .iface 34 (.pointer (some ⟨b0, 0, none⟩))] 52 (0, 0)
theorem WB_cell {w : World} {b g b0 : Nat} {n : Int} (hw : w.heap[b]? = some (WB g b0 n)) (i : Nat) : w.cell? ⟨b, i, none⟩ = (#[Value.nilIface, .slice (some ⟨g, 0, none⟩) 4096 4096, .int .i64 n, .iface 34 (.pointer (some ⟨b0, 0, none⟩))] : Array Value)[i]? := by
  unfold World.cell?; rw [hw]; rfl
theorem WB_frozen {w : World} {b g b0 : Nat} {n : Int} (hw : w.heap[b]? = some (WB g b0 n)) (i : Nat) : w.frozen? ⟨b, i, none⟩ = false := by
  unfold World.frozen?; rw [hw]; simp [WB]

theorem avail20 (b g b0 n : Nat) (w : World) (hn : n ≤ 4096) (hw : w.heap[b]? = some (WB g b0 n)) :
    Calls Tryf.prog 20 #[.pointer (some ⟨b, 0, none⟩)] w fun e w' => e = .returned (.int .i64 (4096 - n)) ∧ ∃ k, w' = w.drewN k := by
  have c1 : w.cell? ⟨b, 1, none⟩ = some (.slice (some ⟨g, 0, none⟩) 4096 4096) := WB_cell hw 1
  have c2 : w.cell? ⟨b, 2, none⟩ = some (.int .i64 n) := WB_cell hw 2
  have hn' : (n : Int) ≤ 4096 := by omega
  clear hw
  go_enter Tryf.func20, Tryf.ntmps20
  go_wp2
  go_region
  go_wp2
  go_ret
  exact ⟨rfl, 1, rfl⟩
def spl (cur : List Value) (n : Nat) (cs : List Value) : List Value := cur.take n ++ cs ++ cur.drop (n + cs.length)
theorem length_spl (cur : List Value) (n : Nat) (cs : List Value) (h : n + cs.length ≤ cur.length) : (spl cur n cs).length = cur.length := by
  simp [spl]; omega
theorem size5 : (Tryf.prog.info? 5).map (·.size) = some 1 := by kernel_rfl

set_option maxRecDepth 100000 in
set_option maxHeartbeats 1000000 in
theorem write17 (b g b0 n : Nat) (cur : List Value) (w : World) (hw : w.heap[b]? = some (WB g b0 n))
    (hbg : b ≠ g)
    (hg : w.heap[g]? = some (.cells cur.toArray 5 (0, 0))) (hcur : cur.length = 4096) (a : Addr) (l c : Nat) (hnl : n + l < 4096) (cs : List Value) (hcs : cs.length = l) (hsrc : ∀ j v, cs[j]? = some v → w.cell? (a.add j) = some v) (h1 : ∀ v ∈ cs, v.oneCell' = true) :
    Calls Tryf.prog 17 #[.pointer (some ⟨b, 0, none⟩), .slice (some a) l c] w fun e w' => e = .returned (.tuple #[.int .i64 l, .nilIface]) ∧ ∃ k, w' = ((w.drewN k).setRow g (spl cur n cs).toArray).setCell ⟨b, 2, none⟩ (.int .i64 (n + l)) := by
  have hn' : (n : Int) < 4096 := by omega
  have hnl' : (n : Int) + (l : Int) < 4096 := by omega
  have hlt : ¬ (4096 - (n : Int) < (l : Int)) := by omega
  have f0 : ∀ k, (w.drewN k).cell? ⟨b, 0, none⟩ = some .nilIface := fun k => WB_cell (w := w.drewN k) hw 0
  have f1 : ∀ k, (w.drewN k).cell? ⟨b, 1, none⟩ = some (.slice (some ⟨g, 0, none⟩) 4096 4096) := fun k => WB_cell (w := w.drewN k) hw 1
  have f2 : ∀ k, (w.drewN k).cell? ⟨b, 2, none⟩ = some (.int .i64 n) := fun k => WB_cell (w := w.drewN k) hw 2
  have hcp : ∀ k, (Builtin.copy_ #[23, 23] 3 #[.slice (some ⟨g, n, none⟩) (4096 - n) (4096 - n), .slice (some a) l c]).run Tryf.prog (w.drewN k) = .ok (.int .i64 l) ((w.drewN k).setRow g (spl cur n cs).toArray) := fun k => by
    have h := run_copy_row Tryf.prog (w.drewN k) 23 23 3 5 g n (4096 - n) (4096 - n) a l c cur.toArray 5 cs Tryf.underlying23 size5 hg (by rw [hcs]; exact (Nat.min_eq_left (by omega)).symm) hsrc (by simp; omega) h1
    rw [hcs] at h
    rw [h, spl, hcs]
    rfl
  have hob : ∀ k, ((w.drewN k).setRow g (spl cur n cs).toArray).heap[b]? = some (WB g b0 n) := fun k => (setRow_other _ g b _ hbg).trans hw
  have s2 : ∀ k, ((w.drewN k).setRow g (spl cur n cs).toArray).cell? ⟨b, 2, none⟩ = some (.int .i64 n) := fun k => WB_cell (hob k) 2
  have s2f : ∀ k, ((w.drewN k).setRow g (spl cur n cs).toArray).frozen? ⟨b, 2, none⟩ = false := fun k => WB_frozen (hob k) 2
  have HA := avail20 b g b0 n w (by omega) hw
  clear hg hw hcur hcs hsrc h1 hob
  go_enter Tryf.func17, Tryf.ntmps17
  go_wp2
  refine wp_loop_rounds 1 ?_
  rw [rounds_succ]
  go_wp2_with (go_at_call 20; refine HA.mono ?_; rintro e w' ⟨rfl, k, rfl⟩)
  go_region
  go_wp2
  go_ret2
  exact ⟨rfl, k + 1, rfl⟩

/-- Write, as what it does to the blocks. -/
theorem write17' (b g b0 n : Nat) (cur : List Value) (w : World) (hw : w.heap[b]? = some (WB g b0 n))
    (hbg : b ≠ g)
    (hg : w.heap[g]? = some (.cells cur.toArray 5 (0, 0))) (hcur : cur.length = 4096) (a : Addr) (l c : Nat) (hnl : n + l < 4096) (cs : List Value) (hcs : cs.length = l) (hsrc : ∀ j v, cs[j]? = some v → w.cell? (a.add j) = some v) (h1 : ∀ v ∈ cs, v.oneCell' = true) :
    Calls Tryf.prog 17 #[.pointer (some ⟨b, 0, none⟩), .slice (some a) l c] w fun e w' => e = .returned (.tuple #[.int .i64 l, .nilIface]) ∧
      w'.heap[b]? = some (WB g b0 (n + l)) ∧ w'.heap[g]? = some (.cells (spl cur n cs).toArray 5 (0, 0)) ∧ Upd (fun k => k = b ∨ k = g) w w' := by
  refine (write17 b g b0 n cur w hw hbg hg hcur a l c hnl cs hcs hsrc h1).mono ?_
  rintro e w' ⟨rfl, k, rfl⟩
  have hob : ((w.drewN k).setRow g (spl cur n cs).toArray).heap[b]? = some (WB g b0 n) := (setRow_other _ g b _ hbg).trans hw
  refine ⟨rfl, ?_, ?_, (((Upd.refl _ w).drewN k).setRow (Or.inr rfl) _).setCell (Or.inl rfl) _⟩
  · rw [setCell_eq_setRow _ b 2 _ 52 (0, 0) _ hob, setRow_heap _ b _ _ 52 (0, 0) hob]
    rfl
  · rw [Below.heap_setCell _ _ _ _ (Ne.symm hbg)]
    exact setRow_heap _ g _ _ 5 (0, 0) hg

def hdrC (m : Nat) : List Value := [.int .u8 69, .int .u8 ((m : Int) / 65536), .int .u8 ((m : Int) / 256), .int .u8 ((m : Int) % 256)]

set_option maxRecDepth 100000 in
set_option maxHeartbeats 1000000 in
theorem frame14 (b g b0 p : Nat) (cur ps : List Value) (a : Addr) (m c : Nat) (w : World) (hw : w.heap[b]? = some (WB g b0 0)) (hbg : b ≠ g)
    (hg : w.heap[g]? = some (.cells cur.toArray 5 (0, 0))) (hcur : cur.length = 4096) (hp : w.cell? ⟨p, 0, none⟩ = some (.slice (some a) m c)) (hpb : p ≠ b) (hpg : p ≠ g) (hm : m ≤ 1024)
    (hps : ps.length = m) (hab : a.block ≠ b) (hag : a.block ≠ g) (hsrc : ∀ j v, ps[j]? = some v → w.cell? (a.add j) = some v) (h1 : ∀ v ∈ ps, v.oneCell' = true) (hal : a.block < w.heap.size) (hpl : p < w.heap.size) :
    Calls Tryf.prog 14 #[.pointer (some ⟨b, 0, none⟩), .int .u8 69, .slice (some ⟨p, 0, none⟩) 1 1] w fun e w' => e = .returned .nilIface ∧
      w'.heap[b]? = some (WB g b0 (4 + m)) ∧ w'.heap[g]? = some (.cells (spl (spl cur 0 (hdrC m)) 4 ps).toArray 5 (0, 0)) ∧ Upd (fun k => k = b ∨ k = g) w w' := by
  have hm' : (m : Int) ≤ 1024 := by omega
  have hA : ∀ k, (a.add k).block = a.block := fun k => by unfold Addr.add; split <;> rfl
  have H1 : Hid (Calls Tryf.prog 17 #[.pointer (some ⟨b, 0, none⟩), .slice (some ⟨w.heap.size, 0, none⟩) 4 4] (w.alloc (.cells #[.int .u8 69, .int .u8 ((m : Int) / 65536), .int .u8 ((m : Int) / 256), .int .u8 ((m : Int) % 256)] 55)) fun e w' => e = .returned (.tuple #[.int .i64 4, .nilIface]) ∧
      w'.heap[b]? = some (WB g b0 4) ∧ w'.heap[g]? = some (.cells (spl cur 0 (hdrC m)).toArray 5 (0, 0)) ∧ Upd (fun k => k = b ∨ k = g) (w.alloc (.cells #[.int .u8 69, .int .u8 ((m : Int) / 65536), .int .u8 ((m : Int) / 256), .int .u8 ((m : Int) % 256)] 55)) w') :=
   write17' b g b0 0 cur (w.alloc (.cells (hdrC m).toArray 55)) ((Below.heap_alloc _ _ _ (lt_of_heap hw)).trans hw) hbg ((Below.heap_alloc _ _ _ (lt_of_heap hg)).trans hg) hcur ⟨w.heap.size, 0, none⟩ 4 4 (by omega) (hdrC m) rfl
    (fun j v hj => by
      have e : (⟨w.heap.size, 0, none⟩ : Addr).add j = ⟨w.heap.size, j, none⟩ := by unfold Addr.add; split <;> simp_all
      rw [e, World.cell?_alloc_mark]
      simpa using hj)
    (fun v hv => by simp [hdrC] at hv; rcases hv with rfl | rfl | rfl | rfl <;> rfl)
  have HX : Hid (w.heap[b]? = some (WB g b0 0) ∧ w.heap[g]? = some (.cells cur.toArray 5 (0, 0)) ∧ cur.length = 4096 ∧ ps.length = m ∧ (∀ j v, ps[j]? = some v → w.cell? (a.add j) = some v) ∧ (∀ v ∈ ps, v.oneCell' = true)) := ⟨hw, hg, hcur, hps, hsrc, h1⟩
  clear hw hg hcur hps hsrc h1
  go_enter Tryf.func14, Tryf.ntmps14
  go_wp2
  refine wp_loop_rounds 2 ?_
  rw [rounds_succ]
  go_wp2
  rw [rounds_succ]
  go_wp2_with fail
  refine (Hid.out H1).mono ?_
  rintro e w1 ⟨rfl, hw1, hg1, hu1⟩
  have hp1 : w1.cell? ⟨p, 0, none⟩ = some (.slice (some a) m c) := by
    rw [← hp]
    exact World.cell?_of_block (w := w) ((hu1.block p (by simp; omega) (by simp [hpb, hpg])).trans (Below.heap_alloc _ _ _ hpl))
  have H2 : Hid (Calls Tryf.prog 17 #[.pointer (some ⟨b, 0, none⟩), .slice (some a) m c] w1 fun e w' => e = .returned (.tuple #[.int .i64 m, .nilIface]) ∧
      w'.heap[b]? = some (WB g b0 (4 + m)) ∧ w'.heap[g]? = some (.cells (spl (spl cur 0 (hdrC m)) 4 ps).toArray 5 (0, 0)) ∧ Upd (fun k => k = b ∨ k = g) w1 w') := by
    obtain ⟨hw, hg, hcur, hps, hsrc, h1⟩ := HX.out
    refine write17' b g b0 4 (spl cur 0 (hdrC m)) w1 hw1 hbg hg1 (by rw [length_spl _ _ _ (by simp [hdrC]; omega)]; exact hcur) a m c (by omega) ps hps (fun j v hj => ?_) h1
    rw [← hsrc j v hj]
    exact World.cell?_of_block (w := w) ((hu1.block _ (by simp [hA]; omega) (by simp [hA, hab, hag])).trans (Below.heap_alloc _ _ _ (by rw [hA]; exact hal)))
  have HU : Hid (Upd (fun k => k = b ∨ k = g) w w1) := ((Upd.refl _ w).alloc _).trans hu1
  clear hw1 hg1 hu1 H1 HX
  go_wp2
  refine wp_loop_rounds 2 ?_
  rw [rounds_succ]
  go_wp2_with fail
  refine (Hid.out H2).mono ?_
  rintro e w2 ⟨rfl, hw2, hg2, hu2⟩
  have HR : Hid (w2.heap[b]? = some (WB g b0 (4 + m)) ∧ w2.heap[g]? = some (.cells (spl (spl cur 0 (hdrC m)) 4 ps).toArray 5 (0, 0)) ∧ Upd (fun k => k = b ∨ k = g) w w2) := ⟨hw2, hg2, HU.out.trans hu2⟩
  clear hw2 hg2 hu2 H2 HU
  go_wp2
  rw [rounds_succ]
  go_wp2
  go_ret
  exact ⟨rfl, HR.out⟩
end Go.Proofs.Qxb6613412aFmt

import Derived.Test.Qxb6613412aFmtFrame
import Derived.Test.Qxb6613412aFmtShelf
import Derived.Deep.RegionHeld3
namespace Go.Proofs.Qxb6613412aFmt
open Go.RowKit

theorem buf_setOther {B b g b0 : Nat} {n : Int} {cs : List Value} {w : World} (h : Lib.IsBuffer 31 5 B b0 cs w) (hw : w.heap[b]? = some (WB g b0 n)) (hbb : b ≠ b0) (u : Value) :
    Lib.IsBuffer 31 5 B b0 cs (w.setCell ⟨b, 2, none⟩ u) := by
  obtain ⟨hB, v, lr, hc, ho, hv⟩ := h
  refine ⟨hB, v, lr, ?_, ?_, hv⟩
  · rw [Below.heap_setCell _ _ _ _ (Ne.symm hbb)]; exact hc
  · refine ownsRow_setCell_other ho ?_ u
    intro e
    obtain ⟨-, ho⟩ := ho
    rcases ho with ⟨rfl, -⟩ | ⟨r, cap, cur, rfl, -, hr, -⟩
    · simp [Value.ownBlock] at e
    · simp only [Value.ownBlock, Option.some.injEq] at e
      subst e
      rw [hw] at hr
      simp [WB] at hr
theorem meth40 (b0 : Nat) (w : World) : (method 187 34 (.pointer (some ⟨b0, 0, none⟩)) "Write").run Tryf.prog w = .ok (40, .pointer (some ⟨b0, 0, none⟩)) w := by kernel_rfl
set_option maxRecDepth 100000 in
set_option maxHeartbeats 1000000 in
theorem flush15 (B b g b0 n : Nat) (cs : List Value) (w : World) (hw : w.heap[b]? = some (WB g b0 n)) (hn0 : 0 < n) (hn : n ≤ 4096)
    (hBw : B ≤ w.heap.size) (hI : Lib.IsBuffer 31 5 B b0 [] w) (hcs : cs.length = n) (hgb : g ≠ b0) (hBb : B ≤ b) (hbb : b ≠ b0)
    (hsrc : ∀ j v, cs[j]? = some v → w.cell? ⟨g, j, none⟩ = some v) (h1 : ∀ v ∈ cs, v.oneCell' = true) :
    Calls Tryf.prog 15 #[.pointer (some ⟨b, 0, none⟩)] w fun e w' => e = .returned .nilIface ∧ Lib.IsBuffer 31 5 B b0 cs w' ∧ Below B w w' := by
  have hn' : (n : Int) ≤ 4096 := by omega
  have hn0' : (0 : Int) < n := by omega
  have hne : ((n : Int) == 0) = false := by simp; omega
  have c0 : w.cell? ⟨b, 0, none⟩ = some .nilIface := WB_cell hw 0
  have c1 : w.cell? ⟨b, 1, none⟩ = some (.slice (some ⟨g, 0, none⟩) 4096 4096) := WB_cell hw 1
  have c2 : w.cell? ⟨b, 2, none⟩ = some (.int .i64 n) := WB_cell hw 2
  have c3 : w.cell? ⟨b, 3, none⟩ = some (.iface 34 (.pointer (some ⟨b0, 0, none⟩))) := WB_cell hw 3
  have HB : Hid (Calls Tryf.prog 40 #[.pointer (some ⟨b0, 0, none⟩), .slice (some ⟨g, 0, none⟩) n 4096] w.drew fun e w' => e = .returned (.tuple #[.int .i64 n, .nilIface]) ∧ Lib.IsBuffer 31 5 B b0 cs w' ∧ Below B w w' ∧ w'.heap[b]? = some (WB g b0 n)) := by
    refine (Buffer_Write_any B b0 [] cs ⟨g, 0, none⟩ n 4096 w.drew hI.drew hBw (by simp) hcs hgb (fun j v hj => ?_) h1 (by simp; omega)).mono ?_
    · have e : (⟨g, 0, none⟩ : Addr).add j = ⟨g, j, none⟩ := by unfold Addr.add; split <;> simp_all
      rw [e]
      exact hsrc j v hj
    · rintro e w' ⟨rfl, h2, h3, h4⟩
      exact ⟨rfl, h2, ⟨h3.os, h3.tape, h3.output, h3.size, h3.block⟩, h4 b _ hw (by simp [hbb]) (fun c fz e => by simp [WB] at e)⟩
  have hmeth := meth40 b0
  clear hw hI hcs hsrc h1
  go_enter Tryf.func15, Tryf.ntmps15
  go_wp2
  go_region_held3 (fun w' => w'.cell? ⟨b, 0, none⟩ = some .nilIface ∧ w'.cell? ⟨b, 1, none⟩ = some (.slice (some ⟨g, 0, none⟩) 4096 4096) ∧ w'.cell? ⟨b, 2, none⟩ = some (.int .i64 n) ∧ w'.cell? ⟨b, 3, none⟩ = some (.iface 34 (.pointer (some ⟨b0, 0, none⟩)))) (go_keep)
   (first | (go_at_call 40; refine (Hid.out HB).mono ?_; rintro e w1 ⟨rfl, i1, b1, k1⟩; have d0 := WB_cell k1 0; have d1 := WB_cell k1 1; have d2 := WB_cell k1 2; have d3 := WB_cell k1 3; have d2f := WB_frozen k1 2; have HK : Hid (Lib.IsBuffer 31 5 B b0 cs w1 ∧ Below B w w1 ∧ w1.heap[b]? = some (WB g b0 n)) := ⟨i1, b1, k1⟩; clear i1 b1 k1))
  go_wp2
  go_ret
  obtain ⟨i1, b1, k1⟩ := HK.out
  exact ⟨rfl, buf_setOther i1 k1 hbb _, b1.setCell hBb _⟩
theorem meth46 (a : Nat) (w : World) : (method 187 47 (.pointer (some ⟨a, 0, none⟩)) "Error").run Tryf.prog w = .ok (46, .pointer (some ⟨a, 0, none⟩)) w := by kernel_rfl
/-- The bytes as cells. -/
def bcells (l : List UInt8) : List Value := l.map fun c => .int .u8 (c.toNat : Int)
theorem conv_bytes (s : ByteArray) (w : World) : ∃ (cap : Nat) (C : Array Value) (mk : Nat × Nat), (convert 9 23 (.string s)).run Tryf.prog w = .ok (.slice (some ⟨w.heap.size, 0, none⟩) s.size cap) (w.drew.alloc (.cells C 5 mk)) ∧ (∀ (j : Nat) (v : Value), (bcells s.data.toList)[j]? = some v → C[j]? = some v) ∧ s.size ≤ cap := by
  refine ⟨_, _, _, run_bytes_of_string w 9 23 5 s Tryf.underlying9 Tryf.underlying23 Tryf.underlying5, ?_, grownCap_ge _ _ _ _⟩
  intro j v hj
  have hl : j < s.data.size := by
    have := (List.getElem?_eq_some_iff.1 hj).1
    simpa [bcells] using this
  unfold bytesRow
  rw [Array.getElem?_append_left (by simpa using hl)]
  simp [bcells] at hj ⊢
  exact hj

theorem spl_spl (cur ps : List Value) (m : Nat) : spl (spl cur 0 (hdrC m)) 4 ps = (hdrC m ++ ps) ++ (cur.drop 4).drop ps.length := by
  simp only [spl, hdrC, List.take_zero, List.nil_append, List.length_cons, List.length_nil, Nat.zero_add, Nat.reduceAdd, List.drop_drop]
  rw [show (4 + ps.length) = ps.length + 1 + 1 + 1 + 1 by omega]
  simp only [List.cons_append, List.nil_append, List.take_succ_cons, List.take_zero, List.drop_succ_cons, List.drop_drop]
  rw [show 4 + ps.length = ps.length + 1 + 1 + 1 + 1 by omega]
theorem hdrC_one (m : Nat) : ∀ v ∈ hdrC m, v.oneCell' = true := fun v hv => by simp [hdrC] at hv; rcases hv with rfl | rfl | rfl | rfl <;> rfl
theorem bcells_one (l : List UInt8) : ∀ v ∈ bcells l, v.oneCell' = true := fun v hv => by
  simp [bcells] at hv
  obtain ⟨c, -, rfl⟩ := hv
  rfl
theorem buf_of_nil {B b0 : Nat} {w : World} (hB : B ≤ b0) (h : w.heap[b0]? = some (.cells #[.slice none 0 0, .int .i64 0, .int .i8 0] 31 (0, 0))) : Lib.IsBuffer 31 5 B b0 [] w :=
  ⟨hB, .slice none 0 0, 0, h, World.ownsRow_nil _ _ _ _, by simp [Value.ownBlock]⟩
/-- What a refusal sends: the header, then the reason's first bytes. -/
def sent (s : ByteArray) : List Value := hdrC (min s.size 1024) ++ bcells (s.data.toList.take 1024)
set_option maxRecDepth 100000 in
set_option maxHeartbeats 1000000 in
theorem refuse10 (s : ByteArray) (hs : s.size ≤ 1048576) (B b g b0 e0 : Nat) (cur : List Value) (w : World) (he : w.cell? ⟨e0, 0, none⟩ = some (.string s))
    (hw : w.heap[b]? = some (WB g b0 0)) (hbg : b ≠ g) (hg : w.heap[g]? = some (.cells cur.toArray 5 (0, 0))) (hcur : cur.length = 4096)
    (hb0 : w.heap[b0]? = some (.cells #[.slice none 0 0, .int .i64 0, .int .i8 0] 31 (0, 0))) (hB0 : B ≤ b0) (hBb : B ≤ b) (hBg : B ≤ g) (hbb : b ≠ b0) (hgb : g ≠ b0) :
    Calls Tryf.prog 10 #[.pointer (some ⟨b, 0, none⟩), .iface 47 (.pointer (some ⟨e0, 0, none⟩))] w fun e w' => e = .returned (.tuple #[]) ∧ Lib.IsBuffer 31 5 B b0 (sent s) w' ∧ Below B w w' := by
  have hm := meth46 e0
  have hs' : (s.size : Int) ≤ 1048576 := by omega
  obtain ⟨m, hmm⟩ : ∃ m : Nat, m = min s.size 1024 := ⟨_, rfl⟩
  have hmin : min (s.size : Int) 1024 = (m : Int) := by omega
  have hm0 : (m : Int) ≤ s.size := by omega
  obtain ⟨cap, C, mk, hcv, hC, hcap⟩ := conv_bytes s w
  have hcap' : (s.size : Int) ≤ (cap : Int) := by omega
  have lb := lt_of_heap hw
  have lg := lt_of_heap hg
  have l0 := lt_of_heap hb0
  have hlen : (bcells (s.data.toList.take 1024)).length = m := by
    have : s.size = s.data.toList.length := by simp
    simp only [bcells, List.length_map, List.length_take]
    omega
  obtain ⟨W, hW⟩ : ∃ W, W = ((w.alloc (.cells C 5 mk)).alloc (.cells #[.slice (some ⟨w.heap.size, 0, none⟩) m cap] 23)).drew := ⟨_, rfl⟩
  have hsz : W.heap.size = w.heap.size + 2 := by rw [hW]; simp
  have hWo : ∀ k, k < w.heap.size → W.heap[k]? = w.heap[k]? := fun k hk => by
    rw [hW]
    exact (Below.heap_alloc (w.alloc (.cells C 5 mk)) _ k (by simp; omega)).trans (Below.heap_alloc w _ k hk)
  have hWs : W.heap[w.heap.size]? = some (.cells C 5 mk) := by
    rw [hW]
    exact (Below.heap_alloc (w.alloc (.cells C 5 mk)) _ _ (by simp)).trans (heap_alloc_new w _)
  have hWp : W.heap[w.heap.size + 1]? = some (.cells #[.slice (some ⟨w.heap.size, 0, none⟩) m cap] 23 (0, 0)) := by
    rw [hW]
    have := heap_alloc_new (w.alloc (.cells C 5 mk)) (.cells #[.slice (some ⟨w.heap.size, 0, none⟩) m cap] 23)
    rw [show (w.alloc (.cells C 5 mk)).heap.size = w.heap.size + 1 by simp] at this
    exact this
  have HF : Hid (Calls Tryf.prog 14 #[.pointer (some ⟨b, 0, none⟩), .int .u8 69, .slice (some ⟨w.heap.size + 1, 0, none⟩) 1 1] W fun e w' => e = .returned .nilIface ∧
      (Calls Tryf.prog 15 #[.pointer (some ⟨b, 0, none⟩)] w' fun e w'' => e = .returned .nilIface ∧ Lib.IsBuffer 31 5 B b0 (sent s) w'' ∧ Below B w w'')) := by
    refine (frame14 b g b0 (w.heap.size + 1) cur (bcells (s.data.toList.take 1024)) ⟨w.heap.size, 0, none⟩ m cap W ((hWo b lb).trans hw) hbg ((hWo g lg).trans hg) hcur (by unfold World.cell?; rw [hWp]; rfl)
      (by omega) (by omega) (by omega) hlen (by simp; omega) (by simp; omega) (fun j v hj => ?_) (bcells_one _) (by simp; omega) (by omega)).mono ?_
    · have e : (⟨w.heap.size, 0, none⟩ : Addr).add j = ⟨w.heap.size, j, none⟩ := by unfold Addr.add; split <;> simp_all
      rw [e]
      have hj' : (bcells s.data.toList)[j]? = some v := by
        simp only [bcells, List.map_take, List.getElem?_take] at hj ⊢
        split at hj
        · exact hj
        · cases hj
      have := hC j v hj'
      unfold World.cell?
      rw [hWs]
      exact this
    · rintro e w1 ⟨rfl, hw1, hg1, hu1⟩
      refine ⟨rfl, ?_⟩
      have hb1 : w1.heap[b0]? = some (.cells #[.slice none 0 0, .int .i64 0, .int .i8 0] 31 (0, 0)) := hu1.heap ((hWo b0 l0).trans hb0) (by simp [hbb.symm, hgb.symm])
      have hBel : Below B w w1 := by
        have h1 : Below B w W := by
          rw [hW]
          exact (((Below.refl B w).alloc (by omega) _).alloc (by simp; omega) _).drew
        exact h1.trans (hu1.below (by omega) (fun k hk => by rcases hk with rfl | rfl <;> omega))
      have hlen2 : (sent s).length = 4 + m := by simp [sent, hdrC, hlen]; omega
      refine (flush15 B b g b0 (4 + m) (sent s) w1 hw1 (by omega) (by omega) (by have := hBel.size; omega) (buf_of_nil hB0 hb1) hlen2 hgb hBb hbb (fun j v hj => ?_) ?_).mono ?_
      · unfold World.cell?
        rw [hg1]
        show (spl (spl cur 0 (hdrC m)) 4 (bcells (s.data.toList.take 1024))).toArray[j]? = some v
        rw [spl_spl, hmm]
        rw [List.getElem?_toArray]
        show (sent s ++ List.drop (bcells (List.take 1024 s.data.toList)).length (List.drop 4 cur))[j]? = some v
        rw [List.getElem?_append_left ((List.getElem?_eq_some_iff.1 hj).1)]
        exact hj
      · intro v hv
        simp only [sent, List.mem_append] at hv
        rcases hv with hv | hv
        · exact hdrC_one _ v hv
        · exact bcells_one _ v hv
      · rintro e w2 ⟨rfl, hi, hb⟩
        exact ⟨rfl, hi, hBel.trans hb⟩
  rw [hW] at HF
  clear hC hWo hWs hWp hsz hW hlen hw hg hb0 hcur hmm
  go_enter Tryf.func10, Tryf.ntmps10
  go_wp2_with fail
  go_in
  go_wp2_with fail
  refine (Hid.out HF).mono ?_
  rintro e w1 ⟨rfl, h15⟩
  have HG : Hid (Calls Tryf.prog 15 #[.pointer (some ⟨b, 0, none⟩)] w1 fun e w'' => e = .returned .nilIface ∧ Lib.IsBuffer 31 5 B b0 (sent s) w'' ∧ Below B w w'') := h15
  clear h15 HF
  go_wp2_with fail
  refine (Hid.out HG).mono ?_
  rintro e w2 ⟨rfl, hi, hb⟩
  have HR : Hid (Lib.IsBuffer 31 5 B b0 (sent s) w2 ∧ Below B w w2) := ⟨hi, hb⟩
  clear hi hb HG
  go_wp2
  go_end0
  exact ⟨rfl, HR.out⟩
end Go.Proofs.Qxb6613412aFmt

import Derived.Test.Qxb6613447aNames
import Derived.Deep.QuietTactic
import Derived.BigQuiet
namespace Go.Proofs.Qxb6613447a
open Go.RowKit
theorem IsSchema.mono {w w' : World} {ao : Option Addr} {len b off : Nat} {nm : Nat → ByteArray} {rq : Nat → Bool} (h : IsSchema w ao len b off nm rq) (hb : Below w.heap.size w w') : IsSchema w' ao len b off nm rq :=
  ⟨h.at_, fun h0 => Nat.lt_of_lt_of_le (h.lt h0) hb.size, fun i hi => (hb.cell (p := ⟨b, off + i * 2, none⟩) (h.lt (by omega))).trans (h.name i hi), fun i hi => (hb.cell (p := ⟨b, off + i * 2 + 1, none⟩) (h.lt (by omega))).trans (h.flag i hi), h.size⟩

/-- The names and flags of the longer schema. -/
def nmI (nm : Nat → ByteArray) (k : Nat) (name : ByteArray) (j : Nat) : ByteArray := if j < k then nm j else if j = k then name else nm (j - 1)
def rqI (rq : Nat → Bool) (k : Nat) (req : Bool) (j : Nat) : Bool := if j < k then rq j else if j = k then req else rq (j - 1)
/-- Block G (the call's first new one) holds n elements of two cells, of which the first c are as told. -/
structure Ib (w : World) (G n : Nat) (nm : Nat → ByteArray) (rq : Nat → Bool) (c : Nat) (wr : World) : Prop where
  below : Below w.heap.size w wr
  gw : w.heap.size = G
  row : ∃ C : Array Value, wr.heap[G]? = some (.cells C 26 (0, 0)) ∧ C.size = n * 2 ∧ ∀ j, j < c → C[j * 2]? = some (.string (nm j)) ∧ C[j * 2 + 1]? = some (.bool (rq j))
theorem Ib.cells {w : World} {G n : Nat} {nm : Nat → ByteArray} {rq : Nat → Bool} {k : Nat} {wr : World} (h : Ib w G n nm rq k wr) (o : Nat) (ho : o < n * 2) : ∃ v0, wr.cell? ⟨G, o, none⟩ = some v0 := by
  obtain ⟨C, hC, hs, -⟩ := h.row
  unfold World.cell?
  rw [hC]
  have ho' : o < C.size := by omega
  exact ⟨C[o], Array.getElem?_eq_getElem ho'⟩
theorem Ib.reads {w : World} {G n : Nat} {nm : Nat → ByteArray} {rq : Nat → Bool} {k : Nat} {wr : World} (h : Ib w G n nm rq k wr) : ∀ j, j < k → wr.cell? ⟨G, j * 2, none⟩ = some (.string (nm j)) ∧ wr.cell? ⟨G, j * 2 + 1, none⟩ = some (.bool (rq j)) := by
  obtain ⟨C, hC, hs, hn⟩ := h.row
  intro j hj
  unfold World.cell?
  rw [hC]
  exact hn j hj
theorem Ib.free {w : World} {G n : Nat} {nm : Nat → ByteArray} {rq : Nat → Bool} {k : Nat} {wr : World} (h : Ib w G n nm rq k wr) (o : Nat) : wr.frozen? ⟨G, o, none⟩ = false := by
  obtain ⟨C, hC, -⟩ := h.row
  unfold World.frozen?
  rw [hC]
  simp
theorem Ib.lt {w : World} {G n : Nat} {nm : Nat → ByteArray} {rq : Nat → Bool} {k : Nat} {wr : World} (h : Ib w G n nm rq k wr) : G < wr.heap.size := by
  obtain ⟨C, hC, -⟩ := h.row
  exact (Array.getElem?_eq_some_iff.1 hC).1
theorem Ib.start (w : World) (n : Nat) (nm : Nat → ByteArray) (rq : Nat → Bool) : Ib w w.heap.size n nm rq 0 (w.alloc (.cells (Z26 n) 26)) :=
  ⟨(Below.refl _ _).alloc (Nat.le_refl _) _, rfl, Z26 n, heap_alloc_new w _, size_madeCells _ _, fun j hj => by omega⟩
theorem Ib.step {w : World} {G n : Nat} {nm : Nat → ByteArray} {rq : Nat → Bool} {k : Nat} {wr : World} (h : Ib w G n nm rq k wr) (hk : k < n) (s : ByteArray) (r : Bool) (es : nm k = s) (er : rq k = r) :
    Ib w G n nm rq (k + 1) ((wr.setCell ⟨G, k * 2, none⟩ (.string s)).setCell ⟨G, k * 2 + 1, none⟩ (.bool r)) := by
  subst es
  subst er
  obtain ⟨C, hC, hs, hj⟩ := h.row
  have hlt := h.lt
  have h1 := row_setCell hC (k * 2) (.string (nm k))
  have h2 := row_setCell h1 (k * 2 + 1) (.bool (rq k))
  have hG := h.gw
  have hsz := h.below.size
  refine ⟨(h.below.setCell (p := ⟨G, k * 2, none⟩) (by simp; omega) _).setCell (p := ⟨G, k * 2 + 1, none⟩) (by simp; omega) _, hG, _, h2, by simp [hs], fun j hjk => ?_⟩
  simp only [Array.getElem?_setIfInBounds, Array.size_setIfInBounds]
  by_cases e : j = k
  · subst e
    refine ⟨?_, ?_⟩
    · rw [if_neg (by omega), if_pos rfl, if_pos (by omega)]
    · rw [if_pos rfl, if_pos (by omega)]
  · obtain ⟨a1, a2⟩ := hj j (by omega)
    refine ⟨?_, ?_⟩
    · rw [if_neg (by omega), if_neg (by omega)]; exact a1
    · rw [if_neg (by omega), if_neg (by omega)]; exact a2

theorem nmI_past (nm : Nat → ByteArray) (k : Nat) (name : ByteArray) (c : Nat) (h : k ≤ c) : nmI nm k name (c + 1) = nm c := by
  unfold nmI
  rw [if_neg (by omega), if_neg (by omega)]
  rfl
theorem rqI_past (rq : Nat → Bool) (k : Nat) (req : Bool) (c : Nat) (h : k ≤ c) : rqI rq k req (c + 1) = rq c := by
  unfold rqI
  rw [if_neg (by omega), if_neg (by omega)]
  rfl
theorem nmI_at (nm : Nat → ByteArray) (k : Nat) (name : ByteArray) : nmI nm k name k = name := by
  unfold nmI
  rw [if_neg (by omega), if_pos rfl]
theorem nmI_below (nm : Nat → ByteArray) (k : Nat) (name : ByteArray) (j : Nat) (h : j < k) : nmI nm k name j = nm j := by
  unfold nmI
  rw [if_pos h]
set_option maxRecDepth 100000 in
set_option maxHeartbeats 2000000 in
theorem law_main (ao : Option Addr) (len cap b off : Nat) (nm : Nat → ByteArray) (rq : Nat → Bool) (kk : Nat) (name : ByteArray) (req : Bool) (w : World) (h : IsSchema w ao len b off nm rq)
    (hlen : len ≤ 65536) (hkk : kk ≤ len) (hname : name.size ≤ 1048576) :
    Calls Try.prog 3 #[.slice ao len cap, .int .i64 kk, .string name, .bool req] w fun e w' => e = .returned (.bool true) ∧ Below w.heap.size w w' := by
  have l1 : (len : Int) ≤ 65536 := by omega
  have l1' : ¬ (65536 : Int) < (len : Int) := by omega
  have l2 : ¬ (1048576 : Int) < (name.size : Int) := by omega
  have l4 : (kk : Int) ≤ (len : Int) := by omega
  have l5 : ¬ (len : Int) < (kk : Int) := by omega
  have HH4 : Hid (Calls Try.prog 4 #[.slice ao len cap, .int .i64 kk, .string name, .bool req] w fun e w' => IsBoolR e ∧ w' = w) := zz4 ao len cap b off nm rq kk name req w h (by omega)
  have HH5 : Hid (Calls Try.prog 5 #[.int .i64 ((name.size : Int) + 24), .slice ao len cap] w fun e w' => IsIntR e ∧ w' = w) := add5 ao len cap b off nm rq _ w h hlen
  have hmk : (Instr.makeSlice 22 (.int .i64 ((len : Int) + 1)) (.int .i64 ((len : Int) + 1))).run Try.prog w = .ok (.slice (some ⟨w.heap.size, 0, none⟩) (len + 1) (len + 1)) (w.alloc (.cells (Z26 (len + 1)) 26)) := by
    have := mk22 (len + 1) (by omega) w
    rw [show (((len + 1 : Nat)) : Int) = (len : Int) + 1 from by omega] at this
    exact this
  go_enter Try.func3, Try.ntmps3
  go_wp2_with fail
  refine (Hid.out HH4).mono ?_
  rintro e w' ⟨⟨r, rfl⟩, rfl⟩
  clear HH4
  cases r
  · go_wp2
    go_ret
    exact ⟨rfl, Below.refl _ _⟩
  go_wp2_with fail
  refine (Hid.out HH5).mono ?_
  rintro e w1 ⟨⟨t, rfl⟩, rfl⟩
  clear HH5
  by_cases l3 : (1048576 : Int) < t
  · go_wp2
    go_ret
    exact ⟨rfl, Below.refl _ _⟩
  go_wp2
  go_loopw [11] (fun i wr => ∃ k : Nat, k ≤ kk ∧ i = .int .i64 k ∧ Ib w1 w1.heap.size (len + 1) (nmI nm kk name) (rqI rq kk req) k wr) (fun i _ => kk - (intOf i).toNat)
  case atStart => exact ⟨0, Nat.zero_le _, rfl, Ib.start w1 (len + 1) _ _⟩
  case round =>
    obtain ⟨k, hk, rfl, hbd⟩ := hrel
    by_cases hlt : k < kk
    · have hlt' : (k : Int) < (kk : Int) := by omega
      have hltl : (k : Int) < (len : Int) := by omega
      have e := h.at_ (by omega)
      subst e
      have hb0 : b < w1.heap.size := h.lt (by omega)
      have c0 : wr.cell? ⟨b, off + k * 2, none⟩ = some (.string (nm k)) := (hbd.below.cell (p := ⟨b, off + k * 2, none⟩) hb0).trans (h.name k (by omega))
      have c1 : wr.cell? ⟨b, off + k * 2 + 1, none⟩ = some (.bool (rq k)) := (hbd.below.cell (p := ⟨b, off + k * 2 + 1, none⟩) hb0).trans (h.flag k (by omega))
      obtain ⟨v0, g0⟩ := hbd.cells (k * 2) (by omega)
      obtain ⟨v1, g1⟩ := hbd.cells (k * 2 + 1) (by omega)
      have gf := hbd.free
      have HB : Hid (Ib w1 w1.heap.size (len + 1) (nmI nm kk name) (rqI rq kk req) k wr) := hbd
      clear hbd
      go_wp2
      go_roundw
      case rel => exact ⟨k + 1, by omega, by go_num, HB.out.step (by omega) _ _ (by simp [nmI, hlt]) (by simp [rqI, hlt])⟩
      case measure => simp [intOf]; omega
    · have hlt' : ¬ (k : Int) < (kk : Int) := by omega
      obtain rfl : k = kk := by omega
      obtain ⟨v0, g0⟩ := hbd.cells (k * 2) (by omega)
      obtain ⟨v1, g1⟩ := hbd.cells (k * 2 + 1) (by omega)
      have gf := hbd.free
      have HB : Hid (Ib w1 w1.heap.size (len + 1) (nmI nm k name) (rqI rq k req) k wr) := hbd
      clear hbd
      have l6 : (k : Int) < (len : Int) + 1 := by omega
      go_wp2
      have HI : Hid (Ib w1 w1.heap.size (len + 1) (nmI nm k name) (rqI rq k req) (k + 1) ((wr.setCell ⟨w1.heap.size, k * 2, none⟩ (.string name)).setCell ⟨w1.heap.size, k * 2 + 1, none⟩ (.bool req))) :=
        HB.out.step (by omega) _ _ (by simp [nmI]) (by simp [rqI])
      clear HB g0 g1 gf
      go_loopw [12] (fun i wr => ∃ c : Nat, k ≤ c ∧ c ≤ len ∧ i = .int .i64 c ∧ Ib w1 w1.heap.size (len + 1) (nmI nm k name) (rqI rq k req) (c + 1) wr) (fun i _ => len - (intOf i).toNat)
      case atStart => exact ⟨k, Nat.le_refl _, by omega, rfl, HI.out⟩
      case round =>
        clear HI
        obtain ⟨c, hck, hcl, rfl, hbd⟩ := hrel
        by_cases hlt : c < len
        · have hlt' : (c : Int) < (len : Int) := by omega
          have hltl : (c : Int) + 1 < (len : Int) + 1 := by omega
          have e := h.at_ (by omega)
          subst e
          have hb0 : b < w1.heap.size := h.lt (by omega)
          have c0 : wr.cell? ⟨b, off + c * 2, none⟩ = some (.string (nm c)) := (hbd.below.cell (p := ⟨b, off + c * 2, none⟩) hb0).trans (h.name c (by omega))
          have c1 : wr.cell? ⟨b, off + c * 2 + 1, none⟩ = some (.bool (rq c)) := (hbd.below.cell (p := ⟨b, off + c * 2 + 1, none⟩) hb0).trans (h.flag c (by omega))
          obtain ⟨v0, g0⟩ := hbd.cells ((c + 1) * 2) (by omega)
          obtain ⟨v1, g1⟩ := hbd.cells ((c + 1) * 2 + 1) (by omega)
          have gf := hbd.free
          have HB : Hid (Ib w1 w1.heap.size (len + 1) (nmI nm k name) (rqI rq k req) (c + 1) wr) := hbd
          clear hbd
          go_wp2
          go_roundw
          case rel => exact ⟨c + 1, by omega, by omega, by go_num, HB.out.step (by omega) _ _ (nmI_past nm k name c hck) (rqI_past rq k req c hck)⟩
          case measure => simp [intOf]; omega
        · have hlt' : ¬ (c : Int) < (len : Int) := by omega
          obtain rfl : len = c := by omega
          have hbel := hbd.below
          have hs1 : IsSchema wr ao len b off nm rq := h.mono hbel
          have H7 : Hid (Calls Try.prog 7 #[.slice ao len cap] wr fun e w' => e = .returned (.slice (some ⟨wr.heap.size, 0, none⟩) len len) ∧ Bd wr wr.heap.size len nm rq len w') := build7 ao len cap b off nm rq wr hs1 (by omega)
          have HB : Hid (Ib w1 w1.heap.size (len + 1) (nmI nm k name) (rqI rq k req) (len + 1) wr ∧ IsSchema wr ao len b off nm rq) := ⟨hbd, hs1⟩
          clear hbd hs1 hbel
          go_wp2_with fail
          refine (Hid.out H7).mono ?_
          rintro e w2 ⟨rfl, hd2⟩
          have H6 : Hid (Calls Try.prog 6 #[.slice (some ⟨wr.heap.size, 0, none⟩) len len] w2 fun e w' => e = .returned (.slice (some ⟨w2.heap.size, 0, none⟩) len len) ∧ Nb w2 w2.heap.size len nm len w') := names6 wr.heap.size len nm rq w2 hd2.lt (by omega) hd2.reads
          have HD2 : Hid (Below wr.heap.size wr w2) := hd2.below
          clear H7 hd2
          go_wp2_with fail
          refine (Hid.out H6).mono ?_
          rintro e w3 ⟨rfl, hn3⟩
          have hb3 : Below wr.heap.size wr w3 := HD2.out.trans (hn3.below.mono HD2.out.size)
          have hs3 : IsSchema w3 (some ⟨w1.heap.size, 0, none⟩) (len + 1) w1.heap.size 0 (nmI nm k name) (rqI rq k req) := by
            have hl := HB.out.1.lt
            refine ⟨fun _ => rfl, fun _ => Nat.lt_of_lt_of_le hl hb3.size, fun i hi => ?_, fun i hi => ?_, fun i hi => ?_⟩
            · rw [Nat.zero_add]; exact (hb3.cell (p := ⟨w1.heap.size, i * 2, none⟩) hl).trans (HB.out.1.reads i hi).1
            · rw [Nat.zero_add]; exact (hb3.cell (p := ⟨w1.heap.size, i * 2 + 1, none⟩) hl).trans (HB.out.1.reads i hi).2
            · unfold nmI
              split
              · exact h.size i (by omega)
              · split
                · omega
                · exact h.size (i - 1) (by omega)
          have H7b : Hid (Calls Try.prog 7 #[.slice (some ⟨w1.heap.size, 0, none⟩) (len + 1) (len + 1)] w3 fun e w' => e = .returned (.slice (some ⟨w3.heap.size, 0, none⟩) (len + 1) (len + 1)) ∧ Bd w3 w3.heap.size (len + 1) (nmI nm k name) (rqI rq k req) (len + 1) w') :=
            build7 (some ⟨w1.heap.size, 0, none⟩) (len + 1) (len + 1) w1.heap.size 0 (nmI nm k name) (rqI rq k req) w3 hs3 (by omega)
          have HN3 : Hid (Nb w2 w2.heap.size len nm len w3 ∧ Below wr.heap.size wr w3) := ⟨hn3, hb3⟩
          clear H6 hn3 hb3 hs3 HD2
          go_wp2_with fail
          refine (Hid.out H7b).mono ?_
          rintro e w4 ⟨rfl, hd4⟩
          have H6b : Hid (Calls Try.prog 6 #[.slice (some ⟨w3.heap.size, 0, none⟩) (len + 1) (len + 1)] w4 fun e w' => e = .returned (.slice (some ⟨w4.heap.size, 0, none⟩) (len + 1) (len + 1)) ∧ Nb w4 w4.heap.size (len + 1) (nmI nm k name) (len + 1) w') :=
            names6 w3.heap.size (len + 1) (nmI nm k name) (rqI rq k req) w4 hd4.lt (by omega) hd4.reads
          have HD4 : Hid (Below w3.heap.size w3 w4) := hd4.below
          clear H7b hd4
          go_wp2_with fail
          refine (Hid.out H6b).mono ?_
          rintro e w5 ⟨rfl, hn5⟩
          have hb35 : Below w3.heap.size w3 w5 := HD4.out.trans (hn5.below.mono HD4.out.size)
          have hb5 : Below wr.heap.size wr w5 := HN3.out.2.trans (hb35.mono HN3.out.2.size)
          have HC : Hid ((∀ i j, i < len → (w5.drewN j).cell? ⟨w2.heap.size, i, none⟩ = some (.string (nm i))) ∧ (∀ i j, i < len + 1 → (w5.drewN j).cell? ⟨w4.heap.size, i, none⟩ = some (.string (nmI nm k name i))) ∧
              (∀ i j, i < len → (w5.drewN j).cell? ⟨b, off + i * 2, none⟩ = some (.string (nm i)))) := by
            refine ⟨fun i j hi => ?_, fun i j hi => hn5.name i hi, fun i j hi => (HB.out.2.mono hb5).name i hi⟩
            exact (hb35.cell (p := ⟨w2.heap.size, i, none⟩) HN3.out.1.lt).trans (HN3.out.1.name i hi)
          have HF : Hid (Below w1.heap.size w1 w5) := HB.out.1.below.trans (hb5.mono HB.out.1.below.size)
          clear H6b HD4 HN3 hn5 hb35 hb5 HB
          have a0 : w5.cell? ⟨w4.heap.size, k, none⟩ = some (.string name) := by
            have := HC.out.2.1 k 0 (by omega)
            rw [nmI_at] at this
            exact this
          go_wp2
          clear a0
          go_loopw [15] (fun i wr => ∃ c j : Nat, c ≤ k ∧ i = .int .i64 c ∧ wr = w5.drewN j) (fun i _ => k - (intOf i).toNat)
          case atStart => exact ⟨0, 0, Nat.zero_le _, rfl, rfl⟩
          case round =>
            obtain ⟨c, j, hc, rfl, rfl⟩ := hrel
            by_cases hlt3 : c < k
            · have hlt3' : (c : Int) < (k : Int) := by omega
              have hlt3l : (c : Int) < (len : Int) := by omega
              have hlt3m : (c : Int) < (len : Int) + 1 := by omega
              have e := h.at_ (by omega)
              subst e
              have x1 : ∀ j, (w5.drewN j).cell? ⟨w2.heap.size, c, none⟩ = some (.string (nm c)) := fun j => HC.out.1 c j (by omega)
              have x2 : ∀ j, (w5.drewN j).cell? ⟨w4.heap.size, c, none⟩ = some (.string (nm c)) := fun j => (HC.out.2.1 c j (by omega)).trans (by rw [nmI_below nm k name c hlt3])
              have x3 : ∀ j, (w5.drewN j).cell? ⟨b, off + c * 2, none⟩ = some (.string (nm c)) := fun j => HC.out.2.2 c j (by omega)
              go_wp2
              go_quiet (fail)
              go_wp2
              go_roundw
              case rel => exact ⟨c + 1, j + nq, by omega, by go_num, rfl⟩
              case measure => simp [intOf]; omega
            · have hlt3' : ¬ (c : Int) < (k : Int) := by omega
              obtain rfl : k = c := by omega
              go_wp2
              go_loopw [16] (fun i wr => ∃ c j : Nat, k ≤ c ∧ c ≤ len ∧ i = .int .i64 c ∧ wr = w5.drewN j) (fun i _ => len - (intOf i).toNat)
              case atStart => exact ⟨k, j, Nat.le_refl _, by omega, rfl, rfl⟩
              case round =>
                obtain ⟨c, j, hc1, hc2, rfl, rfl⟩ := hrel
                by_cases hlt4 : c < len
                · have hlt4' : (c : Int) < (len : Int) := by omega
                  have hlt4m : (c : Int) + 1 < (len : Int) + 1 := by omega
                  have e := h.at_ (by omega)
                  subst e
                  have x1 : ∀ j, (w5.drewN j).cell? ⟨w2.heap.size, c, none⟩ = some (.string (nm c)) := fun j => HC.out.1 c j (by omega)
                  have x2 : ∀ j, (w5.drewN j).cell? ⟨w4.heap.size, c + 1, none⟩ = some (.string (nm c)) := fun j => (HC.out.2.1 (c + 1) j (by omega)).trans (by rw [nmI_past nm k name c hc1])
                  have x3 : ∀ j, (w5.drewN j).cell? ⟨b, off + c * 2, none⟩ = some (.string (nm c)) := fun j => HC.out.2.2 c j (by omega)
                  go_wp2
                  go_quiet (fail)
                  go_wp2
                  go_roundw
                  case rel => exact ⟨c + 1, j + nq, by omega, by omega, by go_num, rfl⟩
                  case measure => simp [intOf]; omega
                · have hlt4' : ¬ (c : Int) < (len : Int) := by omega
                  go_wp2
                  go_ret
                  exact ⟨rfl, HF.out.os, HF.out.tape, HF.out.output, HF.out.size, HF.out.block⟩

set_option maxRecDepth 100000 in
set_option maxHeartbeats 1000000 in
/-- The ways on which the law's own guards answer. -/
theorem law_out (ao : Option Addr) (len cap b off : Nat) (nm : Nat → ByteArray) (rq : Nat → Bool) (k : Int) (name : ByteArray) (req : Bool) (w : World) (h : IsSchema w ao len b off nm rq)
    (hlen : len ≤ 9223372036854775807) (hname : name.size ≤ 9223372036854775807) (hout : ¬ (len ≤ 65536 ∧ name.size ≤ 1048576 ∧ 0 ≤ k ∧ k ≤ len)) :
    Calls Try.prog 3 #[.slice ao len cap, .int .i64 k, .string name, .bool req] w fun e w' => e = .returned (.bool true) ∧ Below w.heap.size w w' := by
  have HH4 : Hid (Calls Try.prog 4 #[.slice ao len cap, .int .i64 k, .string name, .bool req] w fun e w' => IsBoolR e ∧ w' = w) := zz4 ao len cap b off nm rq k name req w h hlen
  by_cases o1 : len ≤ 65536
  · have o1' : ¬ (65536 : Int) < (len : Int) := by omega
    by_cases o2 : name.size ≤ 1048576
    · have o2' : ¬ (1048576 : Int) < (name.size : Int) := by omega
      have HH5 : Hid (Calls Try.prog 5 #[.int .i64 ((name.size : Int) + 24), .slice ao len cap] w fun e w' => IsIntR e ∧ w' = w) := add5 ao len cap b off nm rq _ w h o1
      by_cases o3 : k < 0
      · clear hout
        go_enter Try.func3, Try.ntmps3
        go_wp2_with fail
        refine (Hid.out HH4).mono ?_
        rintro e w' ⟨⟨r, rfl⟩, rfl⟩
        clear HH4
        cases r
        · go_wp2
          go_ret
          exact ⟨rfl, Below.refl _ _⟩
        go_wp2_with fail
        refine (Hid.out HH5).mono ?_
        rintro e w1 ⟨⟨t, rfl⟩, rfl⟩
        clear HH5
        by_cases l3 : (1048576 : Int) < t
        · go_wp2
          go_ret
          exact ⟨rfl, Below.refl _ _⟩
        go_wp2
        go_ret
        exact ⟨rfl, Below.refl _ _⟩
      · have o4 : (len : Int) < k := by omega
        clear hout
        go_enter Try.func3, Try.ntmps3
        go_wp2_with fail
        refine (Hid.out HH4).mono ?_
        rintro e w' ⟨⟨r, rfl⟩, rfl⟩
        clear HH4
        cases r
        · go_wp2
          go_ret
          exact ⟨rfl, Below.refl _ _⟩
        go_wp2_with fail
        refine (Hid.out HH5).mono ?_
        rintro e w1 ⟨⟨t, rfl⟩, rfl⟩
        clear HH5
        by_cases l3 : (1048576 : Int) < t
        · go_wp2
          go_ret
          exact ⟨rfl, Below.refl _ _⟩
        go_wp2
        go_ret
        exact ⟨rfl, Below.refl _ _⟩
    · have o2' : (1048576 : Int) < (name.size : Int) := by omega
      clear hout
      go_enter Try.func3, Try.ntmps3
      go_wp2_with fail
      refine (Hid.out HH4).mono ?_
      rintro e w' ⟨⟨r, rfl⟩, rfl⟩
      clear HH4
      cases r
      · go_wp2
        go_ret
        exact ⟨rfl, Below.refl _ _⟩
      go_wp2
      go_ret
      exact ⟨rfl, Below.refl _ _⟩
  · have o1' : (65536 : Int) < (len : Int) := by omega
    clear hout
    go_enter Try.func3, Try.ntmps3
    go_wp2_with fail
    refine (Hid.out HH4).mono ?_
    rintro e w' ⟨⟨r, rfl⟩, rfl⟩
    clear HH4
    cases r
    · go_wp2
      go_ret
      exact ⟨rfl, Below.refl _ _⟩
    go_wp2
    go_ret
    exact ⟨rfl, Below.refl _ _⟩

theorem law (ao : Option Addr) (len cap b off : Nat) (nm : Nat → ByteArray) (rq : Nat → Bool) (k : Int) (name : ByteArray) (req : Bool) (w : World) (h : IsSchema w ao len b off nm rq)
    (hlen : len ≤ 9223372036854775807) (hname : name.size ≤ 9223372036854775807) :
    Calls Try.prog 3 #[.slice ao len cap, .int .i64 k, .string name, .bool req] w fun e w' => e = .returned (.bool true) ∧ Below w.heap.size w w' := by
  by_cases hin : len ≤ 65536 ∧ name.size ≤ 1048576 ∧ 0 ≤ k ∧ k ≤ len
  · obtain ⟨h1, h2, h3, h4⟩ := hin
    obtain ⟨kk, rfl⟩ := Int.eq_ofNat_of_zero_le h3
    exact law_main ao len cap b off nm rq kk name req w h h1 (by omega) h2
  · exact law_out ao len cap b off nm rq k name req w h hlen hname hin
end Go.Proofs.Qxb6613447a

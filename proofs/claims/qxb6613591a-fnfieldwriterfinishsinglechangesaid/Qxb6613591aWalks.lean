import Derived.Test.Qxb6613591aFinish
namespace Go.Proofs.Qxb6613591a
open Go.RowKit

theorem Bytes.row {w : World} {g : Nat} {bs : List UInt8} (h : w.heap[g]? = some (.cells (bcells bs).toArray 5 (0, 0))) : Bytes w g 0 bs := fun j c hc => by
  unfold World.cell?
  rw [h, Nat.zero_add]
  show (bcells bs).toArray[j]? = _
  rw [List.getElem?_toArray, bcells, List.getElem?_map, hc]
  rfl
theorem heap3 (w : World) (a b c : Obj) : (((w.alloc a).alloc b).alloc c).heap[w.heap.size]? = some a ∧ (((w.alloc a).alloc b).alloc c).heap[w.heap.size + 1]? = some b ∧ (((w.alloc a).alloc b).alloc c).heap[w.heap.size + 1 + 1]? = some c := by
  show (((w.heap.push a).push b).push c)[w.heap.size]? = some a ∧ (((w.heap.push a).push b).push c)[w.heap.size + 1]? = some b ∧ (((w.heap.push a).push b).push c)[w.heap.size + 1 + 1]? = some c
  refine ⟨?_, ?_, ?_⟩
  · rw [Array.getElem?_push, if_neg (by simp; omega), Array.getElem?_push, if_neg (by simp), Array.getElem?_push, if_pos rfl]
  · rw [Array.getElem?_push, if_neg (by simp), Array.getElem?_push, if_pos (by simp)]
  · rw [Array.getElem?_push, if_pos (by simp)]

/-- The line with column kk changed. -/
def chg (bs : List UInt8) (kk : Nat) : List UInt8 := bs.set kk (UInt8.ofNat (bmp ((bs.getD kk 0).toNat : Int)).toNat)
theorem chg_length (bs : List UInt8) (kk : Nat) : (chg bs kk).length = bs.length := by simp [chg]
theorem bmp_toNat (c : Int) : ((UInt8.ofNat (bmp c).toNat).toNat : Int) = bmp c := by
  have := bmp_bd c
  rw [UInt8.toNat_ofNat']
  omega
theorem bcells_bmp (bs : List UInt8) (kk : Nat) (hk : kk < bs.length) (x : UInt8) (hx : x = bs[kk]) : bcells (chg bs kk) = (bcells bs).set kk (.int .u8 (bmp (x.toNat : Int))) := by
  have e : bs.getD kk 0 = x := by rw [hx, List.getD_eq_getElem?_getD, List.getElem?_eq_getElem hk]; rfl
  rw [chg, bcells_set, bmp_toNat, e]
/-- What is known behind each step. -/
structure P4 (w : World) (bs cs : List UInt8) (len : Nat) (w' : World) : Prop where
  r0 : w'.heap[w.heap.size]? = some (.cells (bcells bs).toArray 5 (0, 0))
  r1 : w'.heap[w.heap.size + 1]? = some (.cells (bcells bs).toArray 5 (0, 0))
  r2 : w'.heap[w.heap.size + 1 + 1]? = some (.cells (bcells cs).toArray 5 (0, 0))
  r3 : w'.heap[w.heap.size + 1 + 1 + 1]? = some (.cells #[.slice (some ⟨w.heap.size + 1, 0, none⟩) len len, .nilIface] 34 (0, 0))
  bel : Below w.heap.size w w'
structure P5 (w : World) (bs cs : List UInt8) (w' : World) : Prop where
  r0 : w'.heap[w.heap.size]? = some (.cells (bcells bs).toArray 5 (0, 0))
  r2 : w'.heap[w.heap.size + 1 + 1]? = some (.cells (bcells cs).toArray 5 (0, 0))
  bel : Below w.heap.size w w'
structure P6 (w : World) (bs cs : List UInt8) (len p : Nat) (w' : World) : Prop where
  r0 : w'.heap[w.heap.size]? = some (.cells (bcells bs).toArray 5 (0, 0))
  r2 : w'.heap[w.heap.size + 1 + 1]? = some (.cells (bcells cs).toArray 5 (0, 0))
  r3 : w'.heap[p]? = some (.cells #[.slice (some ⟨w.heap.size + 1 + 1, 0, none⟩) len len, .nilIface] 34 (0, 0))
  pp : p ≠ w.heap.size + 1 + 1
  bel : Below w.heap.size w w'
theorem step8a (w : World) (bs cs : List UInt8) (len : Nat) : Calls Try.prog 8 #[.slice (some ⟨w.heap.size + 1, 0, none⟩) len len] (((w.alloc (.cells (bcells bs).toArray 5)).alloc (.cells (bcells bs).toArray 5)).alloc (.cells (bcells cs).toArray 5))
      fun e w' => e = .returned (.pointer (some ⟨w.heap.size + 1 + 1 + 1, 0, none⟩)) ∧ P4 w bs cs len w' := by
  obtain ⟨W, hW⟩ : ∃ W, W = ((w.alloc (.cells (bcells bs).toArray 5)).alloc (.cells (bcells bs).toArray 5)).alloc (.cells (bcells cs).toArray 5) := ⟨_, rfl⟩
  have hs : W.heap.size = w.heap.size + 1 + 1 + 1 := by rw [hW]; simp
  have h3 := heap3 w (.cells (bcells bs).toArray 5) (.cells (bcells bs).toArray 5) (.cells (bcells cs).toArray 5)
  have hb : Below w.heap.size w W := by rw [hW]; exact (((Below.refl _ w).alloc (Nat.le_refl _) _).alloc (by simp) _).alloc (by simp; omega) _
  rw [← hW] at h3 ⊢
  refine (new8 _ (some ⟨w.heap.size + 1, 0, none⟩) len len rfl W).mono ?_
  rintro e w' ⟨rfl, rfl⟩
  rw [hs]
  refine ⟨rfl, ⟨(Below.heap_alloc _ _ _ (by omega)).trans h3.1, (Below.heap_alloc _ _ _ (by omega)).trans h3.2.1, (Below.heap_alloc _ _ _ (by omega)).trans h3.2.2, ?_, hb.alloc (by omega) _⟩⟩
  have := heap_alloc_new W (.cells #[.slice (some ⟨w.heap.size + 1, 0, none⟩) len len, .nilIface] 34)
  rw [hs] at this
  exact this
theorem step7a (w : World) (bs cs : List UInt8) (len : Nat) (hlen : bs.length = len) (h69 : 69 ≤ len) (hl : len ≤ 65536) (w4 : World) (h : P4 w bs cs len w4) :
    Calls Try.prog 7 #[.pointer (some ⟨w.heap.size + 1 + 1 + 1, 0, none⟩)] w4 fun e w' => ∃ s : ByteArray, e = .returned (.tuple #[.string s, .nilIface]) ∧ s.data.toList = fin bs ∧ P5 w bs cs w' := by
  refine (fin7 _ _ bs len hlen w4 h.r3 h.r1 (by omega) h69 hl).mono ?_
  rintro e w5 ⟨rfl, hu⟩
  exact ⟨_, rfl, by simp, ⟨hu.heap h.r0 (by omega), hu.heap h.r2 (by omega), h.bel.trans (hu.below h.bel.size (fun k hk => by omega))⟩⟩
theorem step8b (w : World) (bs cs : List UInt8) (len : Nat) (w5 : World) (h : P5 w bs cs w5) :
    Calls Try.prog 8 #[.slice (some ⟨w.heap.size + 1 + 1, 0, none⟩) len len] w5 fun e w' => e = .returned (.pointer (some ⟨w5.heap.size, 0, none⟩)) ∧ P6 w bs cs len w5.heap.size w' := by
  have l0 := lt_of_heap h.r0
  have l2 := lt_of_heap h.r2
  refine (new8 _ (some ⟨w.heap.size + 1 + 1, 0, none⟩) len len rfl w5).mono ?_
  rintro e w' ⟨rfl, rfl⟩
  exact ⟨rfl, ⟨(Below.heap_alloc _ _ _ l0).trans h.r0, (Below.heap_alloc _ _ _ l2).trans h.r2, heap_alloc_new w5 _, by omega, h.bel.alloc (by omega) _⟩⟩
theorem step7b (w : World) (bs cs : List UInt8) (len : Nat) (hlen : cs.length = len) (h69 : 69 ≤ len) (hl : len ≤ 65536) (p : Nat) (w6 : World) (h : P6 w bs cs len p w6) :
    Calls Try.prog 7 #[.pointer (some ⟨p, 0, none⟩)] w6 fun e w' => ∃ s : ByteArray, e = .returned (.tuple #[.string s, .nilIface]) ∧ s.data.toList = fin cs ∧ w'.heap[w.heap.size]? = some (.cells (bcells bs).toArray 5 (0, 0)) ∧ Below w.heap.size w w' := by
  refine (fin7 _ _ cs len hlen w6 h.r3 h.r2 h.pp h69 hl).mono ?_
  rintro e w7 ⟨rfl, hu⟩
  exact ⟨_, rfl, by simp, hu.heap h.r0 (by omega), h.bel.trans (hu.below h.bel.size (fun k hk => by omega))⟩

/-- What the two finished lines are, against the line. -/
structure Ends (bs : List UInt8) (len kk : Nat) (sa sb : ByteArray) : Prop where
  sza : sa.size = len
  szb : sb.size = len
  e1 : ∀ i (h : i < sa.size), i ≠ 68 → (bcells bs)[i]? = some (.int .u8 (sa[i].toNat : Int))
  e2 : ∀ i (h : i < sa.size) (h' : i < sb.size), i ≠ 68 → i ≠ kk → (sb[i].toNat : Int) = (sa[i].toNat : Int)
  e3 : ∀ (h : kk < sa.size) (h' : kk < sb.size), (sb[kk].toNat : Int) = bmp (sa[kk].toNat : Int)
  e4 : ∀ (h : 68 < sa.size) (h' : 68 < sb.size), ∃ T : Int, 0 ≤ T ∧ T ≤ 9 ∧ (sa[68].toNat : Int) = 48 + T ∧ (sb[68].toNat : Int) = 48 + (T + 1) % 10
theorem ret_bool {a : Bool} (h : a = true) : Ending.returned (.bool a) = .returned (.bool true) := by rw [h]
theorem str_at (s : ByteArray) (l : List UInt8) (h : s.data.toList = l) (i : Nat) (hi : i < s.size) : l[i]? = some s[i] := by
  subst h
  rw [List.getElem?_eq_getElem (by simpa using hi)]
  rfl
theorem tot_set (l : List UInt8) (k : Nat) (hk : k < l.length) (c : UInt8) : tot (l.set k c) = tot l - wgt (l[k].toNat : Int) + wgt (c.toNat : Int) := by
  induction l generalizing k with
  | nil => simp at hk
  | cons a l ih =>
    cases k with
    | zero => simp [tot]; omega
    | succ k =>
      have := ih k (by simpa using hk)
      simp only [List.set_cons_succ, List.getElem_cons_succ]
      simp only [tot, List.map_cons, List.sum_cons] at this ⊢
      omega
theorem tot_chg (bs : List UInt8) (kk : Nat) (hk : kk < 68) (hl : 69 ≤ bs.length) : tot ((chg bs kk).take 68) % 10 = (tot (bs.take 68) % 10 + 1) % 10 := by
  have hkb : kk < bs.length := by omega
  have hkt : kk < (bs.take 68).length := by rw [List.length_take]; omega
  have e : (chg bs kk).take 68 = (bs.take 68).set kk (UInt8.ofNat (bmp (bs[kk].toNat : Int)).toNat) := by
    rw [chg, List.take_set, List.getD_eq_getElem?_getD, List.getElem?_eq_getElem hkb]
    rfl
  rw [e, tot_set _ _ hkt, bmp_toNat, List.getElem_take]
  have := wgt_bmp (bs[kk].toNat : Int)
  omega
theorem fin_other (bs : List UInt8) (i : Nat) (h : i ≠ 68) : (fin bs)[i]? = bs[i]? := by
  unfold fin
  rw [List.getElem?_set_ne (by omega)]
theorem fin_at (bs : List UInt8) (h : 69 ≤ bs.length) : (fin bs)[68]? = some (dgt bs) := by
  unfold fin
  rw [List.getElem?_set_self (by omega)]
theorem ends_of (bs : List UInt8) (len kk : Nat) (sa sb : ByteArray) (hlen : bs.length = len) (hk : kk < 68) (h69 : 69 ≤ len) (ha : sa.data.toList = fin bs) (hb : sb.data.toList = fin (chg bs kk)) : Ends bs len kk sa sb := by
  have za : sa.size = len := by
    have : sa.size = sa.data.toList.length := by simp
    rw [this, ha, fin_length, hlen]
  have zb : sb.size = len := by
    have : sb.size = sb.data.toList.length := by simp
    rw [this, hb, fin_length, chg_length, hlen]
  refine ⟨za, zb, fun i h hi => ?_, fun i h h' hi hj => ?_, fun h h' => ?_, fun h h' => ?_⟩
  · have := str_at sa _ ha i h
    rw [fin_other _ _ hi] at this
    rw [bcells, List.getElem?_map, this]
    rfl
  · have q1 := str_at sa _ ha i h
    have q2 := str_at sb _ hb i h'
    rw [fin_other _ _ hi] at q1 q2
    rw [chg, List.getElem?_set_ne (by omega), q1] at q2
    rw [Option.some.inj q2]
  · have q1 := str_at sa _ ha kk h
    have q2 := str_at sb _ hb kk h'
    rw [fin_other _ _ (by omega)] at q1 q2
    rw [chg, List.getElem?_set_self (by omega), List.getD_eq_getElem?_getD, q1] at q2
    rw [← Option.some.inj q2, bmp_toNat]
    rfl
  · have q1 := str_at sa _ ha 68 h
    have q2 := str_at sb _ hb 68 h'
    rw [fin_at _ (by omega)] at q1
    rw [fin_at _ (by rw [chg_length]; omega)] at q2
    have h1 := dgt_toNat bs
    have h2 := dgt_toNat (chg bs kk)
    have h3 := tot_chg bs kk hk (by omega)
    rw [Option.some.inj q1] at h1
    rw [Option.some.inj q2] at h2
    exact ⟨tot (bs.take 68) % 10, by omega, by omega, h1, by rw [h2, h3]⟩

set_option maxRecDepth 100000 in
set_option maxHeartbeats 2000000 in
theorem law_in (b off cap : Nat) (bs : List UInt8) (len kk : Nat) (hlen : bs.length = len) (w : World) (h : Bytes w b off bs) (hb : b < w.heap.size) (hl : len ≤ 65536) (h69 : 69 ≤ len) (hk : kk < 68) :
    Calls Try.prog 3 #[.slice (some ⟨b, off, none⟩) len cap, .int .i64 kk] w fun e w' => e = .returned (.bool true) ∧ Below w.heap.size w w' := by
  have i1 : (len : Int) ≤ 65536 := by omega
  have i2 : (69 : Int) ≤ (len : Int) := by omega
  have i3 : (kk : Int) < 68 := by omega
  have i4 : (kk : Int) < (len : Int) := by omega
  have H4 : Hid (∀ w, Calls Try.prog 4 #[.slice (some ⟨b, off, none⟩) len cap, .int .i64 kk] w fun e w' => e = .returned (.bool true) ∧ w = w') := fun w => by
    have := zz4 (some ⟨b, off, none⟩) len cap kk w (by omega)
    rw [decide_eq_true (by omega)] at this
    exact this.mono fun e w' hh => ⟨hh.1, hh.2.symm⟩
  have z1 : ∀ O, (w.alloc O).heap.size = w.heap.size + 1 := fun O => by simp
  have z2 : ∀ O O', ((w.alloc O).alloc O').heap.size = w.heap.size + 1 + 1 := fun O O' => by simp
  have H5a : Hid (Calls Try.prog 5 #[.slice (some ⟨b, off, none⟩) len cap] w fun e w' => e = .returned (.slice (some ⟨w.heap.size, 0, none⟩) len len) ∧ w' = w.alloc (.cells (bcells bs).toArray 5)) := clone5 b off cap bs len hlen w h hb hl
  have H5b : Hid (Calls Try.prog 5 #[.slice (some ⟨w.heap.size, 0, none⟩) len len] (w.alloc (.cells (bcells bs).toArray 5)) fun e w' => e = .returned (.slice (some ⟨w.heap.size + 1, 0, none⟩) len len) ∧ w' = (w.alloc (.cells (bcells bs).toArray 5)).alloc (.cells (bcells bs).toArray 5)) := by
    have := clone5 w.heap.size 0 len bs len hlen (w.alloc (.cells (bcells bs).toArray 5)) (Bytes.row (heap_alloc_new w _)) (by rw [z1]; omega) hl
    rw [z1] at this
    exact this
  have H5c : Hid (Calls Try.prog 5 #[.slice (some ⟨w.heap.size, 0, none⟩) len len] ((w.alloc (.cells (bcells bs).toArray 5)).alloc (.cells (bcells bs).toArray 5)) fun e w' => e = .returned (.slice (some ⟨w.heap.size + 1 + 1, 0, none⟩) len len) ∧ w' = ((w.alloc (.cells (bcells bs).toArray 5)).alloc (.cells (bcells bs).toArray 5)).alloc (.cells (bcells bs).toArray 5)) := by
    have := clone5 w.heap.size 0 len bs len hlen ((w.alloc (.cells (bcells bs).toArray 5)).alloc (.cells (bcells bs).toArray 5)) (Bytes.row ((Below.heap_alloc _ _ _ (by rw [z1]; omega)).trans (heap_alloc_new w _))) (by rw [z2]; omega) hl
    rw [z2] at this
    exact this
  clear z1 z2
  have hkl : kk < bs.length := by omega
  obtain ⟨x, hx⟩ : ∃ x, x = bs[kk] := ⟨_, rfl⟩
  have hx0 : (x.toNat : Int) ≤ 255 := by have := x.toNat_lt; omega
  have H6 : Hid (∀ w, Calls Try.prog 6 #[.int .u8 (x.toNat : Int)] w fun e w' => e = .returned (.int .u8 (bmp (x.toNat : Int))) ∧ w = w') := fun w =>
    (bump6 _ (by omega) hx0 w).mono fun e w' hh => ⟨hh.1, hh.2.symm⟩
  have q0 : (bcells bs)[kk]? = some (.int .u8 (x.toNat : Int)) := by
    rw [bcells, List.getElem?_map, List.getElem?_eq_getElem hkl, hx]
    rfl
  have HQ : Hid (x = bs[kk]) := hx
  clear hx
  have HB : Hid (Bytes w b off bs) := h
  clear h
  go_enter Try.func3, Try.ntmps3
  go_wp2_with fail
  refine (Hid.out H4 _).mono ?_
  rintro e w' ⟨rfl, rfl⟩
  clear H4
  go_wp2_with fail
  refine (Hid.out H5a).mono ?_
  rintro e w1 ⟨rfl, rfl⟩
  clear H5a
  go_wp2_with fail
  refine (Hid.out H5b).mono ?_
  rintro e w1 ⟨rfl, rfl⟩
  clear H5b
  go_wp2_with fail
  refine (Hid.out H5c).mono ?_
  rintro e w1 ⟨rfl, rfl⟩
  clear H5c
  have r0 : (((w.alloc (.cells (bcells bs).toArray 5)).alloc (.cells (bcells bs).toArray 5)).alloc (.cells (bcells bs).toArray 5)).cell? ⟨w.heap.size, kk, none⟩ = some (.int .u8 (x.toNat : Int)) := by
    unfold World.cell?
    rw [(heap3 w _ _ _).1]
    show (bcells bs).toArray[kk]? = _
    rw [List.getElem?_toArray]
    exact q0
  have H8a : Hid (Calls Try.prog 8 #[.slice (some ⟨w.heap.size + 1, 0, none⟩) len len] (((w.alloc (.cells (bcells bs).toArray 5)).alloc (.cells (bcells bs).toArray 5)).alloc (.cells ((bcells bs).set kk (.int .u8 (bmp (x.toNat : Int)))).toArray 5))
      fun e w' => e = .returned (.pointer (some ⟨w.heap.size + 1 + 1 + 1, 0, none⟩)) ∧ P4 w (bs) (chg bs kk) len w') := by
    rw [← bcells_bmp bs kk hkl x HQ.out]
    exact step8a w bs (chg bs kk) len
  go_wp2_with (first | (go_at_call 6; refine (Hid.out H6 _).mono ?_; rintro e w1 ⟨rfl, rfl⟩))
  refine (Hid.out H8a).mono ?_
  rintro e w4 ⟨rfl, hp4⟩
  have H7a : Hid (Calls Try.prog 7 #[.pointer (some ⟨w.heap.size + 1 + 1 + 1, 0, none⟩)] w4 fun e w' => ∃ s : ByteArray, e = .returned (.tuple #[.string s, .nilIface]) ∧ s.data.toList = fin bs ∧ P5 w bs (chg bs kk) w') := step7a w bs (chg bs kk) len hlen h69 hl w4 hp4
  clear hp4 H8a r0 H6
  go_wp2_with fail
  refine (Hid.out H7a).mono ?_
  rintro e w5 ⟨sa, rfl, hsa, hp5⟩
  have HSA : Hid (sa.data.toList = fin bs) := hsa
  clear hsa
  have H8b : Hid (Calls Try.prog 8 #[.slice (some ⟨w.heap.size + 1 + 1, 0, none⟩) len len] w5 fun e w' => e = .returned (.pointer (some ⟨w5.heap.size, 0, none⟩)) ∧ P6 w bs (chg bs kk) len w5.heap.size w') := step8b w bs (chg bs kk) len w5 hp5
  clear hp5 H7a
  go_wp2_with fail
  refine (Hid.out H8b).mono ?_
  rintro e w6 ⟨rfl, hp6⟩
  have H7b : Hid (Calls Try.prog 7 #[.pointer (some ⟨w5.heap.size, 0, none⟩)] w6 fun e w' => ∃ s : ByteArray, e = .returned (.tuple #[.string s, .nilIface]) ∧ s.data.toList = fin (chg bs kk) ∧ w'.heap[w.heap.size]? = some (.cells (bcells bs).toArray 5 (0, 0)) ∧ Below w.heap.size w w') :=
    step7b w bs (chg bs kk) len (by rw [chg_length]; exact hlen) h69 hl _ w6 hp6
  clear hp6 H8b
  go_wp2_with fail
  refine (Hid.out H7b).mono ?_
  rintro e w7 ⟨sb, rfl, hsb, hN, hBel⟩
  have HE : Hid (Ends bs len kk sa sb) := ends_of bs len kk sa sb hlen hk h69 HSA.out hsb
  have HF : Hid (w7.heap[w.heap.size]? = some (.cells (bcells bs).toArray 5 (0, 0)) ∧ Below w.heap.size w w7) := ⟨hN, hBel⟩
  clear hN hBel H7b q0 hx0 hsb HSA
  have za : ((sa.size : Int) != (len : Int)) = false := by have := HE.out.sza; simp; omega
  have zb : ((sb.size : Int) != (len : Int)) = false := by have := HE.out.szb; simp; omega
  have za' : (sa.size : Int) = (len : Int) := by have := HE.out.sza; omega
  have HZ : Hid ((sa.size : Int) = (len : Int)) := za'
  clear za'
  go_wp2
  go_loop [11] (fun i => ∃ k : Nat, k ≤ len ∧ i = .int .i64 k) (fun i => len - (intOf i).toNat)
  case atStart => exact ⟨0, Nat.zero_le _, rfl⟩
  case round =>
    obtain ⟨k, hkl2, rfl⟩ := hrel
    have szan := HE.out.sza
    have szbn := HE.out.szb
    by_cases hlt : k < len
    · have hlt' : (k : Int) < (len : Int) := by omega
      have hlta : k < sa.size := by omega
      have hltb : k < sb.size := by omega
      have hlta' : (k : Int) < (sa.size : Int) := by omega
      have hltb' : (k : Int) < (sb.size : Int) := by omega
      by_cases h68 : k = 68
      · have h68' : ((k : Int) == 68) = true := by simp; omega
        clear szan szbn
        go_wp2
        go_round
        case rel => exact ⟨k + 1, by omega, by go_num⟩
        case measure => simp [intOf]; omega
      · have h68' : ((k : Int) == 68) = false := by simp; omega
        have c0 : w7.cell? ⟨w.heap.size, k, none⟩ = some (.int .u8 (sa[k].toNat : Int)) := by
          unfold World.cell?
          rw [HF.out.1]
          show (bcells bs).toArray[k]? = _
          rw [List.getElem?_toArray]
          exact HE.out.e1 k hlta h68
        by_cases hkk : k = kk
        · subst hkk
          have hb3 := HE.out.e3 hlta hltb
          have hbv : (sa[k].toNat : Int) ≤ 255 := by have := sa[k].toNat_lt; omega
          have H6 : Hid (∀ w, Calls Try.prog 6 #[.int .u8 (sa[k].toNat : Int)] w fun e w' => e = .returned (.int .u8 (sb[k].toNat : Int)) ∧ w = w') := fun w => by
            rw [hb3]
            exact (bump6 _ (by omega) hbv w).mono fun e w' hh => ⟨hh.1, hh.2.symm⟩
          clear hb3 szan szbn hbv
          go_wp2_with (first | (go_at_call 6; refine (Hid.out H6 _).mono ?_; rintro e w1 ⟨rfl, rfl⟩))
          go_round
          case rel => exact ⟨k + 1, by omega, by go_num⟩
          case measure => simp [intOf]; omega
        · have hkk' : ((k : Int) == (kk : Int)) = false := by simp; omega
          have hb2 : ((sb[k].toNat : Int) != (sa[k].toNat : Int)) = false := by
            rw [HE.out.e2 k hlta hltb h68 hkk]
            simp
          clear szan szbn
          go_wp2
          go_round
          case rel => exact ⟨k + 1, by omega, by go_num⟩
          case measure => simp [intOf]; omega
    · have hlt' : ¬ (k : Int) < (len : Int) := by omega
      have h8a : 68 < sa.size := by omega
      have h8b : 68 < sb.size := by omega
      have h8a' : (68 : Int) < (sa.size : Int) := by omega
      have h8b' : (68 : Int) < (sb.size : Int) := by omega
      obtain ⟨T, t0, t9, ta, tb⟩ := HE.out.e4 h8a h8b
      have ca1 : 48 ≤ (sa[68].toNat : Int) := by omega
      have ca2 : (sa[68].toNat : Int) ≤ 57 := by omega
      have cb1 : 48 ≤ (sb[68].toNat : Int) := by omega
      have cb2 : (sb[68].toNat : Int) ≤ 57 := by omega
      have HT : Hid (((sa[68].toNat : Int) - 48 + 1) % 10 = (sb[68].toNat : Int) - 48) := by show _ = _; omega
      clear szan szbn ta tb
      go_wp2
      go_ret
      exact ⟨ret_bool (beq_iff_eq.2 HT.out), HF.out.2⟩

set_option maxRecDepth 100000 in
set_option maxHeartbeats 1000000 in
/-- The ways on which the law's own guards answer. -/
theorem law_out (ao : Option Addr) (len cap : Nat) (k : Int) (w : World) (hlen : len ≤ 9223372036854775807) (hout : ¬ (69 ≤ len ∧ len ≤ 65536 ∧ 0 ≤ k ∧ k < 68)) :
    Calls Try.prog 3 #[.slice ao len cap, .int .i64 k] w fun e w' => e = .returned (.bool true) ∧ Below w.heap.size w w' := by
  have hz := zz4 ao len cap k w hlen
  have hl0 : (len : Int) ≤ 9223372036854775807 := by omega
  generalize decide (len ≤ 1048576) = r at hz
  have H4 : Hid (Calls Try.prog 4 #[.slice ao len cap, .int .i64 k] w fun e w' => e = .returned (.bool r) ∧ w' = w) := hz
  clear hz hlen
  by_cases o1 : len ≤ 65536
  · have o1' : ¬ (65536 : Int) < (len : Int) := by omega
    by_cases o2 : 69 ≤ len
    · have o2' : ¬ (len : Int) < 69 := by omega
      by_cases o3 : k < 0
      · clear hout
        go_enter Try.func3, Try.ntmps3
        go_wp2_with fail
        refine (Hid.out H4).mono ?_
        rintro e w' ⟨rfl, rfl⟩
        cases r
        all_goals
          go_wp2
          go_ret
          exact ⟨rfl, Below.refl _ _⟩
      · have o4 : 68 ≤ k := by omega
        clear hout
        go_enter Try.func3, Try.ntmps3
        go_wp2_with fail
        refine (Hid.out H4).mono ?_
        rintro e w' ⟨rfl, rfl⟩
        cases r
        all_goals
          go_wp2
          go_ret
          exact ⟨rfl, Below.refl _ _⟩
    · have o2' : (len : Int) < 69 := by omega
      clear hout
      go_enter Try.func3, Try.ntmps3
      go_wp2_with fail
      refine (Hid.out H4).mono ?_
      rintro e w' ⟨rfl, rfl⟩
      cases r
      all_goals
        go_wp2
        go_ret
        exact ⟨rfl, Below.refl _ _⟩
  · have o1' : (65536 : Int) < (len : Int) := by omega
    clear hout
    go_enter Try.func3, Try.ntmps3
    go_wp2_with fail
    refine (Hid.out H4).mono ?_
    rintro e w' ⟨rfl, rfl⟩
    cases r
    all_goals
      go_wp2
      go_ret
      exact ⟨rfl, Below.refl _ _⟩
end Go.Proofs.Qxb6613591a

import Derived.Test.Qxb6613412aFmtIsref
namespace Go.Proofs.Qxb6613412aFmt
open Go.RowKit

/-- The reason that a refusal carries, as a string. -/
def cut (s : ByteArray) : ByteArray := ⟨(s.data.toList.take 1024).toArray⟩
theorem cut_data (s : ByteArray) : (cut s).data.toList = s.data.toList.take 1024 := by simp [cut]
theorem cut_size (s : ByteArray) : (cut s).size = min s.size 1024 := by
  have h1 : s.size = s.data.toList.length := by simp
  have h2 : (cut s).size = (cut s).data.toList.length := by simp
  rw [h2, cut_data, h1, List.length_take]
  omega
theorem sent_cut (s : ByteArray) : sent (cut s) = sent s := by
  unfold sent
  rw [cut_size, cut_data, List.take_take]
  simp [Nat.min_assoc]
theorem cut_small (s : ByteArray) (h : s.size ≤ 1024) : cut s = s := by
  have h1 : s.size = s.data.toList.length := by simp
  unfold cut
  rw [List.take_of_length_le (by omega)]
theorem extract_cut (s : ByteArray) : s.extract 0 1024 = cut s := by
  have e : (s.extract 0 1024).data = (cut s).data := by
    rw [ByteArray.data_extract]
    simp only [cut]
    apply Array.ext'
    rw [Array.toList_extract, List.extract_eq_take_drop]
    simp
  exact ByteArray.ext e
theorem want_cut (s : ByteArray) (m : Nat) (hm : m = min s.size 1024) : hdrC m ++ bcells (cut s).data.toList = sent s := by
  rw [cut_data, hm]; rfl
/-- string(a[4:]), where a holds a refusal. -/
theorem conv_tail (s : ByteArray) (m g c : Nat) (hm : m = min s.size 1024) (w : World) (h : ∀ j v, (sent s)[j]? = some v → w.cell? ⟨g, j, none⟩ = some v) :
    (convert 23 9 (.slice (some ⟨g, 4, none⟩) m c)).run Tryf.prog w = .ok (.string (cut s)) w := by
  have h1 : s.size = s.data.toList.length := by simp
  have hl : (s.data.toList.take 1024).length = m := by rw [List.length_take]; omega
  have := run_convert_bytes_back (P := Tryf.prog) w 23 9 5 ⟨g, 4, none⟩ c (s.data.toList.take 1024) Tryf.underlying23 Tryf.underlying5 Tryf.underlying9 (fun j hj => by
    rw [Lib.addr_add]
    refine h (4 + j) _ ?_
    unfold sent
    rw [List.getElem?_append_right (by simp [hdrC])]
    simp only [hdrC, List.length_cons, List.length_nil, bcells, List.getElem?_map]
    rw [show 4 + j - (0 + 1 + 1 + 1 + 1) = j by omega, List.getElem?_eq_getElem hj]
    rfl)
  rw [hl] at this
  exact this

theorem conv_none (s : ByteArray) (m c : Nat) (ad : Addr) (hm : m = min s.size 1024) (h0 : m = 0) (w : World) :
    (convert 23 9 (.slice (some ad) m c)).run Tryf.prog w = .ok (.string (cut s)) w := by
  have h1 : s.size = s.data.toList.length := by simp
  have hl : s.data.toList = [] := List.eq_nil_of_length_eq_zero (by omega)
  have := run_convert_bytes_back (P := Tryf.prog) w 23 9 5 ad c [] Tryf.underlying23 Tryf.underlying5 Tryf.underlying9 (fun j hj => by simp at hj)
  rw [h0]
  have e : cut s = ⟨([] : List UInt8).toArray⟩ := by rw [cut, hl]; rfl
  rw [e]
  exact this
theorem sent_at (s : ByteArray) (m : Nat) (hm : m = min s.size 1024) (i : Nat) (hi : i < 4 + m) : ∃ x : Int, (sent s)[i]? = some (.int .u8 x) := by
  have hl : i < (sent s).length := by rw [sent_length]; omega
  have hmem : (sent s)[i] ∈ sent s := List.getElem_mem hl
  have : ∀ v ∈ sent s, ∃ x : Int, v = .int .u8 x := fun v hv => by
    simp only [sent, List.mem_append] at hv
    rcases hv with hv | hv
    · simp [hdrC] at hv; rcases hv with rfl | rfl | rfl | rfl <;> exact ⟨_, rfl⟩
    · rw [bcells, List.mem_map] at hv
      obtain ⟨c, -, rfl⟩ := hv
      exact ⟨_, rfl⟩
  obtain ⟨x, hx⟩ := this _ hmem
  exact ⟨x, by rw [List.getElem?_eq_getElem hl, hx]⟩

set_option maxRecDepth 100000 in
set_option maxHeartbeats 1000000 in
theorem law4 (s : ByteArray) (hs : s.size ≤ maxLen) (w : World) :
    Calls Tryf.prog 4 #[.string s] w fun e w' => e = .returned (.bool true) ∧ Below w.heap.size w w' := by
  by_cases h : s.size ≤ 1048576
  · have h' : ¬ (1048576 : Int) < (s.size : Int) := by omega
    have hd : decide (s.size ≤ 1048576) = true := decide_eq_true h
    obtain ⟨m, hm⟩ : ∃ m, m = min s.size 1024 := ⟨_, rfl⟩
    have HM : Hid (m = min s.size 1024) := hm
    have hm1 : (m : Int) ≤ 1024 := by omega
    have hm2 : (m : Int) ≤ s.size := by omega
    have H8 : Hid (∀ w, Calls Tryf.prog 8 #[.string s] w fun e w' => e = .returned (.bool true) ∧ w' = w) := fun w => by have := bytes8 s hs w; rw [hd] at this; exact this
    clear hd hm
    go_enter Tryf.func4, Tryf.ntmps4
    go_wp2_with fail
    refine (Hid.out H8 _).mono ?_
    rintro e w' ⟨rfl, rfl⟩
    clear H8
    go_wp2_with fail
    refine (zz6' s m HM.out h w').mono ?_
    rintro e w1 ⟨g1, cap1, rfl, hg1, hl1, hc1, hc1', hcell1, hb1⟩
    have HC1 : Hid (∀ j v, (sent s)[j]? = some v → w1.cell? ⟨g1, j, none⟩ = some v) := hcell1
    have HB1 : Hid (Below w'.heap.size w' w1) := hb1
    clear hcell1 hb1
    unfold maxLen at hc1'
    have hcap1 : (4 : Int) + (m : Int) ≤ (cap1 : Int) := by omega
    have hcap1' : (cap1 : Int) ≤ 9223372036854775807 := by omega
    have HW7 : ∀ t, t = cut s → Calls Tryf.prog 7 #[.slice (some ⟨g1, 0, none⟩) (4 + m) cap1, .string t] w1 fun e w' => e = .returned (.bool true) ∧ ∃ k, w' = w1.drewN k := fun t ht => by
      subst ht
      exact isref7 g1 m cap1 (cut s) w1 (by rw [cut_size]; exact HM.out.symm) (by omega) (fun j v hj => HC1.out j v (by rw [← want_cut s m HM.out]; exact hj))
    have H62 : ∀ w, Calls Tryf.prog 6 #[.string (cut s)] w fun e w' => ∃ g cap, e = .returned (.slice (some ⟨g, 0, none⟩) (4 + m) cap) ∧ w.heap.size ≤ g ∧ g < w'.heap.size ∧ 4 + m ≤ cap ∧ cap ≤ maxLen ∧
      (∀ j v, (sent s)[j]? = some v → w'.cell? ⟨g, j, none⟩ = some v) ∧ Below w.heap.size w w' := fun w => by
      have hc := cut_size s
      have := zz6' (cut s) m (by rw [hc]; have := HM.out; omega) (by omega) w
      rw [sent_cut] at this
      exact this
    have hs1 : s.size ≤ 1024 ∨ 1024 < s.size := by omega
    rcases (by omega : (s.size ≤ 1024 ∧ cap1 = 4) ∨ (s.size ≤ 1024 ∧ cap1 ≠ 4) ∨ (1024 < s.size ∧ cap1 ≠ 4) ∨ (1024 < s.size ∧ cap1 = 4)) with ⟨hbig, hc4⟩ | ⟨hbig, hc4⟩ | ⟨hbig, hc4⟩ | ⟨hbig, hc4⟩
    · have HC4 : Hid (cap1 = 4) := hc4
      clear hc4
      have hbig' : ¬ (1024 : Int) < (s.size : Int) := by omega
      go_wp2_with fail
      refine (HW7 _ ?_).mono ?_
      · exact (cut_small s hbig).symm
      rintro e w2 ⟨rfl, k, rfl⟩
      have hcv : ∀ ad c, (convert 23 9 (.slice (some ad) m c)).run Tryf.prog (w1.drewN k) = .ok (.string (cut s)) (w1.drewN k) := fun ad c => conv_none s m c ad HM.out (by have := HC4.out; omega) (w1.drewN k)
      go_wp2_with fail
      all_goals
        refine (H62 (w1.drewN k)).mono ?_
        rintro e w2 ⟨g2, cap2, rfl, hg2, hl2, hc2, hc2', hcell2, hb2⟩
        unfold maxLen at hc2'
        have hcap2 : (4 : Int) + (m : Int) ≤ (cap2 : Int) := by omega
        have HC : Hid (∀ i, i < 4 + m → ∃ x : Int, (∀ j, (w2.drewN j).cell? ⟨g1, i, none⟩ = some (.int .u8 x)) ∧ ∀ j, (w2.drewN j).cell? ⟨g2, i, none⟩ = some (.int .u8 x)) := fun i hi => by
          obtain ⟨x, hx⟩ := sent_at s m HM.out i hi
          refine ⟨x, fun j => ?_, fun j => hcell2 i _ hx⟩
          have : w2.cell? ⟨g1, i, none⟩ = (w1.drewN k).cell? ⟨g1, i, none⟩ := hb2.cell (p := ⟨g1, i, none⟩) hl1
          exact this.trans (HC1.out i _ hx)
        have HB2 : Hid (Below w'.heap.size w' w2) := HB1.out.trans (Below.mono (B := (w1.drewN k).heap.size) ⟨hb2.os, hb2.tape, hb2.output, hb2.size, hb2.block⟩ HB1.out.size)
        clear hcell2 hb2 HC1 HB1 H62 HW7
        go_wp2
        go_loopw [6] (fun i wr => ∃ k j : Nat, k ≤ 4 + m ∧ i = .int .i64 k ∧ wr = w2.drewN j) (fun i _ => 4 + m - (intOf i).toNat)
        case atStart => exact ⟨0, 0, Nat.zero_le _, rfl, rfl⟩
        case round =>
          obtain ⟨k, j, hk, rfl, rfl⟩ := hrel
          by_cases hlt : k < 4 + m
          · have hlt' : (k : Int) < 4 + (m : Int) := by omega
            obtain ⟨x, x1, x2⟩ := HC.out k hlt
            go_wp2
            go_region
            go_wp2
            go_roundw
            case rel => exact ⟨k + 1, j + 1, by omega, by go_num, rfl⟩
            case measure => simp [intOf]; omega
          · have hlt' : ¬ (k : Int) < 4 + (m : Int) := by omega
            go_wp2
            go_ret
            exact ⟨rfl, HB2.out.os, HB2.out.tape, HB2.out.output, HB2.out.size, HB2.out.block⟩
    · have hbig' : ¬ (1024 : Int) < (s.size : Int) := by omega
      have hc4' : ¬ (4 = cap1) := fun e => hc4 e.symm
      go_wp2_with fail
      refine (HW7 _ ?_).mono ?_
      · exact (cut_small s hbig).symm
      rintro e w2 ⟨rfl, k, rfl⟩
      have hcv : ∀ c, (convert 23 9 (.slice (some ⟨g1, 4, none⟩) m c)).run Tryf.prog (w1.drewN k) = .ok (.string (cut s)) (w1.drewN k) := fun c => conv_tail s m g1 c HM.out (w1.drewN k) HC1.out
      go_wp2_with fail
      all_goals
        refine (H62 (w1.drewN k)).mono ?_
        rintro e w2 ⟨g2, cap2, rfl, hg2, hl2, hc2, hc2', hcell2, hb2⟩
        unfold maxLen at hc2'
        have hcap2 : (4 : Int) + (m : Int) ≤ (cap2 : Int) := by omega
        have HC : Hid (∀ i, i < 4 + m → ∃ x : Int, (∀ j, (w2.drewN j).cell? ⟨g1, i, none⟩ = some (.int .u8 x)) ∧ ∀ j, (w2.drewN j).cell? ⟨g2, i, none⟩ = some (.int .u8 x)) := fun i hi => by
          obtain ⟨x, hx⟩ := sent_at s m HM.out i hi
          refine ⟨x, fun j => ?_, fun j => hcell2 i _ hx⟩
          have : w2.cell? ⟨g1, i, none⟩ = (w1.drewN k).cell? ⟨g1, i, none⟩ := hb2.cell (p := ⟨g1, i, none⟩) hl1
          exact this.trans (HC1.out i _ hx)
        have HB2 : Hid (Below w'.heap.size w' w2) := HB1.out.trans (Below.mono (B := (w1.drewN k).heap.size) ⟨hb2.os, hb2.tape, hb2.output, hb2.size, hb2.block⟩ HB1.out.size)
        clear hcell2 hb2 HC1 HB1 H62 HW7
        go_wp2
        go_loopw [6] (fun i wr => ∃ k j : Nat, k ≤ 4 + m ∧ i = .int .i64 k ∧ wr = w2.drewN j) (fun i _ => 4 + m - (intOf i).toNat)
        case atStart => exact ⟨0, 0, Nat.zero_le _, rfl, rfl⟩
        case round =>
          obtain ⟨k, j, hk, rfl, rfl⟩ := hrel
          by_cases hlt : k < 4 + m
          · have hlt' : (k : Int) < 4 + (m : Int) := by omega
            obtain ⟨x, x1, x2⟩ := HC.out k hlt
            go_wp2
            go_region
            go_wp2
            go_roundw
            case rel => exact ⟨k + 1, j + 1, by omega, by go_num, rfl⟩
            case measure => simp [intOf]; omega
          · have hlt' : ¬ (k : Int) < 4 + (m : Int) := by omega
            go_wp2
            go_ret
            exact ⟨rfl, HB2.out.os, HB2.out.tape, HB2.out.output, HB2.out.size, HB2.out.block⟩
    · have hbig' : (1024 : Int) < (s.size : Int) := by omega
      have hc4' : ¬ (4 = cap1) := fun e => hc4 e.symm
      go_wp2_with fail
      refine (HW7 _ ?_).mono ?_
      · exact extract_cut s
      rintro e w2 ⟨rfl, k, rfl⟩
      have hcv : ∀ c, (convert 23 9 (.slice (some ⟨g1, 4, none⟩) m c)).run Tryf.prog (w1.drewN k) = .ok (.string (cut s)) (w1.drewN k) := fun c => conv_tail s m g1 c HM.out (w1.drewN k) HC1.out
      go_wp2_with fail
      all_goals
        refine (H62 (w1.drewN k)).mono ?_
        rintro e w2 ⟨g2, cap2, rfl, hg2, hl2, hc2, hc2', hcell2, hb2⟩
        unfold maxLen at hc2'
        have hcap2 : (4 : Int) + (m : Int) ≤ (cap2 : Int) := by omega
        have HC : Hid (∀ i, i < 4 + m → ∃ x : Int, (∀ j, (w2.drewN j).cell? ⟨g1, i, none⟩ = some (.int .u8 x)) ∧ ∀ j, (w2.drewN j).cell? ⟨g2, i, none⟩ = some (.int .u8 x)) := fun i hi => by
          obtain ⟨x, hx⟩ := sent_at s m HM.out i hi
          refine ⟨x, fun j => ?_, fun j => hcell2 i _ hx⟩
          have : w2.cell? ⟨g1, i, none⟩ = (w1.drewN k).cell? ⟨g1, i, none⟩ := hb2.cell (p := ⟨g1, i, none⟩) hl1
          exact this.trans (HC1.out i _ hx)
        have HB2 : Hid (Below w'.heap.size w' w2) := HB1.out.trans (Below.mono (B := (w1.drewN k).heap.size) ⟨hb2.os, hb2.tape, hb2.output, hb2.size, hb2.block⟩ HB1.out.size)
        clear hcell2 hb2 HC1 HB1 H62 HW7
        go_wp2
        go_loopw [6] (fun i wr => ∃ k j : Nat, k ≤ 4 + m ∧ i = .int .i64 k ∧ wr = w2.drewN j) (fun i _ => 4 + m - (intOf i).toNat)
        case atStart => exact ⟨0, 0, Nat.zero_le _, rfl, rfl⟩
        case round =>
          obtain ⟨k, j, hk, rfl, rfl⟩ := hrel
          by_cases hlt : k < 4 + m
          · have hlt' : (k : Int) < 4 + (m : Int) := by omega
            obtain ⟨x, x1, x2⟩ := HC.out k hlt
            go_wp2
            go_region
            go_wp2
            go_roundw
            case rel => exact ⟨k + 1, j + 1, by omega, by go_num, rfl⟩
            case measure => simp [intOf]; omega
          · have hlt' : ¬ (k : Int) < 4 + (m : Int) := by omega
            go_wp2
            go_ret
            exact ⟨rfl, HB2.out.os, HB2.out.tape, HB2.out.output, HB2.out.size, HB2.out.block⟩
    · exact absurd HM.out (by omega)
  · have hd : decide (s.size ≤ 1048576) = false := decide_eq_false h
    have H8 : Hid (∀ w, Calls Tryf.prog 8 #[.string s] w fun e w' => e = .returned (.bool false) ∧ w' = w) := fun w => by have := bytes8 s hs w; rw [hd] at this; exact this
    clear hd
    go_enter Tryf.func4, Tryf.ntmps4
    go_wp2_with fail
    refine (Hid.out H8 _).mono ?_
    rintro e w' ⟨rfl, rfl⟩
    clear H8
    go_wp2
    go_ret
    exact ⟨rfl, Below.refl _ _⟩
end Go.Proofs.Qxb6613412aFmt

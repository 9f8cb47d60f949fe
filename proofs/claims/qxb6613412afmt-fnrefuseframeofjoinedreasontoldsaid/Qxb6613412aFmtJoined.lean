import Derived.Test.Qxb6613412aFmtSame
import Derived.Deep.QuietTactic
import Derived.BigQuiet
namespace Go.Proofs.Qxb6613412aFmt
open Go.RowKit

theorem bytes5 (s t : ByteArray) (hs : s.size ≤ maxLen) (ht : t.size ≤ maxLen) (w : World) :
    Calls Tryf.prog 5 #[.string s, .string t] w fun e w' => e = .returned (.bool (decide (s.size + t.size ≤ 1048576))) ∧ w' = w := by
  unfold maxLen at hs ht
  have hs' : (s.size : Int) ≤ 9223372036854775807 := by omega
  have ht' : (t.size : Int) ≤ 9223372036854775807 := by omega
  by_cases h1 : s.size ≤ 1048576
  · have h1' : ¬ (1048576 : Int) < (s.size : Int) := by omega
    by_cases h2 : t.size ≤ 1048576
    · have h2' : ¬ (1048576 : Int) < (t.size : Int) := by omega
      by_cases h3 : s.size + t.size ≤ 1048576
      · have h3' : ¬ (1048576 : Int) < (s.size : Int) + (t.size : Int) := by omega
        rw [decide_eq_true h3]
        go_enter Tryf.func5, Tryf.ntmps5
        go_wp2
        go_ret
        exact ⟨rfl, rfl⟩
      · have h3' : (1048576 : Int) < (s.size : Int) + (t.size : Int) := by omega
        rw [decide_eq_false h3]
        go_enter Tryf.func5, Tryf.ntmps5
        go_wp2
        go_ret
        exact ⟨rfl, rfl⟩
    · have h2' : (1048576 : Int) < (t.size : Int) := by omega
      rw [decide_eq_false (by omega)]
      go_enter Tryf.func5, Tryf.ntmps5
      go_wp2
      go_ret
      exact ⟨rfl, rfl⟩
  · have h1' : (1048576 : Int) < (s.size : Int) := by omega
    rw [decide_eq_false (by omega)]
    go_enter Tryf.func5, Tryf.ntmps5
    go_wp2
    go_ret
    exact ⟨rfl, rfl⟩

set_option maxRecDepth 100000 in
set_option maxHeartbeats 1000000 in
theorem law3_out (s t : ByteArray) (hs : s.size ≤ maxLen) (ht : t.size ≤ maxLen) (w : World) (h : ¬ (s.size ≤ 524288 ∧ t.size ≤ 524288)) :
    Calls Tryf.prog 3 #[.string s, .string t] w fun e w' => e = .returned (.bool true) ∧ Below w.heap.size w w' := by
  have hb := bytes5 s t hs ht
  generalize decide (s.size + t.size ≤ 1048576) = bb at hb
  have H5 : Hid (∀ w, Calls Tryf.prog 5 #[.string s, .string t] w fun e w' => e = .returned (.bool bb) ∧ w' = w) := hb
  clear hb hs ht
  cases bb
  · go_enter Tryf.func3, Tryf.ntmps3
    go_wp2_with fail
    refine (Hid.out H5 _).mono ?_
    rintro e w' ⟨rfl, rfl⟩
    go_wp2
    go_ret
    exact ⟨rfl, Below.refl _ _⟩
  · by_cases h1 : s.size ≤ 524288
    · have h1' : ¬ (524288 : Int) < (s.size : Int) := by omega
      have h2' : (524288 : Int) < (t.size : Int) := by omega
      clear h
      go_enter Tryf.func3, Tryf.ntmps3
      go_wp2_with fail
      refine (Hid.out H5 _).mono ?_
      rintro e w' ⟨rfl, rfl⟩
      go_wp2
      go_ret
      exact ⟨rfl, Below.refl _ _⟩
    · have h1' : (524288 : Int) < (s.size : Int) := by omega
      clear h
      go_enter Tryf.func3, Tryf.ntmps3
      go_wp2_with fail
      refine (Hid.out H5 _).mono ?_
      rintro e w' ⟨rfl, rfl⟩
      go_wp2
      go_ret
      exact ⟨rfl, Below.refl _ _⟩

theorem sent_hdr (s : ByteArray) (m : Nat) (hm : m = min s.size 1024) : (sent s)[0]? = some (.int .u8 69) ∧ (sent s)[1]? = some (.int .u8 ((m : Int) / 65536)) ∧ (sent s)[2]? = some (.int .u8 ((m : Int) / 256)) ∧ (sent s)[3]? = some (.int .u8 ((m : Int) % 256)) := by
  subst hm
  exact ⟨rfl, rfl, rfl, rfl⟩
/-- The payload of the refusal of s opens the payload of the refusal of s ++ t. -/
theorem sent_joined (s t : ByteArray) (i : Nat) (hi : i < min s.size 1024) : ∃ x : Int, (sent s)[4 + i]? = some (.int .u8 x) ∧ (sent (s ++ t))[4 + i]? = some (.int .u8 x) := by
  have h1 : s.size = s.data.toList.length := by simp
  have hi' : i < s.data.toList.length := by omega
  refine ⟨(s.data.toList[i].toNat : Int), ?_, ?_⟩
  · unfold sent
    rw [List.getElem?_append_right (by simp [hdrC])]
    simp only [hdrC, List.length_cons, List.length_nil, bcells, List.getElem?_map]
    rw [show 4 + i - (0 + 1 + 1 + 1 + 1) = i by omega, List.getElem?_take, if_pos (by omega), List.getElem?_eq_getElem hi']
    rfl
  · unfold sent
    rw [List.getElem?_append_right (by simp [hdrC])]
    simp only [hdrC, List.length_cons, List.length_nil, bcells, List.getElem?_map]
    rw [show 4 + i - (0 + 1 + 1 + 1 + 1) = i by omega, List.getElem?_take, if_pos (by omega), ByteArray.data_append, Array.toList_append, List.getElem?_append_left hi', List.getElem?_eq_getElem hi']
    rfl

theorem isref_cut (jj u : ByteArray) (hu : u = cut jj) (n g cap : Nat) (w : World) (hn : n = min jj.size 1024) (hc : ∀ j v, (sent jj)[j]? = some v → w.cell? ⟨g, j, none⟩ = some v) :
    Calls Tryf.prog 7 #[.slice (some ⟨g, 0, none⟩) (4 + n) cap, .string u] w fun e w' => e = .returned (.bool true) ∧ ∃ k, w' = w.drewN k := by
  subst hu
  exact isref7 g n cap (cut jj) w (by rw [cut_size]; omega) (by omega) (fun j v hj => hc j v (by rw [← want_cut jj n hn]; exact hj))
theorem drewN_drewN (w : World) (a b : Nat) : (w.drewN a).drewN b = w.drewN (a + b) := by
  simp [World.drewN, Nat.add_assoc]

set_option maxRecDepth 100000 in
set_option maxHeartbeats 1000000 in
theorem law3_a (s t : ByteArray) (w : World) (h1 : s.size ≤ 524288) (h2 : t.size ≤ 524288) (hA : s.size + t.size ≤ 1024) :
    Calls Tryf.prog 3 #[.string s, .string t] w fun e w' => e = .returned (.bool true) ∧ Below w.heap.size w w' := by
  have h1' : ¬ (524288 : Int) < (s.size : Int) := by omega
  have h2' : ¬ (524288 : Int) < (t.size : Int) := by omega
  have hzz : (s ++ t).size = s.size + t.size := ByteArray.size_append
  have HS : Hid ((s ++ t).size = s.size + t.size) := hzz
  have HJ : Hid (∀ i, i < s.size → ∃ x : Int, (sent s)[4 + i]? = some (.int .u8 x) ∧ (sent (s ++ t))[4 + i]? = some (.int .u8 x)) := fun i hi => sent_joined s t i (by omega)
  obtain ⟨jj, hjj⟩ : ∃ jj, s ++ t = jj := ⟨_, rfl⟩
  rw [hjj] at HS HJ hzz
  have hjz : jj.size ≤ 1048576 := by omega
  have H5 : Hid (∀ w, Calls Tryf.prog 5 #[.string s, .string t] w fun e w' => e = .returned (.bool true) ∧ w' = w) := fun w => by
    have := bytes5 s t (by unfold maxLen; omega) (by unfold maxLen; omega) w
    rw [decide_eq_true (by omega)] at this
    exact this
  have H61 : Hid (∀ w, Calls Tryf.prog 6 #[.string s] w fun e w' => ∃ g cap, e = .returned (.slice (some ⟨g, 0, none⟩) (4 + s.size) cap) ∧ w.heap.size ≤ g ∧ g < w'.heap.size ∧ 4 + s.size ≤ cap ∧ cap ≤ maxLen ∧
      (∀ j v, (sent s)[j]? = some v → w'.cell? ⟨g, j, none⟩ = some v) ∧ Below w.heap.size w w') := fun w => zz6' s (s.size) (by omega) (by omega) w
  have H62 : Hid (∀ w, Calls Tryf.prog 6 #[.string jj] w fun e w' => ∃ g cap, e = .returned (.slice (some ⟨g, 0, none⟩) (4 + jj.size) cap) ∧ w.heap.size ≤ g ∧ g < w'.heap.size ∧ 4 + jj.size ≤ cap ∧ cap ≤ maxLen ∧
      (∀ j v, (sent jj)[j]? = some v → w'.cell? ⟨g, j, none⟩ = some v) ∧ Below w.heap.size w w') := fun w => zz6' jj (jj.size) (by omega) (by omega) w
  have H7 : Hid (∀ g cap w, (∀ j v, (sent jj)[j]? = some v → w.cell? ⟨g, j, none⟩ = some v) → Calls Tryf.prog 7 #[.slice (some ⟨g, 0, none⟩) (4 + jj.size) cap, .string (jj)] w fun e w' => e = .returned (.bool true) ∧ ∃ k, w' = w.drewN k) := fun g cap w hc => by
    exact isref_cut jj (jj) ((cut_small jj (by have := HS.out; omega)).symm) (jj.size) g cap w (by omega) hc
  have HH : Hid ((sent s)[0]? = some (.int .u8 69) ∧ (sent s)[1]? = some (.int .u8 ((s.size : Int) / 65536)) ∧ (sent s)[2]? = some (.int .u8 ((s.size : Int) / 256)) ∧ (sent s)[3]? = some (.int .u8 ((s.size : Int) % 256)) ∧ (sent jj)[0]? = some (.int .u8 69)) := by
    have a := sent_hdr s (s.size) (by omega)
    exact ⟨a.1, a.2.1, a.2.2.1, a.2.2.2, rfl⟩
  have i1 : (s.size : Int) ≤ 1024 := by omega
  have i2 : ¬ (1024 : Int) < (s.size : Int) := by omega
  have i3 : (jj.size : Int) ≤ 1024 := by omega
  have i4 : ¬ (1024 : Int) < (jj.size : Int) := by omega
  clear hzz
  go_enter Tryf.func3, Tryf.ntmps3
  go_wp2_with fail
  refine (Hid.out H5 _).mono ?_
  rintro e w' ⟨rfl, rfl⟩
  clear H5
  go_wp2_with fail
  refine (Hid.out H61 _).mono ?_
  rintro e w1 ⟨g1, cap1, rfl, hg1, hl1, hc1, hc1', hcell1, hb1⟩
  have HC1 : Hid (∀ j v, (sent s)[j]? = some v → w1.cell? ⟨g1, j, none⟩ = some v) := hcell1
  have HB1 : Hid (Below w'.heap.size w' w1) := hb1
  clear hcell1 hb1 H61
  go_wp2_with fail
  refine (Hid.out H62 _).mono ?_
  rintro e w2 ⟨g2, cap2, rfl, hg2, hl2, hc2, hc2', hcell2, hb2⟩
  have HC : Hid ((∀ i j v, (sent s)[i]? = some v → (w2.drewN j).cell? ⟨g1, i, none⟩ = some v) ∧ ∀ i j v, (sent jj)[i]? = some v → (w2.drewN j).cell? ⟨g2, i, none⟩ = some v) := by
    refine ⟨fun i j v hv => ?_, fun i j v hv => hcell2 i v hv⟩
    have : w2.cell? ⟨g1, i, none⟩ = w1.cell? ⟨g1, i, none⟩ := hb2.cell (p := ⟨g1, i, none⟩) hl1
    exact this.trans (HC1.out i _ hv)
  have HB2 : Hid (Below w'.heap.size w' w2) := HB1.out.trans (hb2.mono HB1.out.size)
  have H7' : Hid (Calls Tryf.prog 7 #[.slice (some ⟨g2, 0, none⟩) (4 + jj.size) cap2, .string (jj)] w2 fun e w' => e = .returned (.bool true) ∧ ∃ k, w' = w2.drewN k) := H7.out g2 cap2 w2 hcell2
  clear hcell2 hb2 HC1 HB1 H62 H7
  go_wp2_with fail
  refine (Hid.out H7').mono ?_
  rintro e w3 ⟨rfl, k, rfl⟩
  clear H7'
  have a0 : ∀ j, (w2.drewN j).cell? ⟨g1, 0, none⟩ = some (.int .u8 69) := fun j => HC.out.1 0 j _ HH.out.1
  have a1 : ∀ j, (w2.drewN j).cell? ⟨g1, 1, none⟩ = some (.int .u8 ((s.size : Int) / 65536)) := fun j => HC.out.1 1 j _ HH.out.2.1
  have a2 : ∀ j, (w2.drewN j).cell? ⟨g1, 2, none⟩ = some (.int .u8 ((s.size : Int) / 256)) := fun j => HC.out.1 2 j _ HH.out.2.2.1
  have a3 : ∀ j, (w2.drewN j).cell? ⟨g1, 3, none⟩ = some (.int .u8 ((s.size : Int) % 256)) := fun j => HC.out.1 3 j _ HH.out.2.2.2.1
  have b0 : ∀ j, (w2.drewN j).cell? ⟨g2, 0, none⟩ = some (.int .u8 69) := fun j => HC.out.2 0 j _ HH.out.2.2.2.2
  go_wp2
  go_quiet (fail)
  go_wp2
  go_loopw [10] (fun i wr => ∃ k j : Nat, k ≤ s.size ∧ i = .int .i64 k ∧ wr = w2.drewN j) (fun i _ => s.size - (intOf i).toNat)
  case atStart => exact ⟨0, k + nq, Nat.zero_le _, rfl, drewN_drewN w2 k nq⟩
  case round =>
    obtain ⟨k, j, hk, rfl, rfl⟩ := hrel
    by_cases hlt : k < s.size
    · have hlt' : (k : Int) < (s.size : Int) := by omega
      obtain ⟨x, e1, e2⟩ := HJ.out k hlt
      have x1 : ∀ j, (w2.drewN j).cell? ⟨g1, 4 + k, none⟩ = some (.int .u8 x) := fun j => HC.out.1 _ j _ e1
      have x2 : ∀ j, (w2.drewN j).cell? ⟨g2, 4 + k, none⟩ = some (.int .u8 x) := fun j => HC.out.2 _ j _ e2
      clear e1 e2
      have hlt2 : (k : Int) < (jj.size : Int) := by have := HS.out; omega
      go_wp2
      go_region
      go_wp2
      go_roundw
      case rel => exact ⟨k + 1, j + 1, by omega, by go_num, rfl⟩
      case measure => simp [intOf]; omega
    · have hlt' : ¬ (k : Int) < (s.size : Int) := by omega
      go_wp2
      go_ret
      exact ⟨rfl, HB2.out.os, HB2.out.tape, HB2.out.output, HB2.out.size, HB2.out.block⟩

set_option maxRecDepth 100000 in
set_option maxHeartbeats 1000000 in
theorem law3_b (s t : ByteArray) (w : World) (h1 : s.size ≤ 524288) (h2 : t.size ≤ 524288) (hA : s.size ≤ 1024) (hB : 1024 < s.size + t.size) :
    Calls Tryf.prog 3 #[.string s, .string t] w fun e w' => e = .returned (.bool true) ∧ Below w.heap.size w w' := by
  have h1' : ¬ (524288 : Int) < (s.size : Int) := by omega
  have h2' : ¬ (524288 : Int) < (t.size : Int) := by omega
  have hzz : (s ++ t).size = s.size + t.size := ByteArray.size_append
  have HS : Hid ((s ++ t).size = s.size + t.size) := hzz
  have HJ : Hid (∀ i, i < s.size → ∃ x : Int, (sent s)[4 + i]? = some (.int .u8 x) ∧ (sent (s ++ t))[4 + i]? = some (.int .u8 x)) := fun i hi => sent_joined s t i (by omega)
  obtain ⟨jj, hjj⟩ : ∃ jj, s ++ t = jj := ⟨_, rfl⟩
  rw [hjj] at HS HJ hzz
  have hjz : jj.size ≤ 1048576 := by omega
  have H5 : Hid (∀ w, Calls Tryf.prog 5 #[.string s, .string t] w fun e w' => e = .returned (.bool true) ∧ w' = w) := fun w => by
    have := bytes5 s t (by unfold maxLen; omega) (by unfold maxLen; omega) w
    rw [decide_eq_true (by omega)] at this
    exact this
  have H61 : Hid (∀ w, Calls Tryf.prog 6 #[.string s] w fun e w' => ∃ g cap, e = .returned (.slice (some ⟨g, 0, none⟩) (4 + s.size) cap) ∧ w.heap.size ≤ g ∧ g < w'.heap.size ∧ 4 + s.size ≤ cap ∧ cap ≤ maxLen ∧
      (∀ j v, (sent s)[j]? = some v → w'.cell? ⟨g, j, none⟩ = some v) ∧ Below w.heap.size w w') := fun w => zz6' s (s.size) (by omega) (by omega) w
  have H62 : Hid (∀ w, Calls Tryf.prog 6 #[.string jj] w fun e w' => ∃ g cap, e = .returned (.slice (some ⟨g, 0, none⟩) (1028) cap) ∧ w.heap.size ≤ g ∧ g < w'.heap.size ∧ 1028 ≤ cap ∧ cap ≤ maxLen ∧
      (∀ j v, (sent jj)[j]? = some v → w'.cell? ⟨g, j, none⟩ = some v) ∧ Below w.heap.size w w') := fun w => zz6' jj (1024) (by omega) (by omega) w
  have H7 : Hid (∀ g cap w, (∀ j v, (sent jj)[j]? = some v → w.cell? ⟨g, j, none⟩ = some v) → Calls Tryf.prog 7 #[.slice (some ⟨g, 0, none⟩) (1028) cap, .string (jj.extract 0 1024)] w fun e w' => e = .returned (.bool true) ∧ ∃ k, w' = w.drewN k) := fun g cap w hc => by
    exact isref_cut jj (jj.extract 0 1024) (extract_cut jj) (1024) g cap w (by omega) hc
  have HH : Hid ((sent s)[0]? = some (.int .u8 69) ∧ (sent s)[1]? = some (.int .u8 ((s.size : Int) / 65536)) ∧ (sent s)[2]? = some (.int .u8 ((s.size : Int) / 256)) ∧ (sent s)[3]? = some (.int .u8 ((s.size : Int) % 256)) ∧ (sent jj)[0]? = some (.int .u8 69)) := by
    have a := sent_hdr s (s.size) (by omega)
    exact ⟨a.1, a.2.1, a.2.2.1, a.2.2.2, rfl⟩
  have i1 : (s.size : Int) ≤ 1024 := by omega
  have i2 : ¬ (1024 : Int) < (s.size : Int) := by omega
  have i4 : (1024 : Int) < (jj.size : Int) := by omega
  clear hzz
  go_enter Tryf.func3, Tryf.ntmps3
  go_wp2_with fail
  refine (Hid.out H5 _).mono ?_
  rintro e w' ⟨rfl, rfl⟩
  clear H5
  go_wp2_with fail
  refine (Hid.out H61 _).mono ?_
  rintro e w1 ⟨g1, cap1, rfl, hg1, hl1, hc1, hc1', hcell1, hb1⟩
  have HC1 : Hid (∀ j v, (sent s)[j]? = some v → w1.cell? ⟨g1, j, none⟩ = some v) := hcell1
  have HB1 : Hid (Below w'.heap.size w' w1) := hb1
  clear hcell1 hb1 H61
  go_wp2_with fail
  refine (Hid.out H62 _).mono ?_
  rintro e w2 ⟨g2, cap2, rfl, hg2, hl2, hc2, hc2', hcell2, hb2⟩
  have HC : Hid ((∀ i j v, (sent s)[i]? = some v → (w2.drewN j).cell? ⟨g1, i, none⟩ = some v) ∧ ∀ i j v, (sent jj)[i]? = some v → (w2.drewN j).cell? ⟨g2, i, none⟩ = some v) := by
    refine ⟨fun i j v hv => ?_, fun i j v hv => hcell2 i v hv⟩
    have : w2.cell? ⟨g1, i, none⟩ = w1.cell? ⟨g1, i, none⟩ := hb2.cell (p := ⟨g1, i, none⟩) hl1
    exact this.trans (HC1.out i _ hv)
  have HB2 : Hid (Below w'.heap.size w' w2) := HB1.out.trans (hb2.mono HB1.out.size)
  have H7' : Hid (Calls Tryf.prog 7 #[.slice (some ⟨g2, 0, none⟩) (1028) cap2, .string (jj.extract 0 1024)] w2 fun e w' => e = .returned (.bool true) ∧ ∃ k, w' = w2.drewN k) := H7.out g2 cap2 w2 hcell2
  clear hcell2 hb2 HC1 HB1 H62 H7
  go_wp2_with fail
  refine (Hid.out H7').mono ?_
  rintro e w3 ⟨rfl, k, rfl⟩
  clear H7'
  have a0 : ∀ j, (w2.drewN j).cell? ⟨g1, 0, none⟩ = some (.int .u8 69) := fun j => HC.out.1 0 j _ HH.out.1
  have a1 : ∀ j, (w2.drewN j).cell? ⟨g1, 1, none⟩ = some (.int .u8 ((s.size : Int) / 65536)) := fun j => HC.out.1 1 j _ HH.out.2.1
  have a2 : ∀ j, (w2.drewN j).cell? ⟨g1, 2, none⟩ = some (.int .u8 ((s.size : Int) / 256)) := fun j => HC.out.1 2 j _ HH.out.2.2.1
  have a3 : ∀ j, (w2.drewN j).cell? ⟨g1, 3, none⟩ = some (.int .u8 ((s.size : Int) % 256)) := fun j => HC.out.1 3 j _ HH.out.2.2.2.1
  have b0 : ∀ j, (w2.drewN j).cell? ⟨g2, 0, none⟩ = some (.int .u8 69) := fun j => HC.out.2 0 j _ HH.out.2.2.2.2
  go_wp2
  go_quiet (fail)
  go_wp2
  go_loopw [10] (fun i wr => ∃ k j : Nat, k ≤ s.size ∧ i = .int .i64 k ∧ wr = w2.drewN j) (fun i _ => s.size - (intOf i).toNat)
  case atStart => exact ⟨0, k + nq, Nat.zero_le _, rfl, drewN_drewN w2 k nq⟩
  case round =>
    obtain ⟨k, j, hk, rfl, rfl⟩ := hrel
    by_cases hlt : k < s.size
    · have hlt' : (k : Int) < (s.size : Int) := by omega
      obtain ⟨x, e1, e2⟩ := HJ.out k hlt
      have x1 : ∀ j, (w2.drewN j).cell? ⟨g1, 4 + k, none⟩ = some (.int .u8 x) := fun j => HC.out.1 _ j _ e1
      have x2 : ∀ j, (w2.drewN j).cell? ⟨g2, 4 + k, none⟩ = some (.int .u8 x) := fun j => HC.out.2 _ j _ e2
      clear e1 e2
      have hlt2 : (k : Int) < (1024 : Int) := by have := HS.out; omega
      go_wp2
      go_region
      go_wp2
      go_roundw
      case rel => exact ⟨k + 1, j + 1, by omega, by go_num, rfl⟩
      case measure => simp [intOf]; omega
    · have hlt' : ¬ (k : Int) < (s.size : Int) := by omega
      go_wp2
      go_ret
      exact ⟨rfl, HB2.out.os, HB2.out.tape, HB2.out.output, HB2.out.size, HB2.out.block⟩

set_option maxRecDepth 100000 in
set_option maxHeartbeats 1000000 in
theorem law3_c (s t : ByteArray) (w : World) (h1 : s.size ≤ 524288) (h2 : t.size ≤ 524288) (hA : 1024 < s.size) :
    Calls Tryf.prog 3 #[.string s, .string t] w fun e w' => e = .returned (.bool true) ∧ Below w.heap.size w w' := by
  have h1' : ¬ (524288 : Int) < (s.size : Int) := by omega
  have h2' : ¬ (524288 : Int) < (t.size : Int) := by omega
  have hzz : (s ++ t).size = s.size + t.size := ByteArray.size_append
  have HS : Hid ((s ++ t).size = s.size + t.size) := hzz
  have HJ : Hid (∀ i, i < 1024 → ∃ x : Int, (sent s)[4 + i]? = some (.int .u8 x) ∧ (sent (s ++ t))[4 + i]? = some (.int .u8 x)) := fun i hi => sent_joined s t i (by omega)
  obtain ⟨jj, hjj⟩ : ∃ jj, s ++ t = jj := ⟨_, rfl⟩
  rw [hjj] at HS HJ hzz
  have hjz : jj.size ≤ 1048576 := by omega
  have H5 : Hid (∀ w, Calls Tryf.prog 5 #[.string s, .string t] w fun e w' => e = .returned (.bool true) ∧ w' = w) := fun w => by
    have := bytes5 s t (by unfold maxLen; omega) (by unfold maxLen; omega) w
    rw [decide_eq_true (by omega)] at this
    exact this
  have H61 : Hid (∀ w, Calls Tryf.prog 6 #[.string s] w fun e w' => ∃ g cap, e = .returned (.slice (some ⟨g, 0, none⟩) (1028) cap) ∧ w.heap.size ≤ g ∧ g < w'.heap.size ∧ 1028 ≤ cap ∧ cap ≤ maxLen ∧
      (∀ j v, (sent s)[j]? = some v → w'.cell? ⟨g, j, none⟩ = some v) ∧ Below w.heap.size w w') := fun w => zz6' s (1024) (by omega) (by omega) w
  have H62 : Hid (∀ w, Calls Tryf.prog 6 #[.string jj] w fun e w' => ∃ g cap, e = .returned (.slice (some ⟨g, 0, none⟩) (1028) cap) ∧ w.heap.size ≤ g ∧ g < w'.heap.size ∧ 1028 ≤ cap ∧ cap ≤ maxLen ∧
      (∀ j v, (sent jj)[j]? = some v → w'.cell? ⟨g, j, none⟩ = some v) ∧ Below w.heap.size w w') := fun w => zz6' jj (1024) (by omega) (by omega) w
  have H7 : Hid (∀ g cap w, (∀ j v, (sent jj)[j]? = some v → w.cell? ⟨g, j, none⟩ = some v) → Calls Tryf.prog 7 #[.slice (some ⟨g, 0, none⟩) (1028) cap, .string (jj.extract 0 1024)] w fun e w' => e = .returned (.bool true) ∧ ∃ k, w' = w.drewN k) := fun g cap w hc => by
    exact isref_cut jj (jj.extract 0 1024) (extract_cut jj) (1024) g cap w (by omega) hc
  have HH : Hid ((sent s)[0]? = some (.int .u8 69) ∧ (sent s)[1]? = some (.int .u8 (0)) ∧ (sent s)[2]? = some (.int .u8 (4)) ∧ (sent s)[3]? = some (.int .u8 (0)) ∧ (sent jj)[0]? = some (.int .u8 69)) := by
    have a := sent_hdr s (1024) (by omega)
    exact ⟨a.1, a.2.1, a.2.2.1, a.2.2.2, rfl⟩
  have i2 : (1024 : Int) < (s.size : Int) := by omega
  have i4 : (1024 : Int) < (jj.size : Int) := by omega
  clear hzz
  go_enter Tryf.func3, Tryf.ntmps3
  go_wp2_with fail
  refine (Hid.out H5 _).mono ?_
  rintro e w' ⟨rfl, rfl⟩
  clear H5
  go_wp2_with fail
  refine (Hid.out H61 _).mono ?_
  rintro e w1 ⟨g1, cap1, rfl, hg1, hl1, hc1, hc1', hcell1, hb1⟩
  have HC1 : Hid (∀ j v, (sent s)[j]? = some v → w1.cell? ⟨g1, j, none⟩ = some v) := hcell1
  have HB1 : Hid (Below w'.heap.size w' w1) := hb1
  clear hcell1 hb1 H61
  go_wp2_with fail
  refine (Hid.out H62 _).mono ?_
  rintro e w2 ⟨g2, cap2, rfl, hg2, hl2, hc2, hc2', hcell2, hb2⟩
  have HC : Hid ((∀ i j v, (sent s)[i]? = some v → (w2.drewN j).cell? ⟨g1, i, none⟩ = some v) ∧ ∀ i j v, (sent jj)[i]? = some v → (w2.drewN j).cell? ⟨g2, i, none⟩ = some v) := by
    refine ⟨fun i j v hv => ?_, fun i j v hv => hcell2 i v hv⟩
    have : w2.cell? ⟨g1, i, none⟩ = w1.cell? ⟨g1, i, none⟩ := hb2.cell (p := ⟨g1, i, none⟩) hl1
    exact this.trans (HC1.out i _ hv)
  have HB2 : Hid (Below w'.heap.size w' w2) := HB1.out.trans (hb2.mono HB1.out.size)
  have H7' : Hid (Calls Tryf.prog 7 #[.slice (some ⟨g2, 0, none⟩) (1028) cap2, .string (jj.extract 0 1024)] w2 fun e w' => e = .returned (.bool true) ∧ ∃ k, w' = w2.drewN k) := H7.out g2 cap2 w2 hcell2
  clear hcell2 hb2 HC1 HB1 H62 H7
  go_wp2_with fail
  refine (Hid.out H7').mono ?_
  rintro e w3 ⟨rfl, k, rfl⟩
  clear H7'
  have a0 : ∀ j, (w2.drewN j).cell? ⟨g1, 0, none⟩ = some (.int .u8 69) := fun j => HC.out.1 0 j _ HH.out.1
  have a1 : ∀ j, (w2.drewN j).cell? ⟨g1, 1, none⟩ = some (.int .u8 (0)) := fun j => HC.out.1 1 j _ HH.out.2.1
  have a2 : ∀ j, (w2.drewN j).cell? ⟨g1, 2, none⟩ = some (.int .u8 (4)) := fun j => HC.out.1 2 j _ HH.out.2.2.1
  have a3 : ∀ j, (w2.drewN j).cell? ⟨g1, 3, none⟩ = some (.int .u8 (0)) := fun j => HC.out.1 3 j _ HH.out.2.2.2.1
  have b0 : ∀ j, (w2.drewN j).cell? ⟨g2, 0, none⟩ = some (.int .u8 69) := fun j => HC.out.2 0 j _ HH.out.2.2.2.2
  go_wp2
  go_quiet (fail)
  go_wp2
  go_loopw [10] (fun i wr => ∃ k j : Nat, k ≤ 1024 ∧ i = .int .i64 k ∧ wr = w2.drewN j) (fun i _ => 1024 - (intOf i).toNat)
  case atStart => exact ⟨0, k + nq, Nat.zero_le _, rfl, drewN_drewN w2 k nq⟩
  case round =>
    obtain ⟨k, j, hk, rfl, rfl⟩ := hrel
    by_cases hlt : k < 1024
    · have hlt' : (k : Int) < (1024 : Int) := by omega
      obtain ⟨x, e1, e2⟩ := HJ.out k hlt
      have x1 : ∀ j, (w2.drewN j).cell? ⟨g1, 4 + k, none⟩ = some (.int .u8 x) := fun j => HC.out.1 _ j _ e1
      have x2 : ∀ j, (w2.drewN j).cell? ⟨g2, 4 + k, none⟩ = some (.int .u8 x) := fun j => HC.out.2 _ j _ e2
      clear e1 e2
      have hlt2 : (k : Int) < (1024 : Int) := by have := HS.out; omega
      go_wp2
      go_region
      go_wp2
      go_roundw
      case rel => exact ⟨k + 1, j + 1, by omega, by go_num, rfl⟩
      case measure => simp [intOf]; omega
    · have hlt' : ¬ (k : Int) < (1024 : Int) := by omega
      go_wp2
      go_ret
      exact ⟨rfl, HB2.out.os, HB2.out.tape, HB2.out.output, HB2.out.size, HB2.out.block⟩

theorem law3 (s t : ByteArray) (hs : s.size ≤ maxLen) (ht : t.size ≤ maxLen) (w : World) :
    Calls Tryf.prog 3 #[.string s, .string t] w fun e w' => e = .returned (.bool true) ∧ Below w.heap.size w w' := by
  by_cases h : s.size ≤ 524288 ∧ t.size ≤ 524288
  · by_cases h1 : 1024 < s.size
    · exact law3_c s t w h.1 h.2 h1
    · by_cases h2 : 1024 < s.size + t.size
      · exact law3_b s t w h.1 h.2 (by omega) h2
      · exact law3_a s t w h.1 h.2 (by omega)
  · exact law3_out s t hs ht w h
end Go.Proofs.Qxb6613412aFmt

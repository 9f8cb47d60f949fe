import Derived.Test.Qxb6613412aFmtBytes
namespace Go.Proofs.Qxb6613412aFmt
open Go.RowKit

set_option maxRecDepth 100000 in
set_option maxHeartbeats 1000000 in
theorem isref7 (g n cap : Nat) (want : ByteArray) (w : World) (hsz : want.size = n) (hn : n ≤ 1024) (hc : ∀ j v, (hdrC n ++ bcells want.data.toList)[j]? = some v → w.cell? ⟨g, j, none⟩ = some v) :
    Calls Tryf.prog 7 #[.slice (some ⟨g, 0, none⟩) (4 + n) cap, .string want] w fun e w' => e = .returned (.bool true) ∧ ∃ k, w' = w.drewN k := by
  subst hsz
  have hn' : (want.size : Int) ≤ 1024 := by omega
  have c0 : w.cell? ⟨g, 0, none⟩ = some (.int .u8 69) := hc 0 _ rfl
  have c1 : w.cell? ⟨g, 1, none⟩ = some (.int .u8 ((want.size : Int) / 65536)) := hc 1 _ rfl
  have c2 : w.cell? ⟨g, 2, none⟩ = some (.int .u8 ((want.size : Int) / 256)) := hc 2 _ rfl
  have c3 : w.cell? ⟨g, 3, none⟩ = some (.int .u8 ((want.size : Int) % 256)) := hc 3 _ rfl
  have cs : ∀ (k : Nat) (h : k < want.size), w.cell? ⟨g, 4 + k, none⟩ = some (.int .u8 (want[k].toNat : Int)) := fun k h => by
    refine hc (4 + k) _ ?_
    rw [List.getElem?_append_right (by simp [hdrC])]
    have hk : k < want.data.toList.length := by simpa using h
    simp [hdrC, bcells, List.getElem?_eq_getElem hk]
    rfl
  have HC : Hid (∀ (k : Nat) (h : k < want.size), w.cell? ⟨g, 4 + k, none⟩ = some (.int .u8 (want[k].toNat : Int))) := cs
  clear hc cs
  go_enter Tryf.func7, Tryf.ntmps7
  go_wp2
  go_loopw [6] (fun i wr => ∃ k j : Nat, k ≤ want.size ∧ i = .int .i64 k ∧ wr = w.drewN j) (fun i _ => want.size - (intOf i).toNat)
  case atStart => exact ⟨0, 0, Nat.zero_le _, rfl, rfl⟩
  case round =>
    obtain ⟨k, j, hk, rfl, rfl⟩ := hrel
    by_cases hlt : k < want.size
    · have hlt' : (k : Int) < (want.size : Int) := by omega
      have hck : ∀ j, (w.drewN j).cell? ⟨g, 4 + k, none⟩ = some (.int .u8 (want[k].toNat : Int)) := fun j => HC.out k hlt
      go_wp2
      go_region
      go_wp2
      go_roundw
      case rel => exact ⟨k + 1, j + 1, by omega, by go_num, rfl⟩
      case measure => simp [intOf]; omega
    · have hlt' : ¬ (k : Int) < (want.size : Int) := by omega
      go_wp2
      go_ret
      exact ⟨rfl, j, rfl⟩

theorem sent_length (s : ByteArray) : (sent s).length = 4 + min s.size 1024 := by
  have : s.size = s.data.toList.length := by simp
  simp only [sent, hdrC, bcells, List.length_append, List.length_map, List.length_take, List.length_cons, List.length_nil]
  omega
/-- ZZRefuseBytes, its slice written out. -/
theorem zz6' (s : ByteArray) (m : Nat) (hm : m = min s.size 1024) (hs : s.size ≤ 1048576) (w : World) :
    Calls Tryf.prog 6 #[.string s] w fun e w' => ∃ g cap, e = .returned (.slice (some ⟨g, 0, none⟩) (4 + m) cap) ∧ w.heap.size ≤ g ∧ g < w'.heap.size ∧ 4 + m ≤ cap ∧ cap ≤ maxLen ∧
      (∀ j v, (sent s)[j]? = some v → w'.cell? ⟨g, j, none⟩ = some v) ∧ Below w.heap.size w w' := by
  refine (zz6 s hs w).mono ?_
  rintro e w' ⟨v, rfl, ⟨-, ho⟩, hb⟩
  rw [sent_length, ← hm] at ho
  rcases ho with ⟨-, h0⟩ | ⟨g, cap, cur, rfl, hg, hh, h1, h2, h3, h4⟩
  · omega
  · refine ⟨g, cap, rfl, hg, lt_of_heap hh, h1, h2, fun j v hj => ?_, hb⟩
    unfold World.cell?
    rw [hh]
    show cur[j]? = some v
    rw [← h4, List.getElem?_take] at hj
    split at hj
    · simpa using hj
    · cases hj
theorem bytes8 (s : ByteArray) (hs : s.size ≤ maxLen) (w : World) :
    Calls Tryf.prog 8 #[.string s] w fun e w' => e = .returned (.bool (decide (s.size ≤ 1048576))) ∧ w' = w := by
  unfold maxLen at hs
  have hs' : (s.size : Int) ≤ 9223372036854775807 := by omega
  by_cases h : s.size ≤ 1048576
  · have h' : ¬ (1048576 : Int) < (s.size : Int) := by omega
    rw [decide_eq_true h]
    go_enter Tryf.func8, Tryf.ntmps8
    go_wp2
    go_ret
    exact ⟨rfl, rfl⟩
  · have h' : (1048576 : Int) < (s.size : Int) := by omega
    rw [decide_eq_false h]
    go_enter Tryf.func8, Tryf.ntmps8
    go_wp2
    go_ret
    exact ⟨rfl, rfl⟩
end Go.Proofs.Qxb6613412aFmt

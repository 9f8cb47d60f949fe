import Derived.Test.Qxb6613591aProg
import Derived.WalkKit
import Derived.WalkSpells
import Derived.WalkLawsBesides
import Derived.RegionTactic
import Derived.ChangeAlike
import Derived.Laws.CopyRow
namespace Go.Proofs.Qxb6613591a
open Go.RowKit

/-- A column's weight. -/
def wgt (c : Int) : Int := if 48 ≤ c ∧ c ≤ 57 then c - 48 else if c = 45 then 1 else 0
theorem wgt_le (c : Int) : 0 ≤ wgt c ∧ wgt c ≤ 9 := by
  unfold wgt
  by_cases h : 48 ≤ c ∧ c ≤ 57
  · rw [if_pos h]; omega
  · rw [if_neg h]
    by_cases h2 : c = 45
    · rw [if_pos h2]; omega
    · rw [if_neg h2]; omega
theorem wgt_dig (c : Int) (h1 : 48 ≤ c) (h2 : c ≤ 57) : wgt c = c - 48 := by unfold wgt; rw [if_pos ⟨h1, h2⟩]
theorem wgt_high (c : Int) (h2 : 57 < c) : wgt c = 0 := by unfold wgt; rw [if_neg (by omega), if_neg (by omega)]
theorem wgt_minus (c : Int) (h : (c == 45) = true) : wgt c = 1 := by
  have h : c = 45 := by simpa using h
  subst h
  rfl
theorem wgt_low (c : Int) (h1 : ¬ 48 ≤ c) (h : (c == 45) = false) : wgt c = 0 := by
  have h : c ≠ 45 := by simpa using h
  unfold wgt
  rw [if_neg (by omega), if_neg h]
theorem ret_int {k : IntKind} {a b : Int} (h : a = b) : Ending.returned (.int k a) = .returned (.int k b) := by rw [h]
def tot (l : List UInt8) : Int := (l.map fun c => wgt (c.toNat : Int)).sum
theorem tot_snoc (l : List UInt8) (c : UInt8) : tot (l ++ [c]) = tot l + wgt (c.toNat : Int) := by simp [tot]
theorem tot_bd (l : List UInt8) : 0 ≤ tot l ∧ tot l ≤ 9 * l.length := by
  induction l with
  | nil => simp [tot]
  | cons c l ih =>
    have h := wgt_le (c.toNat : Int)
    have e : tot (c :: l) = wgt (c.toNat : Int) + tot l := by simp [tot]
    rw [e]
    simp only [List.length_cons]
    omega
theorem take_snoc (s : ByteArray) (k : Nat) (h : k < s.size) : s.data.toList.take (k + 1) = s.data.toList.take k ++ [s[k]] := by
  rw [List.take_succ_eq_append_getElem (by simpa using h)]; rfl

set_option maxHeartbeats 1000000 in
theorem chk10 (s : ByteArray) (w : World) (hs : s.size ≤ 65536) :
    Calls Try.prog 10 #[.string s] w fun e w' => e = .returned (.int .i64 (tot s.data.toList % 10)) ∧ w' = w := by
  have hs' : (s.size : Int) ≤ 65536 := by omega
  go_enter Try.func10, Try.ntmps10
  go_wp2
  go_loop [3, 4] (fun n i => ∃ k : Nat, k ≤ s.size ∧ i = .int .i64 k ∧ n = .int .i64 (tot (s.data.toList.take k))) (fun _ i => s.size - (intOf i).toNat)
  case atStart => exact ⟨0, Nat.zero_le _, rfl, rfl⟩
  case round =>
    obtain ⟨k, hk, rfl, rfl⟩ := hrel
    have hd := tot_bd (s.data.toList.take k)
    have hl : (s.data.toList.take k).length ≤ k := List.length_take_le _ _
    by_cases hlt : k < s.size
    · have HS : Hid (tot (s.data.toList.take (k + 1)) = tot (s.data.toList.take k) + wgt (s[k].toNat : Int)) := by rw [take_snoc s k hlt]; exact tot_snoc _ _
      go_wp2
      · have t1 : 48 ≤ (s[k].toNat : Int) := by assumption
        have t2 : (s[k].toNat : Int) ≤ 57 := by assumption
        go_round
        case rel => exact ⟨k + 1, by omega, by go_num, by rw [HS.out, wgt_dig _ t1 t2]⟩
        case measure => simp [intOf]; omega
      · have t2 : 57 < (s[k].toNat : Int) := by assumption
        go_round
        case rel => exact ⟨k + 1, by omega, by go_num, by rw [HS.out, wgt_high _ t2, Int.add_zero]⟩
        case measure => simp [intOf]; omega
      · have t2 : ((s[k].toNat : Int) == 45) = true := by assumption
        go_round
        case rel => exact ⟨k + 1, by omega, by go_num, by rw [HS.out, wgt_minus _ t2]⟩
        case measure => simp [intOf]; omega
      · have t1 : ¬ 48 ≤ (s[k].toNat : Int) := by assumption
        have t2 : ((s[k].toNat : Int) == 45) = false := by assumption
        go_round
        case rel => exact ⟨k + 1, by omega, by go_num, by rw [HS.out, wgt_low _ t1 t2, Int.add_zero]⟩
        case measure => simp [intOf]; omega
    · go_wp2
      go_ret
      exact ⟨ret_int (by rw [List.take_of_length_le (by simp; omega)]), rfl⟩

/-- One column changed. -/
def bmp (c : Int) : Int := if 48 ≤ c ∧ c ≤ 56 then c + 1 else if c = 57 then 48 else if c = 45 then 50 else 49
theorem bump6 (c : Int) (h0 : 0 ≤ c) (h1 : c ≤ 255) (w : World) :
    Calls Try.prog 6 #[.int .u8 c] w fun e w' => e = .returned (.int .u8 (bmp c)) ∧ w' = w := by
  by_cases a1 : 48 ≤ c
  · by_cases a2 : c ≤ 56
    · have e : bmp c = c + 1 := by unfold bmp; rw [if_pos ⟨a1, a2⟩]
      rw [e]
      go_enter Try.func6, Try.ntmps6
      go_wp2
      go_ret
      exact ⟨rfl, rfl⟩
    · by_cases a3 : c = 57
      · subst a3
        go_enter Try.func6, Try.ntmps6
        go_wp2
        go_ret
        exact ⟨rfl, rfl⟩
      · have e : bmp c = 49 := by unfold bmp; rw [if_neg (by omega), if_neg (by omega), if_neg (by omega)]
        have a4 : (c == 57) = false := by simpa using a3
        have a5 : (c == 45) = false := by simp; omega
        rw [e]
        go_enter Try.func6, Try.ntmps6
        go_wp2
        go_ret
        exact ⟨rfl, rfl⟩
  · by_cases a3 : c = 45
    · subst a3
      go_enter Try.func6, Try.ntmps6
      go_wp2
      go_ret
      exact ⟨rfl, rfl⟩
    · have e : bmp c = 49 := by unfold bmp; rw [if_neg (by omega), if_neg (by omega), if_neg (by omega)]
      have a4 : (c == 57) = false := by simp; omega
      have a5 : (c == 45) = false := by simpa using a3
      rw [e]
      go_enter Try.func6, Try.ntmps6
      go_wp2
      go_ret
      exact ⟨rfl, rfl⟩
theorem bmp_bd (c : Int) : 0 ≤ bmp c ∧ bmp c ≤ 57 := by
  unfold bmp
  split
  · omega
  · split
    · omega
    · split <;> omega
theorem wgt_bmp (c : Int) : (wgt (bmp c)) % 10 = (wgt c + 1) % 10 := by
  by_cases a1 : 48 ≤ c ∧ c ≤ 56
  · have e : bmp c = c + 1 := by unfold bmp; rw [if_pos a1]
    rw [e, wgt_dig _ (by omega) (by omega), wgt_dig _ (by omega) (by omega)]
    omega
  · by_cases a2 : c = 57
    · subst a2; rfl
    · by_cases a3 : c = 45
      · subst a3; rfl
      · have e : bmp c = 49 := by unfold bmp; rw [if_neg a1, if_neg a2, if_neg a3]
        have e2 : wgt c = 0 := by unfold wgt; rw [if_neg (by omega), if_neg a3]
        rw [e, e2]
        rfl
theorem zz4 (ao : Option Addr) (len cap : Nat) (k : Int) (w : World) (hlen : len ≤ 9223372036854775807) :
    Calls Try.prog 4 #[.slice ao len cap, .int .i64 k] w fun e w' => e = .returned (.bool (decide (len ≤ 1048576))) ∧ w' = w := by
  have hl : (len : Int) ≤ 9223372036854775807 := by omega
  by_cases h : len ≤ 1048576
  · have h' : ¬ (1048576 : Int) < (len : Int) := by omega
    rw [decide_eq_true h]
    go_enter Try.func4, Try.ntmps4
    go_wp2
    go_ret
    exact ⟨rfl, rfl⟩
  · have h' : (1048576 : Int) < (len : Int) := by omega
    rw [decide_eq_false h]
    go_enter Try.func4, Try.ntmps4
    go_wp2
    go_ret
    exact ⟨rfl, rfl⟩
end Go.Proofs.Qxb6613591a

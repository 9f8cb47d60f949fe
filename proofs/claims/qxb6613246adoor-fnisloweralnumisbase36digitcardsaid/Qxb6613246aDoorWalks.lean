import Derived.Test.Qxb6613246aDoorProg
import Derived.WalkKit
import Derived.WalkSpells
import Derived.WalkLawsBesides
namespace Go.Proofs.Qxb6613246aDoor
open Go.RowKit

def Z65 : Array Value := Array.replicate 65 (.int .u8 0)
theorem zero36 (w : World) : (zeroValue 36).run Tryd.prog w = .ok (.agg Z65) w := by kernel_rfl

theorem conv65 (b : UInt8) (w : World) : (convert 29 9 (.slice (some ⟨w.heap.size, 64, none⟩) 1 1)).run Tryd.prog (w.alloc (.cells (Z65.setIfInBounds 64 (.int .u8 (b.toNat : Int))) 36)) =
    .ok (.string ⟨#[b]⟩) (w.alloc (.cells (Z65.setIfInBounds 64 (.int .u8 (b.toNat : Int))) 36)) := by
  refine run_convert_bytes_back (P := Tryd.prog) _ 29 9 5 ⟨w.heap.size, 64, none⟩ 1 [b] Tryd.underlying29 Tryd.underlying5 Tryd.underlying9 ?_
  intro j hj
  have : j = 0 := by simpa using hj
  subst this
  rw [show (⟨w.heap.size, 64, none⟩ : Addr).add 0 = ⟨w.heap.size, 64, none⟩ from rfl, World.cell?_alloc_mark]
  simp [Z65]

def digs : ByteArray := ⟨#[48, 49, 50, 51, 52, 53, 54, 55, 56, 57, 97, 98, 99, 100, 101, 102, 103, 104, 105, 106, 107, 108, 109, 110, 111, 112, 113, 114, 115, 116, 117, 118, 119, 120, 121, 122]⟩
def dig36 (k : Nat) : UInt8 := digs.data.toList.getD k 0
theorem dig36_eq : ∀ k (hk : k < 36), (⟨#[48, 49, 50, 51, 52, 53, 54, 55, 56, 57, 97, 98, 99, 100, 101, 102, 103, 104, 105, 106, 107, 108, 109, 110, 111, 112, 113, 114, 115, 116, 117, 118, 119, 120, 121, 122]⟩ : ByteArray)[k]'hk = dig36 k := by decide

set_option maxHeartbeats 1000000 in
theorem formatBits_any (k : Nat) (hk : k < 36) (w : World) :
    Calls Tryd.prog 11 #[.slice none 0 0, .int .u64 k, .int .i64 36, .bool false, .bool false] w fun e w' => e = .returned (.tuple #[.slice none 0 0, .string ⟨#[dig36 k]⟩]) ∧ Below w.heap.size w w' := by
  have hz := zero36
  have hcv := fun b => conv65 b w
  have hb : (bits BinOp.and IntKind.i64 36 35 == 0) = false := by decide
  have hk' : (k : Int) < 36 := by omega
  go_enter Tryd.func11, Tryd.ntmps11
  go_wp2
  refine wp_loop_rounds 1 ?_
  rw [rounds_succ]
  go_wp2
  go_ret2
  exact ⟨by rw [dig36_eq k hk]; rfl, (Below.refl _ _).alloc (Nat.le_refl _) _⟩

theorem formatInt6 (k : Nat) (hk : k < 36) (w : World) :
    Calls Tryd.prog 6 #[.int .i64 k, .int .i64 36] w fun e w' => e = .returned (.string ⟨#[dig36 k]⟩) ∧ Below w.heap.size w w' := by
  have hk' : (k : Int) < 36 := by omega
  go_enter Tryd.func6, Tryd.ntmps6
  go_wp2_with (go_at_call 11; refine (formatBits_any k hk _).mono ?_; rintro e w' ⟨rfl, hb⟩)
  go_ret
  exact ⟨rfl, hb⟩
theorem formatInt4 (k : Nat) (hk : k < 36) (w : World) :
    Calls Tryd.prog 4 #[.int .i64 k, .int .i64 36] w fun e w' => e = .returned (.string ⟨#[dig36 k]⟩) ∧ Below w.heap.size w w' := by
  go_enter Tryd.func4, Tryd.ntmps4
  go_wp2_with (go_at_call 6; refine (formatInt6 k hk _).mono ?_; rintro e w' ⟨rfl, hb⟩)
  go_ret
  exact ⟨rfl, hb⟩

/-- 'is one of the first k digits', as the loop gathers it. -/
def foundB (c : Int) : Nat → Bool
  | 0 => false
  | k + 1 => foundB c k || ((dig36 k).toNat : Int) == c
def lowB (c : Int) : Bool := (decide (97 ≤ c) && decide (c ≤ 122)) || (decide (48 ≤ c) && decide (c ≤ 57))

theorem low7 (c : Int) (h0 : 0 ≤ c) (h1 : c ≤ 255) (w : World) :
    Calls Tryd.prog 7 #[.int .u8 c] w fun e w' => e = .returned (.bool (lowB c)) ∧ w' = w := by
  by_cases a1 : 97 ≤ c
  · by_cases a2 : c ≤ 122
    · have e1 : lowB c = true := by simp [lowB, a1, a2]
      rw [e1]
      go_enter Tryd.func7, Tryd.ntmps7
      go_wp2
      go_ret
      exact ⟨rfl, rfl⟩
    · have a3 : 48 ≤ c := by omega
      have a4 : ¬ c ≤ 57 := by omega
      have e1 : lowB c = false := by simp [lowB, a2, a4]
      rw [e1]
      go_enter Tryd.func7, Tryd.ntmps7
      go_wp2
      go_ret
      exact ⟨rfl, rfl⟩
  · by_cases a2 : 48 ≤ c
    · by_cases a3 : c ≤ 57
      · have e1 : lowB c = true := by simp [lowB, a2, a3]
        rw [e1]
        go_enter Tryd.func7, Tryd.ntmps7
        go_wp2
        go_ret
        exact ⟨rfl, rfl⟩
      · have e1 : lowB c = false := by simp [lowB, a1, a3]
        rw [e1]
        go_enter Tryd.func7, Tryd.ntmps7
        go_wp2
        go_ret
        exact ⟨rfl, rfl⟩
    · have e1 : lowB c = false := by simp [lowB, a1, a2]
      rw [e1]
      go_enter Tryd.func7, Tryd.ntmps7
      go_wp2
      go_ret
      exact ⟨rfl, rfl⟩

theorem law_plain (c : Int) (h0 : 0 ≤ c) (h1 : c ≤ 255) : (lowB c == foundB c 36) = true := by
  obtain ⟨n, rfl⟩ := Int.eq_ofNat_of_zero_le h0
  have hn : n < 256 := by omega
  have : ∀ n : Fin 256, (lowB ((n.val : Nat) : Int) == foundB ((n.val : Nat) : Int) 36) = true := by decide +kernel
  exact this ⟨n, hn⟩
set_option maxHeartbeats 1000000 in
theorem law3 (c : Int) (h0 : 0 ≤ c) (h1 : c ≤ 255) (w : World) :
    Calls Tryd.prog 3 #[.int .u8 c] w fun e w' => e = .returned (.bool true) ∧ Below w.heap.size w w' := by
  have hL := law_plain c h0 h1
  have HL : Hid ((lowB c == foundB c 36) = true) := hL
  clear hL
  go_enter Tryd.func3, Tryd.ntmps3
  go_wp2
  go_loopw [3, 4] (fun f i wr => ∃ k : Nat, k ≤ 36 ∧ i = .int .i64 k ∧ f = .bool (foundB c k) ∧ Below w.heap.size w wr) (fun _ i _ => 36 - (intOf i).toNat)
  case atStart => exact ⟨0, by omega, rfl, rfl, Below.refl _ _⟩
  case round =>
    obtain ⟨k, hk, rfl, rfl, hb⟩ := hrel
    by_cases hlt : k < 36
    · have hlt' : (k : Int) < 36 := by omega
      go_wp2_with (go_at_call 4; refine (formatInt4 k hlt _).mono ?_; rintro e w1 ⟨rfl, hb1⟩)
      · have ht : (((dig36 k).toNat : Int) == c) = true := by assumption
        go_roundw
        case rel => exact ⟨k + 1, by omega, by go_num, by simp only [foundB]; rw [ht, Bool.or_true], hb.trans (hb1.mono hb.size)⟩
        case measure => simp [intOf]; omega
      · have ht : (((dig36 k).toNat : Int) == c) = false := by assumption
        go_roundw
        case rel => exact ⟨k + 1, by omega, by go_num, by simp only [foundB]; rw [ht, Bool.or_false], hb.trans (hb1.mono hb.size)⟩
        case measure => simp [intOf]; omega
    · have hlt' : ¬ (k : Int) < 36 := by omega
      obtain rfl : k = 36 := by omega
      go_wp2_with (first | (go_at_call 5; go_in) | (go_at_call 7; refine (low7 c h0 h1 _).mono ?_; rintro e w1 ⟨rfl, rfl⟩) | go_in)
      go_ret
      refine ⟨?_, hb⟩
      rw [← HL.out]
      rfl
end Go.Proofs.Qxb6613246aDoor

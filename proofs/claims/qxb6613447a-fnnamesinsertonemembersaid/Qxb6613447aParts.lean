import Derived.Test.Qxb6613447aProg
import Derived.WalkKit
import Derived.WalkSpells
import Derived.WalkLawsBesides
import Derived.RegionTactic
import Derived.ChangeAlike
import Derived.Laws.EntriesVeiled
namespace Go.Proofs.Qxb6613447a
open Go.RowKit

/-- What the walks are told of the schema that came in: where it is not empty it lies at ⟨b, off⟩, two cells an element: the name, the flag. -/
structure IsSchema (w : World) (ao : Option Addr) (len : Nat) (b off : Nat) (nm : Nat → ByteArray) (rq : Nat → Bool) : Prop where
  at_ : 0 < len → ao = some ⟨b, off, none⟩
  lt : 0 < len → b < w.heap.size
  name : ∀ i, i < len → w.cell? ⟨b, off + i * 2, none⟩ = some (.string (nm i))
  flag : ∀ i, i < len → w.cell? ⟨b, off + i * 2 + 1, none⟩ = some (.bool (rq i))
  size : ∀ i, i < len → (nm i).size ≤ 9223372036854775807

def IsBoolR (e : Ending) : Prop := ∃ r, e = .returned (.bool r)
def IsIntR (e : Ending) : Prop := ∃ t, e = .returned (.int .i64 t)
set_option maxHeartbeats 1000000 in
theorem zz4 (ao : Option Addr) (len cap b off : Nat) (nm : Nat → ByteArray) (rq : Nat → Bool) (k : Int) (name : ByteArray) (req : Bool) (w : World) (h : IsSchema w ao len b off nm rq) (hlen : len ≤ 9223372036854775807) :
    Calls Try.prog 4 #[.slice ao len cap, .int .i64 k, .string name, .bool req] w fun e w' => IsBoolR e ∧ w' = w := by
  have hlen' : (len : Int) ≤ 9223372036854775807 := by omega
  go_enter Try.func4, Try.ntmps4
  go_wp2
  · go_ret
    exact ⟨⟨_, rfl⟩, rfl⟩
  · have hl2 : (len : Int) ≤ 1048576 := by assumption
    go_loop [9, 10] (fun z i => ∃ (t : Int) (k : Nat), k ≤ len ∧ z = .int .i64 t ∧ i = .int .i64 k) (fun _ i => len - (intOf i).toNat)
    case atStart => exact ⟨_, 0, Nat.zero_le _, rfl, rfl⟩
    case round =>
      obtain ⟨t, k, hk, rfl, rfl⟩ := hrel
      by_cases hlt : k < len
      · have hlt' : (k : Int) < (len : Int) := by omega
        have e := h.at_ (by omega)
        have c0 := h.name k hlt
        go_wp2
        · go_ret
          exact ⟨⟨_, rfl⟩, rfl⟩
        · go_ret
          exact ⟨⟨_, rfl⟩, rfl⟩
        · go_round
          case rel => exact ⟨_, k + 1, by omega, rfl, by go_num⟩
          case measure => simp [intOf]; omega
      · have hlt' : ¬ (k : Int) < (len : Int) := by omega
        go_wp2
        all_goals go_ret
        all_goals exact ⟨⟨_, rfl⟩, rfl⟩

set_option maxHeartbeats 1000000 in
theorem add5 (ao : Option Addr) (len cap b off : Nat) (nm : Nat → ByteArray) (rq : Nat → Bool) (t0 : Int) (w : World) (h : IsSchema w ao len b off nm rq) (hlen : len ≤ 65536) :
    Calls Try.prog 5 #[.int .i64 t0, .slice ao len cap] w fun e w' => IsIntR e ∧ w' = w := by
  have hlen' : (len : Int) ≤ 65536 := by omega
  go_enter Try.func5, Try.ntmps5
  go_wp2
  · go_ret
    exact ⟨⟨_, rfl⟩, rfl⟩
  · go_loop [0, 5] (fun z i => ∃ (t : Int) (k : Nat), k ≤ len ∧ z = .int .i64 t ∧ i = .int .i64 k) (fun _ i => len - (intOf i).toNat)
    case atStart => exact ⟨_, 0, Nat.zero_le _, rfl, rfl⟩
    case round =>
      obtain ⟨t, k, hk, rfl, rfl⟩ := hrel
      by_cases hlt : k < len
      · have hlt' : (k : Int) < (len : Int) := by omega
        have e := h.at_ (by omega)
        have c0 := h.name k hlt
        go_wp2
        · go_ret
          exact ⟨⟨_, rfl⟩, rfl⟩
        · go_round
          case rel => exact ⟨_, k + 1, by omega, rfl, by go_num⟩
          case measure => simp [intOf]; omega
      · have hlt' : ¬ (k : Int) < (len : Int) := by omega
        go_wp2
        go_ret
        exact ⟨⟨_, rfl⟩, rfl⟩
theorem new9 (s : ByteArray) (r : Bool) (w : World) :
    Calls Try.prog 9 #[.string s, .bool r] w fun e w' => e = .returned (.agg #[.string s, .bool r, .nilFunc]) ∧ w' = w.alloc (.cells #[.string s, .bool r, .nilFunc] 33) := by
  go_enter Try.func9, Try.ntmps9
  go_wp2
  refine bodyPost_ret (v := .agg #[.string s, .bool r, .nilFunc]) (by simp [results, Try.results9, go_sem]) rfl ⟨rfl, rfl⟩
end Go.Proofs.Qxb6613447a

import Derived.Test.Qxb6613412aFmtRefuse
namespace Go.Proofs.Qxb6613412aFmt
open Go.RowKit

theorem heap4 (w : World) (a b c d : Obj) : ((((w.alloc a).alloc b).alloc c).alloc d).heap[w.heap.size]? = some a ∧ ((((w.alloc a).alloc b).alloc c).alloc d).heap[w.heap.size + 1]? = some b ∧
    ((((w.alloc a).alloc b).alloc c).alloc d).heap[w.heap.size + 1 + 1]? = some c ∧ ((((w.alloc a).alloc b).alloc c).alloc d).heap[w.heap.size + 1 + 1 + 1]? = some d := by
  show ((((w.heap.push a).push b).push c).push d)[w.heap.size]? = some a ∧ ((((w.heap.push a).push b).push c).push d)[w.heap.size + 1]? = some b ∧ ((((w.heap.push a).push b).push c).push d)[w.heap.size + 1 + 1]? = some c ∧ ((((w.heap.push a).push b).push c).push d)[w.heap.size + 1 + 1 + 1]? = some d
  refine ⟨?_, ?_, ?_, ?_⟩
  · rw [Array.getElem?_push, if_neg (by simp; omega), Array.getElem?_push, if_neg (by simp; omega), Array.getElem?_push, if_neg (by simp), Array.getElem?_push, if_pos rfl]
  · rw [Array.getElem?_push, if_neg (by simp), Array.getElem?_push, if_neg (by simp), Array.getElem?_push, if_pos (by simp)]
  · rw [Array.getElem?_push, if_neg (by simp), Array.getElem?_push, if_pos (by simp)]
  · rw [Array.getElem?_push, if_pos (by simp)]
theorem below4 (w : World) (a b c d : Obj) : Below w.heap.size w ((((w.alloc a).alloc b).alloc c).alloc d) :=
  ((((Below.refl _ w).alloc (Nat.le_refl _) _).alloc (by simp) _).alloc (by simp; omega) _).alloc (by simp; omega) _

set_option maxRecDepth 100000 in
set_option maxHeartbeats 1000000 in
/-- ZZRefuseBytes: the bytes that a refusal sends, in memory of the call's own. -/
theorem zz6 (s : ByteArray) (hs : s.size ≤ 1048576) (w : World) :
    Calls Tryf.prog 6 #[.string s] w fun e w' => ∃ v, e = .returned v ∧ w'.ownsRow w.heap.size 5 1 v (sent s).length (sent s) ∧ Below w.heap.size w w' := by
  have HC : Hid (Calls Tryf.prog 10 #[.pointer (some ⟨w.heap.size + 1 + 1, 0, none⟩), .iface 47 (.pointer (some ⟨w.heap.size + 1 + 1 + 1, 0, none⟩))]
      ((((w.alloc (.cells #[.slice none 0 0, .int .i64 0, .int .i8 0] 31)).alloc (.cells Z4096 5)).alloc (.cells #[.nilIface, .slice (some ⟨w.heap.size + 1, 0, none⟩) 4096 4096, .int .i64 0, .iface 34 (.pointer (some ⟨w.heap.size, 0, none⟩))] 52)).alloc (.cells #[.string s] 49))
      fun e w' => e = .returned (.tuple #[]) ∧ Lib.IsBuffer 31 5 w.heap.size w.heap.size (sent s) w' ∧ Below w.heap.size w w') := by
    obtain ⟨h0, h1, h2, h3⟩ := heap4 w (.cells #[.slice none 0 0, .int .i64 0, .int .i8 0] 31) (.cells Z4096 5) (.cells #[.nilIface, .slice (some ⟨w.heap.size + 1, 0, none⟩) 4096 4096, .int .i64 0, .iface 34 (.pointer (some ⟨w.heap.size, 0, none⟩))] 52) (.cells #[.string s] 49)
    have hb := below4 w (.cells #[.slice none 0 0, .int .i64 0, .int .i8 0] 31) (.cells Z4096 5) (.cells #[.nilIface, .slice (some ⟨w.heap.size + 1, 0, none⟩) 4096 4096, .int .i64 0, .iface 34 (.pointer (some ⟨w.heap.size, 0, none⟩))] 52) (.cells #[.string s] 49)
    refine (refuse10 s hs w.heap.size (w.heap.size + 1 + 1) (w.heap.size + 1) w.heap.size (w.heap.size + 1 + 1 + 1) Z4096.toList _ (by unfold World.cell?; rw [h3]; rfl) h2 (by omega) (by rw [h1, Array.toArray_toList]) (by rw [Array.length_toList, Z4096, size_madeCells]) h0 (by omega) (by omega) (by omega) (by omega) (by omega)).mono ?_
    rintro e w' ⟨rfl, hi, hb'⟩
    exact ⟨rfl, hi, hb.trans hb'⟩
  go_enter Tryf.func6, Tryf.ntmps6
  go_wp2_with (first | (go_at_call 9; refine (new9 _ _).mono ?_; rintro e w' ⟨rfl, rfl⟩) | (go_at_call 11; refine (new11 _ _).mono ?_; rintro e w' ⟨rfl, rfl⟩))
  refine (Hid.out HC).mono ?_
  rintro e w1 ⟨rfl, hi, hb⟩
  have HR : Hid (Below w.heap.size w w1) := hb
  have HI := Buffer_Bytes _ _ _ _ hi
  have HJ : Hid (Calls Tryf.prog 12 #[.pointer (some ⟨w.heap.size, 0, none⟩)] w1 fun e w' => ∃ v, e = .returned v ∧ w'.ownsRow w.heap.size 5 1 v (sent s).length (sent s) ∧ ∃ n, w' = w1.drewN n) := HI
  clear hi hb HC HI
  go_wp2_with fail
  refine (Hid.out HJ).mono ?_
  rintro e w2 ⟨v, rfl, ho, n, rfl⟩
  have HO : Hid ((w1.drewN n).ownsRow w.heap.size 5 1 v (sent s).length (sent s)) := ho
  clear ho HJ
  go_wp2
  go_ret
  exact ⟨v, rfl, HO.out, ⟨HR.out.os, HR.out.tape, HR.out.output, HR.out.size, HR.out.block⟩⟩
end Go.Proofs.Qxb6613412aFmt

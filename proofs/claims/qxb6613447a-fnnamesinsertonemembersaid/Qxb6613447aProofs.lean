/-
  FnNamesInsertOneMember: from the walk to the row.
-/
import Derived.Test.Qxb6613447aRows
import Derived.Test.Qxb6613447aWalks
import Derived.ProofKit
import Derived.OpenShut
import Derived.ShutString
import Derived.ChangeOld
import Derived.Below
import Derived.Deep.SlicePairs
namespace Go.Proofs.Qxb6613447a
open Go.ChangeShapes Go.WideShapes Go.ChangeAt Go.RowKit
open Go.ChangeMaps (open_string shut_string)

theorem own : ownKnob Try.prog.godebug = none := by kernel_rfl
theorem laidOut : laidOutB Try.prog = true := by kernel_rfl

def strOf : Value → ByteArray | .string s => s | _ => ByteArray.empty
def boolOf : Value → Bool | .bool r => r | _ => false

theorem schema_of {H : Type} {enc : TypeId × Value → H} {W : World} {a0 : Option Addr} {len0 cap0 fuel : Nat} {x : DataW H × List MemPlace}
    (h : DataW.trod enc Try.prog W 0 (fun _ => true) true fuel 22 [.slice a0 len0 cap0] = some x) :
    len0 ≤ 9223372036854775807 ∧ ∃ b off nm rq, IsSchema W a0 len0 b off nm rq := by
  rcases Deep.open_slice_pairs Try.underlying22 Try.underlying26 (by kernel_rfl) rfl rfl (by kernel_rfl) (by kernel_rfl) h with ⟨hcs, -⟩ | ⟨a, len, cap, m, n, V0, V1, D0, D1, P0, P1, hcs, -, hl, hm, hmm, -, hx⟩
  · simp only [List.cons.injEq, Value.slice.injEq, and_true] at hcs
    obtain ⟨rfl, rfl, rfl⟩ := hcs
    exact ⟨by omega, 0, 0, fun _ => ByteArray.empty, fun _ => false, ⟨fun h => by omega, fun h => by omega, fun i h => by omega, fun i h => by omega, fun i h => by omega⟩⟩
  · simp only [List.cons.injEq, Value.slice.injEq, and_true] at hcs
    obtain ⟨rfl, rfl, rfl⟩ := hcs
    have hmc : len0 ≤ m := by rw [hmm]; simp; exact hl
    unfold maxLen at hm
    have hspot : 0 < len0 → a = ⟨a.block, a.off, none⟩ := fun h0 => by
      obtain ⟨c0, -⟩ := hx 0 (by omega)
      have := World.cell?_spot c0
      obtain ⟨b, off, spot⟩ := a
      have hs : spot = none := by simpa [Addr.add] using this
      rw [hs]
    have hadd : ∀ i j, i < len0 → a.add j = ⟨a.block, a.off + j, none⟩ := fun i j hi => by
      rw [hspot (by omega)]
      unfold Addr.add
      split <;> simp_all
    refine ⟨by omega, a.block, a.off, fun i => strOf (V0 i), fun i => boolOf (V1 i), ⟨fun h0 => by rw [← hspot h0], fun h0 => ?_, fun i hi => ?_, fun i hi => ?_, fun i hi => ?_⟩⟩
    · obtain ⟨c0, -⟩ := hx 0 (by omega)
      rw [hadd 0 _ h0] at c0
      have := block_lt_of_cell c0
      exact this
    · obtain ⟨c0, c1, t0, t1⟩ := hx i (by omega)
      obtain ⟨s, es, -, -⟩ := DataW.trod_string Try.underlying9 t0
      simp only [List.cons.injEq, and_true] at es
      rw [hadd i _ hi, es] at c0
      rw [c0, es]
      rfl
    · obtain ⟨c0, c1, t0, t1⟩ := hx i (by omega)
      obtain ⟨r, er, -⟩ := DataW.trod_bool Try.underlying4 t1
      simp only [List.cons.injEq, and_true] at er
      rw [hadd i _ hi, er] at c1
      rw [← Nat.add_assoc] at c1
      rw [c1, er]
      rfl
    · obtain ⟨c0, c1, t0, t1⟩ := hx i (by omega)
      obtain ⟨s, es, -, hs⟩ := DataW.trod_string Try.underlying9 t0
      simp only [List.cons.injEq, and_true] at es
      unfold maxLen at hs
      rw [es]
      show s.size ≤ _
      omega

set_option maxRecDepth 100000 in
theorem lifted (os : Os) (started : os.Started) (H : Type) (enc : TypeId × Value → H) :
    ReturnsInHanded {} Try.checked os 3 .any (Rows.fnNamesInsertOneMemberSpec.pre6 enc Try.prog Try.f3 Rows.fnNamesInsertOneMemberRow.domain false) (Rows.fnNamesInsertOneMemberSpec.post enc Try.prog Try.f3 false true false false) := by
  refine returnsInHanded_of_change (C := Try.checked) own started (by kernel_rfl) Try.func3
    (ChangeSpec.witness6 (enc := enc) (C := Try.checked) false ⟨#[], #[.slice none 0 0, .int .i64 0, .string ⟨#[]⟩, .bool false], []⟩ 8 (by kernel_rfl) (by kernel_rfl) (by kernel_rfl) (by kernel_rfl)) ?_
  intro W base args ds gs before hval0 hW _ _
  have hval : ∀ (j : Nat) t v, Try.f3.params[j]? = some t → args[j]? = some v → Value.okWide Try.prog W .any base t v := hval0
  have hW' := hW
  obtain ⟨p, q, hA0, hV, rfl, hfz, hnd⟩ := hW
  have hA : DataW.TrodAll enc Try.prog W 0 (fun _ => true) true Try.f3.params.toList args.toList ds p := hA0
  rw [Try.params3] at hA hval
  obtain ⟨v0, vs0, d0, ds0, p0, q0, hargs, rfl, rfl, h0, r0⟩ := trodAll_cons hA
  obtain ⟨v1, vs1, d1, ds1, p1, q1, rfl, rfl, rfl, h1, r1⟩ := trodAll_cons r0
  obtain ⟨v2, vs2, d2, ds2, p2, q2, rfl, rfl, rfl, h2, r2⟩ := trodAll_cons r1
  obtain ⟨v3, vs3, d3, ds3, p3, q3, rfl, rfl, rfl, h3, r3⟩ := trodAll_cons r2
  obtain ⟨rfl, rfl, rfl⟩ := trodAll_nil r3
  obtain rfl : args = #[v0, v1, v2, v3] := by cases args; simp_all
  obtain ⟨rfl, rfl⟩ := trodVars_none hV
  obtain ⟨a0, len0, cap0, rfl⟩ := okWide_slice Try.underlying22 (hval 0 22 v0 rfl rfl)
  have k0 := h0
  have lt0 : ∀ x ∈ p0, x.block < W.heap.size := by obtain ⟨m, hm⟩ := k0; exact DataW.trod_lt m _ _ _ hm
  obtain ⟨hlen, b, off, nm, rq, hsch⟩ : len0 ≤ 9223372036854775807 ∧ ∃ b off nm rq, IsSchema W a0 len0 b off nm rq := by
    obtain ⟨fuel, hf⟩ := h0
    exact schema_of (cap0 := cap0) (fuel := fuel) (by simpa [Value.cells] using hf)
  obtain ⟨a1, rfl, rfl, rfl, w1⟩ := open_int Try.underlying3 (hval 1 3 v1 rfl rfl) h1
  obtain ⟨s2, rfl, rfl, rfl, w2⟩ := open_string Try.underlying9 (hval 2 9 v2 rfl rfl) h2
  obtain ⟨r3', rfl, rfl, rfl⟩ := open_bool Try.underlying4 (hval 3 4 v3 rfl rfl) h3
  clear hA0 hval0
  have hs2 : s2.size ≤ 9223372036854775807 := by unfold maxLen at w2; omega
  refine (law a0 len0 cap0 b off nm rq a1 s2 r3' W hsch hlen hs2).mono fun e W' ⟨he, bel⟩ => ?_
  subst he
  exact ⟨_, rfl, _, _, _, [], _, [], hW', trodAll_mk1 (shut_bool Try.underlying4 _), (trodAll_cons_mk (Below.trod laidOut (by kernel_rfl) (of_decide_eq_true (by kernel_rfl)) k0 bel lt0) (trodAll_cons_mk (shut_int Try.underlying3 w1) (trodAll_cons_mk (shut_string Try.underlying9 w2) (trodAll_cons_mk (shut_bool Try.underlying4 _) trodAll_mk0)))), rfl, bel.frame _, fun h => by cases h⟩

/-- The statement. -/
theorem proved : Rows.FnNamesInsertOneMemberSaid :=
  OpenClaim.holds_of_wide 3 Try.f3 rfl rfl rfl rfl rfl rfl rfl ⟨rfl, rfl, rfl, rfl, rfl⟩ rfl rfl rfl rfl rfl (by kernel_rfl) Try.func3 (by kernel_rfl)
    (of_decide_eq_true (by kernel_rfl)) (by unfold Func.isWrapper; first | (rw [if_pos (by decide +kernel)]; kernel_rfl) | (rw [if_neg (by decide +kernel)]; exact ⟨rfl, rfl⟩))
    (fun os started H enc _ => lifted os started H enc)
end Go.Proofs.Qxb6613447a

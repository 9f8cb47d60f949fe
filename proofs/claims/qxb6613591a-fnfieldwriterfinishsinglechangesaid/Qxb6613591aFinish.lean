import Derived.Test.Qxb6613591aClone
import Derived.Deep.RegionHeld3
namespace Go.Proofs.Qxb6613591a
open Go.RowKit
/-- The line that finish leaves: its 69th column holds the check digit. -/
def dgt (bs : List UInt8) : UInt8 := UInt8.ofNat (48 + tot (bs.take 68) % 10).toNat
def fin (bs : List UInt8) : List UInt8 := bs.set 68 (dgt bs)
theorem dgt_toNat (bs : List UInt8) : ((dgt bs).toNat : Int) = 48 + tot (bs.take 68) % 10 := by
  have h := tot_bd (bs.take 68)
  unfold dgt
  rw [UInt8.toNat_ofNat']
  omega
theorem conv_row {w : World} {g n c : Nat} {bs : List UInt8} (hg : w.heap[g]? = some (.cells (bcells bs).toArray 5 (0, 0))) (hn : n ≤ bs.length) :
    (convert 22 9 (.slice (some ⟨g, 0, none⟩) n c)).run Try.prog w = .ok (.string ⟨(bs.take n).toArray⟩) w := by
  have h := run_convert_bytes_back (P := Try.prog) w 22 9 5 ⟨g, 0, none⟩ c (bs.take n) Try.underlying22 Try.underlying5 Try.underlying9 (fun j hj => by
    rw [addr_add, Nat.zero_add]
    unfold World.cell?
    rw [hg]
    show (bcells bs).toArray[j]? = _
    rw [List.getElem?_toArray, bcells, List.getElem?_map]
    have hj' : j < bs.length := by simp at hj; omega
    rw [List.getElem?_eq_getElem hj', List.getElem_take]
    rfl)
  rw [List.length_take, Nat.min_eq_left hn] at h
  exact h

theorem conv_set {w : World} {g c : Nat} {bs : List UInt8} (hg : w.heap[g]? = some (.cells (bcells bs).toArray 5 (0, 0))) (hn : 68 ≤ bs.length) (x : Int) :
    (convert 22 9 (.slice (some ⟨g, 0, none⟩) 68 c)).run Try.prog (w.setCell ⟨g, 68, none⟩ (.int .u8 x)).drew = .ok (.string ⟨(bs.take 68).toArray⟩) (w.setCell ⟨g, 68, none⟩ (.int .u8 x)).drew := by
  have hs : (w.setCell ⟨g, 68, none⟩ (.int .u8 x)).drew.heap[g]? = some (.cells ((bcells bs).toArray.setIfInBounds 68 (.int .u8 x)) 5 (0, 0)) := by
    show (w.setCell ⟨g, 68, none⟩ (.int .u8 x)).heap[g]? = _
    rw [setCell_eq_setRow w g 68 _ 5 (0, 0) _ hg, setRow_heap w g _ _ 5 (0, 0) hg]
  have h := run_convert_bytes_back (P := Try.prog) (w.setCell ⟨g, 68, none⟩ (.int .u8 x)).drew 22 9 5 ⟨g, 0, none⟩ c (bs.take 68) Try.underlying22 Try.underlying5 Try.underlying9 (fun j hj => by
    have hj1 : j < 68 := by simp at hj; omega
    have hj' : j < bs.length := by omega
    rw [addr_add, Nat.zero_add]
    unfold World.cell?
    rw [hs]
    show ((bcells bs).toArray.setIfInBounds 68 (.int .u8 x))[j]? = _
    rw [Array.getElem?_setIfInBounds, if_neg (by omega), List.getElem?_toArray, bcells, List.getElem?_map, List.getElem?_eq_getElem hj', List.getElem_take]
    rfl)
  rw [List.length_take, Nat.min_eq_left hn] at h
  exact h
theorem bcells_set (bs : List UInt8) (n : Nat) (c : UInt8) : bcells (bs.set n c) = (bcells bs).set n (.int .u8 (c.toNat : Int)) := by
  simp [bcells, List.map_set]
theorem fin_length (bs : List UInt8) : (fin bs).length = bs.length := by simp [fin]
set_option maxRecDepth 100000 in
set_option maxHeartbeats 1000000 in
theorem finish9 (p g : Nat) (bs : List UInt8) (len : Nat) (hlen : bs.length = len) (w : World) (hp : w.heap[p]? = some (.cells #[.slice (some ⟨g, 0, none⟩) len len, .nilIface] 34 (0, 0)))
    (hg : w.heap[g]? = some (.cells (bcells bs).toArray 5 (0, 0))) (hpg : p ≠ g) (h69 : 69 ≤ len) (hl : len ≤ 65536) :
    Calls Try.prog 9 #[.pointer (some ⟨p, 0, none⟩)] w fun e w' => e = .returned (.tuple #[.string ⟨(fin bs).toArray⟩, .nilIface]) ∧ Upd (fun k => k = g) w w' := by
  have h69' : (69 : Int) ≤ (len : Int) := by omega
  have h69n : (68 : Int) ≤ (len : Int) := by omega
  have h68 : (68 : Int) < (len : Int) := by omega
  have hl' : (len : Int) ≤ 65536 := by omega
  have c0 : w.cell? ⟨p, 0, none⟩ = some (.slice (some ⟨g, 0, none⟩) len len) := by unfold World.cell?; rw [hp]; rfl
  have c1 : w.cell? ⟨p, 1, none⟩ = some .nilIface := by unfold World.cell?; rw [hp]; rfl
  have hcv : (convert 22 9 (.slice (some ⟨g, 0, none⟩) 68 len)).run Try.prog w.drew = .ok (.string ⟨(bs.take 68).toArray⟩) w.drew := conv_row (w := w.drew) hg (by omega)
  have htd := tot_bd (bs.take 68)
  have hlk : (bs.take 68).length = 68 := by rw [List.length_take]; omega
  rw [hlk] at htd
  obtain ⟨T, hT⟩ : ∃ T, T = tot (bs.take 68) % 10 := ⟨_, rfl⟩
  have hT0 : 0 ≤ T := by omega
  have hT9 : T ≤ 9 := by omega
  have HC : Hid (∀ w, Calls Try.prog 10 #[.string ⟨(bs.take 68).toArray⟩] w fun e w' => e = .returned (.int .i64 T) ∧ w' = w) := fun w => by
    have := chk10 ⟨(bs.take 68).toArray⟩ w (by simp [ByteArray.size]; omega)
    rw [hT]
    exact this
  have g68 : w.cell? ⟨g, 68, none⟩ = some (.int .u8 ((bs[68]'(by omega)).toNat : Int)) := by
    unfold World.cell?; rw [hg]
    show (bcells bs).toArray[68]? = _
    rw [List.getElem?_toArray, bcells, List.getElem?_map, List.getElem?_eq_getElem (by omega)]
    rfl
  have gf : w.frozen? ⟨g, 68, none⟩ = false := by unfold World.frozen?; rw [hg]; simp
  have hset : (w.setCell ⟨g, 68, none⟩ (.int .u8 (48 + T))).heap[g]? = some (.cells (bcells (fin bs)).toArray 5 (0, 0)) := by
    rw [setCell_eq_setRow w g 68 _ 5 (0, 0) _ hg, setRow_heap w g _ _ 5 (0, 0) hg, fin, bcells_set, dgt_toNat, hT]
    simp
  have hcv2 : ∀ x : Int, (convert 22 9 (.slice (some ⟨g, 0, none⟩) 68 len)).run Try.prog (w.setCell ⟨g, 68, none⟩ (.int .u8 x)).drew = .ok (.string ⟨(bs.take 68).toArray⟩) (w.setCell ⟨g, 68, none⟩ (.int .u8 x)).drew := fun x => conv_set hg (by omega) x
  have hcv3 : (convert 22 9 (.slice (some ⟨g, 0, none⟩) len len)).run Try.prog (w.setCell ⟨g, 68, none⟩ (.int .u8 (48 + T))).drew = .ok (.string ⟨(fin bs).toArray⟩) (w.setCell ⟨g, 68, none⟩ (.int .u8 (48 + T))).drew := by
    have := conv_row (w := (w.setCell ⟨g, 68, none⟩ (.int .u8 (48 + T))).drew) (n := len) (c := len) hset (by rw [fin_length]; omega)
    rw [List.take_of_length_le (by rw [fin_length]; omega)] at this
    exact this
  clear hset
  have hx : p ≠ g := hpg
  clear htd hlk
  have HT : Hid (T = tot (bs.take 68) % 10) := hT
  clear hT
  have HG : Hid (w.heap[g]? = some (.cells (bcells bs).toArray 5 (0, 0)) ∧ w.heap[p]? = some (.cells #[.slice (some ⟨g, 0, none⟩) len len, .nilIface] 34 (0, 0))) := ⟨hg, hp⟩
  clear hg hp
  go_enter Try.func9, Try.ntmps9
  go_wp2
  go_region_held3 (fun w' => w'.cell? ⟨p, 0, none⟩ = some (.slice (some ⟨g, 0, none⟩) len len) ∧ (convert 22 9 (.slice (some ⟨g, 0, none⟩) 68 len)).run Try.prog w' = .ok (.string ⟨(bs.take 68).toArray⟩) w') (simp [*, go_sem])
    (first | (go_at_call 10; refine (Hid.out HC _).mono ?_; rintro e w' ⟨rfl, rfl⟩))
  go_wp2
  go_ret2
  exact ⟨rfl, ((Upd.refl (fun k => k = g) w).setCell (p := ⟨g, 68, none⟩) rfl _).drew⟩

theorem new8 (v : Value) (a : Option Addr) (l c : Nat) (hv : v = .slice a l c) (w : World) :
    Calls Try.prog 8 #[v] w fun e w' => e = .returned (.pointer (some ⟨w.heap.size, 0, none⟩)) ∧ w' = w.alloc (.cells #[.slice a l c, .nilIface] 34) := by
  subst hv
  go_enter Try.func8, Try.ntmps8
  go_wp2
  go_ret
  exact ⟨rfl, rfl⟩
theorem fin7 (p g : Nat) (bs : List UInt8) (len : Nat) (hlen : bs.length = len) (w : World) (hp : w.heap[p]? = some (.cells #[.slice (some ⟨g, 0, none⟩) len len, .nilIface] 34 (0, 0)))
    (hg : w.heap[g]? = some (.cells (bcells bs).toArray 5 (0, 0))) (hpg : p ≠ g) (h69 : 69 ≤ len) (hl : len ≤ 65536) :
    Calls Try.prog 7 #[.pointer (some ⟨p, 0, none⟩)] w fun e w' => e = .returned (.tuple #[.string ⟨(fin bs).toArray⟩, .nilIface]) ∧ Upd (fun k => k = g) w w' := by
  have H := finish9 p g bs len hlen w hp hg hpg h69 hl
  have HH : Hid (Calls Try.prog 9 #[.pointer (some ⟨p, 0, none⟩)] w fun e w' => e = .returned (.tuple #[.string ⟨(fin bs).toArray⟩, .nilIface]) ∧ Upd (fun k => k = g) w w') := H
  clear H hp hg
  go_enter Try.func7, Try.ntmps7
  go_wp2_with fail
  refine (Hid.out HH).mono ?_
  rintro e w1 ⟨rfl, hu⟩
  go_wp2
  go_ret2
  exact ⟨rfl, hu⟩
end Go.Proofs.Qxb6613591a

/-
  strings.Reader, walked: ReadByte, UnreadByte on a reader in block rb.
-/
import Derived.Test.Qxb6002384aFmtText
import Derived.Deep.QuietTactic
import Derived.BigQuiet
namespace Go.Proofs.Qxb6002384aFmt
open Go.RowKit

/-- Nothing but block rb has turned. -/
structure RK (rb : Nat) (w w' : World) : Prop where
  os : w'.os = w.os
  tape : w'.tape = w.tape
  output : w'.output = w.output
  size : w'.heap.size = w.heap.size
  others : ∀ k, k ≠ rb → w'.heap[k]? = w.heap[k]?

theorem RK.refl (rb : Nat) (w : World) : RK rb w w := ⟨rfl, rfl, rfl, rfl, fun _ _ => rfl⟩
theorem RK.trans {rb : Nat} {a b c : World} (h : RK rb a b) (k : RK rb b c) : RK rb a c :=
  ⟨k.os.trans h.os, k.tape.trans h.tape, k.output.trans h.output, k.size.trans h.size, fun i hi => (k.others i hi).trans (h.others i hi)⟩
theorem RK.drew {rb : Nat} {a w : World} (h : RK rb a w) : RK rb a w.drew := ⟨h.os, h.tape, h.output, h.size, h.others⟩
theorem RK.drewN {rb : Nat} {a w : World} (h : RK rb a w) : ∀ n, RK rb a (w.drewN n)
  | 0 => h
  | n + 1 => (h.drewN n).drew
theorem RK.setCell {rb : Nat} {a w : World} (h : RK rb a w) (o : Nat) (v : Value) : RK rb a (w.setCell ⟨rb, o, none⟩ v) :=
  ⟨h.os, h.tape, h.output, by simpa [World.setCell] using h.size, fun k hk => (Below.heap_setCell w _ v k hk).trans (h.others k hk)⟩
theorem RK.below {rb : Nat} {w w' : World} (h : RK rb w w') {B : Nat} (hB : B ≤ rb) : Below B w w' :=
  ⟨h.os, h.tape, h.output, Nat.le_of_eq h.size.symm, fun k hk => h.others k (by omega)⟩

/-- Block rb holds a strings.Reader over ds that stands at i. -/
def IsReader (w : World) (rb : Nat) (ds : ByteArray) (i : Int) : Prop :=
  ∃ p : Int, w.heap[rb]? = some (.cells #[.string ds, .int .i64 i, .int .i64 p] 72)

theorem IsReader.cells {w : World} {rb : Nat} {ds : ByteArray} {i : Int} (h : IsReader w rb ds i) :
    ∃ p : Int, w.cell? ⟨rb, 0, none⟩ = some (.string ds) ∧ w.cell? ⟨rb, 1, none⟩ = some (.int .i64 i) ∧ w.cell? ⟨rb, 2, none⟩ = some (.int .i64 p) ∧
      (∀ o, w.frozen? ⟨rb, o, none⟩ = false) := by
  obtain ⟨p, hp⟩ := h
  exact ⟨p, by simp [World.cell?, hp], by simp [World.cell?, hp], by simp [World.cell?, hp], fun o => by simp [World.frozen?, hp]⟩
theorem IsReader.set2 {w : World} {rb : Nat} {ds : ByteArray} {i : Int} (h : IsReader w rb ds i) (q : Int) : IsReader (w.setCell ⟨rb, 2, none⟩ (.int .i64 q)) rb ds i := by
  obtain ⟨p, hp⟩ := h
  exact ⟨q, by simp [World.setCell, Array.getElem?_modify, hp]⟩
theorem IsReader.set1 {w : World} {rb : Nat} {ds : ByteArray} {i : Int} (h : IsReader w rb ds i) (j : Int) : IsReader (w.setCell ⟨rb, 1, none⟩ (.int .i64 j)) rb ds j := by
  obtain ⟨p, hp⟩ := h
  exact ⟨p, by simp [World.setCell, Array.getElem?_modify, hp]⟩
theorem IsReader.drewN {w : World} {rb : Nat} {ds : ByteArray} {i : Int} (h : IsReader w rb ds i) : ∀ n, IsReader (w.drewN n) rb ds i
  | 0 => h
  | n + 1 => h.drewN n
theorem IsReader.kept {w w' : World} {rb : Nat} {ds : ByteArray} {i : Int} (h : IsReader w rb ds i) (hk : w'.heap[rb]? = w.heap[rb]?) : IsReader w' rb ds i := by
  obtain ⟨p, hp⟩ := h
  exact ⟨p, hk.trans hp⟩

set_option maxHeartbeats 1000000 in
theorem read_yes (rb : Nat) (ds : ByteArray) (i : Nat) (w : World) (h : IsReader w rb ds i) (hi : i < ds.size) (hz : ds.size ≤ 1048576) :
    Calls Tryf.prog 89 #[.pointer (some ⟨rb, 0, none⟩)] w fun e w' => e = .returned (.tuple #[.int .u8 ds[i].toNat, .nilIface]) ∧ IsReader w' rb ds ((i : Int) + 1) ∧ RK rb w w' := by
  obtain ⟨p, c0, c1, c2, fz⟩ := h.cells
  have H : Hid (IsReader w rb ds i) := h
  clear h
  have hge : decide ((ds.size : Int) ≤ (i : Int)) = false := decide_eq_false (by omega)
  go_enter Tryf.func89, Tryf.ntmps89
  go_wp2
  go_region
  go_wp2
  go_region
  go_wp2
  go_ret2
  exact ⟨rfl, ((H.out.set2 (-1)).set1 _).drewN 2, (((RK.refl rb w).setCell 2 _).setCell 1 _).drewN 2⟩

set_option maxHeartbeats 1000000 in
theorem read_end (rb : Nat) (ds : ByteArray) (i : Nat) (aE : Addr) (w : World) (h : IsReader w rb ds i) (hi : ¬ i < ds.size) (_hz : ds.size ≤ 1048576) (hE : w.cell? ⟨1, 0, none⟩ = some (.iface 62 (.pointer (some aE)))) (_hrb : 1 < rb) :
    Calls Tryf.prog 89 #[.pointer (some ⟨rb, 0, none⟩)] w fun e w' => e = .returned (.tuple #[.int .u8 0, .iface 62 (.pointer (some aE))]) ∧ IsReader w' rb ds i ∧ RK rb w w' := by
  obtain ⟨p, c0, c1, c2, fz⟩ := h.cells
  have H : Hid (IsReader w rb ds i) := h
  clear h
  have hge : decide ((ds.size : Int) ≤ (i : Int)) = true := decide_eq_true (by omega)
  go_enter Tryf.func89, Tryf.ntmps89
  go_wp2
  go_region
  go_wp2
  go_region
  go_wp2
  go_ret2
  exact ⟨rfl, (H.out.set2 (-1)).drewN 2, ((RK.refl rb w).setCell 2 _).drewN 2⟩

set_option maxHeartbeats 1000000 in
theorem unread_any (rb : Nat) (ds : ByteArray) (i : Nat) (w : World) (h : IsReader w rb ds ((i : Int) + 1)) (hz : i ≤ 1048576) :
    Calls Tryf.prog 90 #[.pointer (some ⟨rb, 0, none⟩)] w fun e w' => e = .returned .nilIface ∧ IsReader w' rb ds i ∧ RK rb w w' := by
  obtain ⟨p, c0, c1, c2, fz⟩ := h.cells
  have H : Hid (IsReader w rb ds ((i : Int) + 1)) := h
  clear h
  go_enter Tryf.func90, Tryf.ntmps90
  go_wp2
  go_ret
  exact ⟨rfl, (H.out.set2 (-1)).set1 _, ((RK.refl rb w).setCell 2 _).setCell 1 _⟩
end Go.Proofs.Qxb6002384aFmt

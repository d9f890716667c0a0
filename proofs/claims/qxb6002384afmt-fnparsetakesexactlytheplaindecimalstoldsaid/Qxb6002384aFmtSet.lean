/-
  (*big.Int).SetString at a row of digits, and Neg, walked.
-/
import Derived.Test.Qxb6002384aFmtInt
namespace Go.Proofs.Qxb6002384aFmt
open Go.RowKit

/-- A slice's value: nil, or over a block from its first cell on. -/
def SlV (v : Value) : Prop := v = .slice none 0 0 ∨ ∃ g n cap, v = .slice (some ⟨g, 0, none⟩) n cap
theorem NatOk.slv {B : Nat} {w : World} {v : Value} {n : Nat} (h : NatOk B w v n) : SlV v := by
  rcases h with ⟨rfl, _⟩ | ⟨g, cap, rfl, _⟩
  · exact Or.inl rfl
  · exact Or.inr ⟨g, n, cap, rfl⟩
/-- Block zb holds a big.Int. -/
def BigAt (w : World) (zb : Nat) (v : Value) : Prop := ∃ s : Bool, w.heap[zb]? = some (.cells #[.bool s, v] 47)
theorem BigAt.cells {w : World} {zb : Nat} {v : Value} (h : BigAt w zb v) : ∃ s : Bool, w.cell? ⟨zb, 0, none⟩ = some (.bool s) ∧ w.cell? ⟨zb, 1, none⟩ = some v ∧ (∀ o, w.frozen? ⟨zb, o, none⟩ = false) := by
  obtain ⟨s, hs⟩ := h
  exact ⟨s, by simp [World.cell?, hs], by simp [World.cell?, hs], fun o => by simp [World.frozen?, hs]⟩
theorem BigAt.set0 {w : World} {zb : Nat} {v : Value} (h : BigAt w zb v) (s : Bool) : BigAt (w.setCell ⟨zb, 0, none⟩ (.bool s)) zb v := by
  obtain ⟨t, hs⟩ := h
  exact ⟨s, by simp [World.setCell, Array.getElem?_modify, hs]⟩
theorem BigAt.set1 {w : World} {zb : Nat} {v : Value} (h : BigAt w zb v) (u : Value) : BigAt (w.setCell ⟨zb, 1, none⟩ u) zb u := by
  obtain ⟨t, hs⟩ := h
  exact ⟨t, by simp [World.setCell, Array.getElem?_modify, hs]⟩
theorem BigAt.kept {w w' : World} {zb : Nat} {v : Value} (h : BigAt w zb v) (hk : w'.heap[zb]? = w.heap[zb]?) : BigAt w' zb v := by
  obtain ⟨t, hs⟩ := h
  exact ⟨t, hk.trans hs⟩
theorem IsReader.set_other {w : World} {rb : Nat} {ds : ByteArray} {i : Int} (h : IsReader w rb ds i) (b o : Nat) (hb : b ≠ rb) (v : Value) : IsReader (w.setCell ⟨b, o, none⟩ v) rb ds i :=
  h.kept (Below.heap_setCell w _ v rb (fun e => hb e.symm))

set_option maxHeartbeats 4000000 in
set_option maxRecDepth 100000 in
theorem intScan_any (zb rb : Nat) (ds : ByteArray) (aE : Addr) (w : World) (hI : BigAt w zb (.slice none 0 0)) (h : IsReader w rb ds ((0 : Nat) : Int)) (h0 : 0 < ds.size) (hz : ds.size ≤ 40) (hd : ∀ i (hi : i < ds.size), 48 ≤ ds[i].toNat ∧ ds[i].toNat ≤ 57)
    (hE : w.cell? ⟨1, 0, none⟩ = some (.iface 62 (.pointer (some aE)))) (hzb : 1 < zb) (hrb : zb < rb) (hBw : rb < w.heap.size) :
    Calls Tryf.prog 36 #[.pointer (some ⟨zb, 0, none⟩), .iface 57 (.pointer (some ⟨rb, 0, none⟩)), .int .i64 10] w fun e w' =>
      ∃ v, e = .returned (.tuple #[.pointer (some ⟨zb, 0, none⟩), .int .i64 10, .nilIface]) ∧ BigAt w' zb v ∧ SlV v ∧ IsReader w' rb ds (ds.size : Int) ∧ Below zb w w' := by
  have hdd := hd 0 h0
  have g1 : (((ds[0].toNat : Nat) : Int) == 45) = false := beq_eq_false_iff_ne.2 (by omega)
  have g2 : (((ds[0].toNat : Nat) : Int) == 43) = false := beq_eq_false_iff_ne.2 (by omega)
  clear hdd
  go_enter Tryf.func36, Tryf.ntmps36
  go_wp2_with fail
  refine (sign_any rb ds _ h h0 (by omega) g1 g2).mono ?_
  rintro e w1 ⟨rfl, hr1, k1⟩
  have hI1 : BigAt w1 zb (.slice none 0 0) := hI.kept (k1.others zb (by omega))
  have HR1 : Hid (IsReader w1 rb ds ((0 : Nat) : Int)) := hr1
  have HI1 : Hid (BigAt w1 zb (.slice none 0 0)) := hI1
  have HB1 : Hid (Below zb w w1) := k1.below (by omega)
  have hE1 : w1.cell? ⟨1, 0, none⟩ = some (.iface 62 (.pointer (some aE))) := (HB1.out.cell (p := ⟨1, 0, none⟩) hzb).trans hE
  have hs1 : rb < w1.heap.size := by have := k1.size; omega
  obtain ⟨s1, c0, c1, fz⟩ := hI1.cells
  clear hr1 k1 hI h hI1 g1 g2
  go_wp2_with fail
  refine (scan_any (rb + 1) rb ds aE _ HR1.out h0 hz hd hE1 (by omega) (by omega) (by omega)).mono ?_
  rintro e w2 ⟨v, n, rfl, hn, hr2, hb2⟩
  have HI2 : Hid (BigAt w2 zb (.slice none 0 0)) := HI1.out.kept (hb2.block zb hrb)
  have HB2 : Hid (Below zb w w2) := HB1.out.trans (hb2.mono (by omega))
  have HR2 : Hid (IsReader w2 rb ds (ds.size : Int)) := hr2
  obtain ⟨s2, d0, d1, fz2⟩ := HI2.out.cells
  have hsl := hn.slv
  clear hn hr2 hb2 HI1 HR1 HB1 c0 c1 fz hE1
  rcases hsl with rfl | ⟨g, m, cap, rfl⟩
  · go_wp2
    go_ret3
    exact ⟨_, rfl, (HI2.out.set1 _).set0 _, Or.inl rfl, (HR2.out.set_other zb 1 (by omega) _).set_other zb 0 (by omega) _, (HB2.out.setCell (Nat.le_refl _) _).setCell (Nat.le_refl _) _⟩
  · by_cases hm : 0 < m
    · go_wp2
      go_ret3
      exact ⟨_, rfl, (HI2.out.set1 _).set0 _, Or.inr ⟨g, m, cap, rfl⟩, (HR2.out.set_other zb 1 (by omega) _).set_other zb 0 (by omega) _, (HB2.out.setCell (Nat.le_refl _) _).setCell (Nat.le_refl _) _⟩
    · go_wp2
      go_ret3
      exact ⟨_, rfl, (HI2.out.set1 _).set0 _, Or.inr ⟨g, m, cap, rfl⟩, (HR2.out.set_other zb 1 (by omega) _).set_other zb 0 (by omega) _, (HB2.out.setCell (Nat.le_refl _) _).setCell (Nat.le_refl _) _⟩

set_option maxHeartbeats 1000000 in
set_option maxRecDepth 100000 in
theorem setFrom_any (zb rb : Nat) (ds : ByteArray) (aE : Addr) (w : World) (hI : BigAt w zb (.slice none 0 0)) (h : IsReader w rb ds ((0 : Nat) : Int)) (h0 : 0 < ds.size) (hz : ds.size ≤ 40) (hd : ∀ i (hi : i < ds.size), 48 ≤ ds[i].toNat ∧ ds[i].toNat ≤ 57)
    (hE : w.cell? ⟨1, 0, none⟩ = some (.iface 62 (.pointer (some aE)))) (hzb : 1 < zb) (hrb : zb < rb) (hBw : rb < w.heap.size) :
    Calls Tryf.prog 30 #[.pointer (some ⟨zb, 0, none⟩), .iface 57 (.pointer (some ⟨rb, 0, none⟩)), .int .i64 10] w fun e w' =>
      ∃ v, e = .returned (.tuple #[.pointer (some ⟨zb, 0, none⟩), .bool true]) ∧ BigAt w' zb v ∧ SlV v ∧ Below zb w w' := by
  have hm1 := m_read
  have hne := ne_eof aE
  go_enter Tryf.func30, Tryf.ntmps30
  go_wp2_with fail
  refine (intScan_any zb rb ds aE _ hI h h0 hz hd hE hzb hrb hBw).mono ?_
  rintro e w1 ⟨v, rfl, hI1, hsl, hr1, hb1⟩
  have HR : Hid (IsReader w1 rb ds (ds.size : Int)) := hr1
  have HI : Hid (BigAt w1 zb v) := hI1
  have HB : Hid (Below zb w w1) := hb1
  have HS : Hid (SlV v) := hsl
  have hE1 : w1.cell? ⟨1, 0, none⟩ = some (.iface 62 (.pointer (some aE))) := (hb1.cell (p := ⟨1, 0, none⟩) hzb).trans hE
  clear hr1 hI1 hb1 hsl hI h
  go_wp2_with fail
  refine (read_end rb ds ds.size aE _ HR.out (by omega) (by omega) hE1 (by omega)).mono ?_
  rintro e w2 ⟨rfl, hr2, k2⟩
  have hE2 : w2.cell? ⟨1, 0, none⟩ = some (.iface 62 (.pointer (some aE))) := ((k2.below (B := zb) (by omega)).cell (p := ⟨1, 0, none⟩) hzb).trans hE1
  have HI2 : Hid (BigAt w2 zb v) := HI.out.kept (k2.others zb (by omega))
  have HB2 : Hid (Below zb w w2) := HB.out.trans (k2.below (by omega))
  clear hr2 k2
  go_wp2
  go_ret2
  exact ⟨v, rfl, HI2, HS, HB2⟩

set_option maxHeartbeats 1000000 in
theorem newReader_any (ds : ByteArray) (w : World) :
    Calls Tryf.prog 31 #[.string ds] w fun e w' => e = .returned (.pointer (some ⟨w.heap.size, 0, none⟩)) ∧ w' = w.alloc (.cells #[.string ds, .int .i64 0, .int .i64 (-1)] 72) := by
  go_enter Tryf.func31, Tryf.ntmps31
  go_wp2
  go_ret
  exact ⟨rfl, rfl⟩

set_option maxHeartbeats 1000000 in
set_option maxRecDepth 100000 in
theorem setString_any (zb : Nat) (ds : ByteArray) (aE : Addr) (w : World) (hI : BigAt w zb (.slice none 0 0)) (h0 : 0 < ds.size) (hz : ds.size ≤ 40) (hd : ∀ i (hi : i < ds.size), 48 ≤ ds[i].toNat ∧ ds[i].toNat ≤ 57)
    (hE : w.cell? ⟨1, 0, none⟩ = some (.iface 62 (.pointer (some aE)))) (hzb : 1 < zb) :
    Calls Tryf.prog 16 #[.pointer (some ⟨zb, 0, none⟩), .string ds, .int .i64 10] w fun e w' =>
      ∃ v, e = .returned (.tuple #[.pointer (some ⟨zb, 0, none⟩), .bool true]) ∧ BigAt w' zb v ∧ SlV v ∧ Below zb w w' := by
  have hlt : zb < w.heap.size := by
    obtain ⟨s, hs⟩ := hI
    exact (Array.getElem?_eq_some_iff.1 hs).1
  have HI : Hid (BigAt w zb (.slice none 0 0)) := hI
  clear hI
  go_enter Tryf.func16, Tryf.ntmps16
  go_wp2_with fail
  refine (newReader_any ds _).mono ?_
  rintro e w1 ⟨rfl, rfl⟩
  have HR : Hid (IsReader (w.alloc (.cells #[.string ds, .int .i64 0, .int .i64 (-1)] 72)) w.heap.size ds ((0 : Nat) : Int)) := ⟨-1, (MapKept.heap_alloc w _).1⟩
  have HI1 : Hid (BigAt (w.alloc (.cells #[.string ds, .int .i64 0, .int .i64 (-1)] 72)) zb (.slice none 0 0)) := HI.out.kept (Below.heap_alloc w _ zb hlt)
  have HB1 : Hid (Below zb w (w.alloc (.cells #[.string ds, .int .i64 0, .int .i64 (-1)] 72))) := (Below.refl _ _).alloc (by omega) _
  have hE1 : (w.alloc (.cells #[.string ds, .int .i64 0, .int .i64 (-1)] 72)).cell? ⟨1, 0, none⟩ = some (.iface 62 (.pointer (some aE))) := (HB1.out.cell (p := ⟨1, 0, none⟩) hzb).trans hE
  have hsz : w.heap.size < (w.alloc (.cells #[.string ds, .int .i64 0, .int .i64 (-1)] 72)).heap.size := by simp
  generalize w.alloc (.cells #[.string ds, .int .i64 0, .int .i64 (-1)] 72) = w1 at HR HI1 HB1 hE1 hsz ⊢
  go_wp2_with fail
  refine (setFrom_any zb w.heap.size ds aE _ HI1.out HR.out h0 hz hd hE1 hzb hlt hsz).mono ?_
  rintro e w2 ⟨v, rfl, hI2, hsl, hb2⟩
  go_wp2
  go_ret2
  exact ⟨v, rfl, hI2, hsl, HB1.out.trans hb2⟩

theorem info47 : ∃ i, Tryf.prog.info? 47 = some i := by
  have h : (Tryf.prog.info? 47).isSome = true := by kernel_rfl
  exact Option.isSome_iff_exists.1 h
theorem equalIn_ptr (d : Nat) (a : Addr) (w : World) : (Op.equalIn (d + 1) 23 (.pointer (some a)) (.pointer (some a))).run Tryf.prog w = .ok true w := by
  obtain ⟨j, hj⟩ := info47
  simp [Op.equalIn, run_underlying Tryf.underlying23, typeInfo, sizeOf, run_sameAddr_same, hj]
theorem ne_ptr (a : Addr) (w : World) : (binOp .neq 23 (.pointer (some a)) (.pointer (some a))).run Tryf.prog w = .ok (.bool false) w := by
  simp only [binOp]
  simp [Op.equal, Op.maxDepth, equalIn_ptr 9999 a w]

set_option maxHeartbeats 1000000 in
set_option maxRecDepth 100000 in
theorem set_same (zb : Nat) (w : World) :
    Calls Tryf.prog 32 #[.pointer (some ⟨zb, 0, none⟩), .pointer (some ⟨zb, 0, none⟩)] w fun e w' => e = .returned (.pointer (some ⟨zb, 0, none⟩)) ∧ w' = w := by
  have hne := ne_ptr ⟨zb, 0, none⟩
  go_enter Tryf.func32, Tryf.ntmps32
  go_wp2
  go_ret
  exact ⟨rfl, rfl⟩

set_option maxHeartbeats 1000000 in
theorem neg_any (zb : Nat) (v : Value) (w : World) (hI : BigAt w zb v) (hv : SlV v) :
    Calls Tryf.prog 17 #[.pointer (some ⟨zb, 0, none⟩), .pointer (some ⟨zb, 0, none⟩)] w fun e w' => e = .returned (.pointer (some ⟨zb, 0, none⟩)) ∧ BigAt w' zb v ∧ Below zb w w' := by
  obtain ⟨s, c0, c1, fz⟩ := hI.cells
  have HI : Hid (BigAt w zb v) := hI
  clear hI
  rcases hv with rfl | ⟨g, m, cap, rfl⟩
  · go_enter Tryf.func17, Tryf.ntmps17
    go_wp2_with (go_at_call 32; refine (set_same zb _).mono ?_; rintro e w' ⟨rfl, hq⟩; have hq := hq.symm; subst hq)
    go_ret
    exact ⟨rfl, HI.out.set0 _, (Below.refl zb w).setCell (p := ⟨zb, 0, none⟩) (Nat.le_refl _) _⟩
  · by_cases hm : 0 < m
    · go_enter Tryf.func17, Tryf.ntmps17
      go_wp2_with (go_at_call 32; refine (set_same zb _).mono ?_; rintro e w' ⟨rfl, hq⟩; have hq := hq.symm; subst hq)
      go_ret
      exact ⟨rfl, HI.out.set0 _, (Below.refl zb w).setCell (p := ⟨zb, 0, none⟩) (Nat.le_refl _) _⟩
    · have hm' : decide ((0 : Int) < (m : Int)) = false := decide_eq_false (by omega)
      go_enter Tryf.func17, Tryf.ntmps17
      go_wp2_with (go_at_call 32; refine (set_same zb _).mono ?_; rintro e w' ⟨rfl, hq⟩; have hq := hq.symm; subst hq)
      go_ret
      exact ⟨rfl, HI.out.set0 _, (Below.refl zb w).setCell (p := ⟨zb, 0, none⟩) (Nat.le_refl _) _⟩
end Go.Proofs.Qxb6002384aFmt

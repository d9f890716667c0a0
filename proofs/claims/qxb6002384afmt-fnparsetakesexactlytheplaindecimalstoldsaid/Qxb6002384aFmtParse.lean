/-
  decimal.Parse, walked: no error just at the plain decimals.
-/
import Derived.Test.Qxb6002384aFmtErr
import Derived.Test.Qxb6002384aFmtPlain
import Derived.Deep.RegionWith
namespace Go.Proofs.Qxb6002384aFmt
open Go.RowKit Go.Extern.Stop Go.Stop Go.Extern

theorem below_drewN {B : Nat} {a w : World} (h : Below B a w) : ∀ n, Below B a (w.drewN n)
  | 0 => h
  | n + 1 => (below_drewN h n).drew
theorem drewN_heap (w : World) : ∀ n, (w.drewN n).heap = w.heap
  | 0 => rfl
  | n + 1 => drewN_heap w n
theorem cell_heap {a b : World} (h : a.heap = b.heap) (p : Addr) : a.cell? p = b.cell? p := by unfold World.cell?; rw [h]
theorem frozen_heap {a b : World} (h : a.heap = b.heap) (p : Addr) : a.frozen? p = b.frozen? p := by unfold World.frozen?; rw [h]

/-- The world in which Errorf is called: a zero Decimal, and the operands. -/
structure Asked (w W : World) (xs : Array Value) : Prop where
  below : Below w.heap.size w W
  size : w.heap.size + 1 < W.heap.size
  d0 : W.cell? ⟨w.heap.size, 0, none⟩ = some (.pointer none)
  d1 : W.cell? ⟨w.heap.size, 1, none⟩ = some (.int .i64 0)
  fz : ∀ o, W.frozen? ⟨w.heap.size, o, none⟩ = false
  ops : ∀ i, W.cell? ⟨w.heap.size + 1, i, none⟩ = xs[i]?

theorem asked (w : World) (n : Nat) (xs : Array Value) : Asked w (((w.alloc (.cells #[.pointer none, .int .i64 0] 25)).drewN n).alloc (.cells xs 20)) xs := by
  have E : (((w.alloc (.cells #[.pointer none, .int .i64 0] 25)).drewN n).alloc (.cells xs 20)).heap = ((w.alloc (.cells #[.pointer none, .int .i64 0] 25)).alloc (.cells xs 20)).heap := by
    show ((w.alloc (.cells #[.pointer none, .int .i64 0] 25)).drewN n).heap.push _ = _
    rw [drewN_heap]
    rfl
  refine ⟨(below_drewN ((Below.refl _ _).alloc (Nat.le_refl _) _) n).alloc ?_ _, ?_, ?_, ?_, ?_, ?_⟩
  · rw [drewN_heap]; simp
  · rw [E]; simp
  · exact (cell_heap E _).trans (by simp)
  · exact (cell_heap E _).trans (by simp)
  · exact fun o => (frozen_heap E _).trans (by simp)
  · intro i
    refine (cell_heap E _).trans ?_
    rw [World.cell?_alloc_at _ _ _ _ (by simp)]

theorem Asked.later {w W w3 : World} {xs : Array Value} (h : Asked w W xs) (hb : Below W.heap.size W w3) :
    w3.cell? ⟨w.heap.size, 0, none⟩ = some (.pointer none) ∧ w3.cell? ⟨w.heap.size, 1, none⟩ = some (.int .i64 0) ∧ (∀ o, w3.frozen? ⟨w.heap.size, o, none⟩ = false) ∧ Below w.heap.size w w3 := by
  have hs := h.size
  exact ⟨(hb.cell (p := ⟨w.heap.size, 0, none⟩) (by show w.heap.size < W.heap.size; omega)).trans h.d0, (hb.cell (p := ⟨w.heap.size, 1, none⟩) (by show w.heap.size < W.heap.size; omega)).trans h.d1,
    fun o => (hb.frozen (p := ⟨w.heap.size, o, none⟩) (by show w.heap.size < W.heap.size; omega)).trans (h.fz o), h.below.trans (hb.mono (by omega))⟩

theorem stored (w w3 : World) (h : Below w.heap.size w w3) : Below w.heap.size w ((w3.setCell ⟨w.heap.size, 0, none⟩ (.pointer none)).setCell ⟨w.heap.size, 1, none⟩ (.int .i64 0)) :=
  (h.setCell (p := ⟨w.heap.size, 0, none⟩) (Nat.le_refl _) _).setCell (p := ⟨w.heap.size, 1, none⟩) (Nat.le_refl _) _

set_option maxHeartbeats 1000000 in
set_option maxRecDepth 100000 in
theorem parse_whole (s : ByteArray) (w : World) (hs : s.size ≤ maxLen) (hm : (trimB s).size ≤ maxLen) (h2 : (befB (trimB s) 46).size ≤ maxLen) (hd : Hid (digsL (befB (trimB s) 46).data.toList = false)) :
    Calls Tryf.prog 6 #[.string s] w fun e w' => (∃ a, e = .returned (.tuple #[.agg #[.pointer none, .int .i64 0], .iface 62 (.pointer (some a))])) ∧ Below w.heap.size w w' := by
  go_enter Tryf.func6, Tryf.ntmps6
  go_wp2_with fail
  refine (trim_any s _ hs).mono ?_
  rintro e w1 ⟨rfl, hq⟩
  have hq := hq.symm
  subst hq
  generalize trimB s = t at hm h2 hd ⊢
  go_wp2_with fail
  refine (cut_one t 46 _ hm).mono ?_
  rintro e w1 ⟨rfl, n1, rfl⟩
  go_wp2_with fail
  refine (isDigits_any _ _ h2).mono ?_
  rintro e w1 ⟨rfl, hq⟩
  have hq := hq.symm
  subst hq
  rw [hd.out]
  go_wp2_with fail
  have HA : Hid (Asked w (((w.alloc (.cells #[.pointer none, .int .i64 0] 25)).drewN n1).alloc (.cells #[.iface 9 (.string s)] 20)) #[.iface 9 (.string s)]) := asked w n1 _
  generalize (((w.alloc (.cells #[.pointer none, .int .i64 0] 25)).drewN n1).alloc (.cells #[.iface 9 (.string s)] 20)) = W at HA ⊢
  refine (errorf_q s (w.heap.size + 1) _ ((HA.out.ops 0).trans rfl)).mono ?_
  rintro e w3 ⟨⟨a, rfl⟩, hb3⟩
  obtain ⟨hc0, hc1, hf, hb⟩ := HA.out.later hb3
  have HB : Hid (Below w.heap.size w w3) := hb
  clear hb3 HA hb
  go_wp2
  exact bodyPost_ret (v := .tuple #[.agg #[.pointer none, .int .i64 0], .iface 62 (.pointer (some a))]) (by simp [results, Tryf.results6, go_sem, hc0, hc1]) rfl ⟨⟨a, rfl⟩, stored w w3 HB.out⟩
/-! ### A bad fraction -/
set_option maxHeartbeats 2000000 in
set_option maxRecDepth 100000 in
theorem parse_frac (s t wh fr : ByteArray) (w : World) (hs : s.size ≤ maxLen) (HT : Hid (trimB s = t)) (HW : Hid (befB t 46 = wh)) (HF : Hid (aftB t 46 = fr)) (HP : Hid (hasB t 46 = true)) (hm : t.size ≤ maxLen) (h2 : wh.size ≤ maxLen) (h3 : fr.size ≤ maxLen) (hd : Hid (digsL wh.data.toList = true)) (hd2 : Hid (digsL fr.data.toList = false)) :
    Calls Tryf.prog 6 #[.string s] w fun e w' => (∃ a, e = .returned (.tuple #[.agg #[.pointer none, .int .i64 0], .iface 62 (.pointer (some a))])) ∧ Below w.heap.size w w' := by
  go_enter Tryf.func6, Tryf.ntmps6
  go_wp2_with fail
  refine (trim_any s _ hs).mono ?_
  rintro e w1 ⟨rfl, hq⟩
  have hq := hq.symm
  subst hq
  go_wp2_with fail
  rw [HT.out]
  refine (cut_one t 46 _ hm).mono ?_
  rintro e w1 ⟨rfl, n1, rfl⟩
  rw [HP.out, HF.out, HW.out]
  go_wp2_with fail
  refine (isDigits_any _ _ h2).mono ?_
  rintro e w1 ⟨rfl, hq⟩
  have hq := hq.symm
  subst hq
  rw [hd.out]
  go_wp2_with fail
  refine (isDigits_any _ _ h3).mono ?_
  rintro e w1 ⟨rfl, hq⟩
  have hq := hq.symm
  subst hq
  rw [hd2.out]
  go_wp2_with fail
  have HA : Hid (Asked w (((w.alloc (.cells #[.pointer none, .int .i64 0] 25)).drewN n1).alloc (.cells #[.iface 9 (.string s)] 20)) #[.iface 9 (.string s)]) := asked w n1 _
  generalize (((w.alloc (.cells #[.pointer none, .int .i64 0] 25)).drewN n1).alloc (.cells #[.iface 9 (.string s)] 20)) = W at HA ⊢
  refine (errorf_q s (w.heap.size + 1) _ ((HA.out.ops 0).trans rfl)).mono ?_
  rintro e w3 ⟨⟨a, rfl⟩, hb3⟩
  obtain ⟨hc0, hc1, hf, hb⟩ := HA.out.later hb3
  have HB : Hid (Below w.heap.size w w3) := hb
  clear hb3 HA hb
  go_wp2
  exact bodyPost_ret (v := .tuple #[.agg #[.pointer none, .int .i64 0], .iface 62 (.pointer (some a))]) (by simp [results, Tryf.results6, go_sem, hc0, hc1]) rfl ⟨⟨a, rfl⟩, stored w w3 HB.out⟩

/-! ### Too many digits -/
set_option maxHeartbeats 2000000 in
set_option maxRecDepth 100000 in
theorem parse_long_p (s t wh fr : ByteArray) (w : World) (hs : s.size ≤ maxLen) (HT : Hid (trimB s = t)) (HW : Hid (befB t 46 = wh)) (HF : Hid (aftB t 46 = fr)) (HP : Hid (hasB t 46 = true)) (hm : t.size ≤ maxLen) (h2 : wh.size ≤ maxLen) (h3 : fr.size ≤ maxLen) (hd : Hid (digsL wh.data.toList = true)) (hd2 : Hid (digsL fr.data.toList = true)) (hl : 40 < wh.size + fr.size) (hz : wh.size + fr.size ≤ 1048576)
    (aT : Addr) (tT : ByteArray) (h0 : 0 < w.heap.size) (hT0 : w.cell? ⟨0, 0, none⟩ = some (.iface 62 (.pointer (some aT)))) (hTc : w.cell? aT = some (.string tT)) (hTb : aT.block < w.heap.size) :
    Calls Tryf.prog 6 #[.string s] w fun e w' => (∃ a, e = .returned (.tuple #[.agg #[.pointer none, .int .i64 0], .iface 55 (.pointer (some a))])) ∧ Below w.heap.size w w' := by
  go_enter Tryf.func6, Tryf.ntmps6
  go_wp2_with fail
  refine (trim_any s _ hs).mono ?_
  rintro e w1 ⟨rfl, hq⟩
  have hq := hq.symm
  subst hq
  go_wp2_with fail
  rw [HT.out]
  refine (cut_one t 46 _ hm).mono ?_
  rintro e w1 ⟨rfl, n1, rfl⟩
  rw [HP.out, HF.out, HW.out]
  go_wp2_with fail
  refine (isDigits_any _ _ h2).mono ?_
  rintro e w1 ⟨rfl, hq⟩
  have hq := hq.symm
  subst hq
  rw [hd.out]
  go_wp2_with fail
  refine (isDigits_any _ _ h3).mono ?_
  rintro e w1 ⟨rfl, hq⟩
  have hq := hq.symm
  subst hq
  rw [hd2.out]
  go_wp2_with fail
  have HA : Hid (Asked w (((w.alloc (.cells #[.pointer none, .int .i64 0] 25)).drewN n1).alloc (.cells #[.iface 3 (.int .i64 ((wh.size : Int) + (fr.size : Int))), .iface 62 (.pointer (some aT)), .iface 3 (.int .i64 40)] 20)) #[.iface 3 (.int .i64 ((wh.size : Int) + (fr.size : Int))), .iface 62 (.pointer (some aT)), .iface 3 (.int .i64 40)]) := asked w n1 _
  generalize (((w.alloc (.cells #[.pointer none, .int .i64 0] 25)).drewN n1).alloc (.cells #[.iface 3 (.int .i64 ((wh.size : Int) + (fr.size : Int))), .iface 62 (.pointer (some aT)), .iface 3 (.int .i64 40)] 20)) = W at HA ⊢
  refine (errorf_n _ aT tT (w.heap.size + 1) _ ((HA.out.ops 0).trans rfl) ((HA.out.ops 1).trans rfl) ((HA.out.ops 2).trans rfl) ((HA.out.below.cell hTb).trans hTc)).mono ?_
  rintro e w3 ⟨⟨a, rfl⟩, hb3⟩
  obtain ⟨hc0, hc1, hf, hb⟩ := HA.out.later hb3
  have HB : Hid (Below w.heap.size w w3) := hb
  clear hb3 HA hb
  go_wp2
  exact bodyPost_ret (v := .tuple #[.agg #[.pointer none, .int .i64 0], .iface 55 (.pointer (some a))]) (by simp [results, Tryf.results6, go_sem, hc0, hc1]) rfl ⟨⟨a, rfl⟩, stored w w3 HB.out⟩

set_option maxHeartbeats 2000000 in
set_option maxRecDepth 100000 in
theorem parse_long_n (s t wh fr : ByteArray) (w : World) (hs : s.size ≤ maxLen) (HT : Hid (trimB s = t)) (HW : Hid (befB t 46 = wh)) (HF : Hid (aftB t 46 = fr)) (HP : Hid (hasB t 46 = false)) (hm : t.size ≤ maxLen) (h2 : wh.size ≤ maxLen) (hd : Hid (digsL wh.data.toList = true)) (hl : 40 < wh.size + fr.size) (hz : wh.size + fr.size ≤ 1048576)
    (aT : Addr) (tT : ByteArray) (h0 : 0 < w.heap.size) (hT0 : w.cell? ⟨0, 0, none⟩ = some (.iface 62 (.pointer (some aT)))) (hTc : w.cell? aT = some (.string tT)) (hTb : aT.block < w.heap.size) :
    Calls Tryf.prog 6 #[.string s] w fun e w' => (∃ a, e = .returned (.tuple #[.agg #[.pointer none, .int .i64 0], .iface 55 (.pointer (some a))])) ∧ Below w.heap.size w w' := by
  go_enter Tryf.func6, Tryf.ntmps6
  go_wp2_with fail
  refine (trim_any s _ hs).mono ?_
  rintro e w1 ⟨rfl, hq⟩
  have hq := hq.symm
  subst hq
  go_wp2_with fail
  rw [HT.out]
  refine (cut_one t 46 _ hm).mono ?_
  rintro e w1 ⟨rfl, n1, rfl⟩
  rw [HP.out, HF.out, HW.out]
  go_wp2_with fail
  refine (isDigits_any _ _ h2).mono ?_
  rintro e w1 ⟨rfl, hq⟩
  have hq := hq.symm
  subst hq
  rw [hd.out]
  go_wp2_with fail
  have HA : Hid (Asked w (((w.alloc (.cells #[.pointer none, .int .i64 0] 25)).drewN n1).alloc (.cells #[.iface 3 (.int .i64 ((wh.size : Int) + (fr.size : Int))), .iface 62 (.pointer (some aT)), .iface 3 (.int .i64 40)] 20)) #[.iface 3 (.int .i64 ((wh.size : Int) + (fr.size : Int))), .iface 62 (.pointer (some aT)), .iface 3 (.int .i64 40)]) := asked w n1 _
  generalize (((w.alloc (.cells #[.pointer none, .int .i64 0] 25)).drewN n1).alloc (.cells #[.iface 3 (.int .i64 ((wh.size : Int) + (fr.size : Int))), .iface 62 (.pointer (some aT)), .iface 3 (.int .i64 40)] 20)) = W at HA ⊢
  refine (errorf_n _ aT tT (w.heap.size + 1) _ ((HA.out.ops 0).trans rfl) ((HA.out.ops 1).trans rfl) ((HA.out.ops 2).trans rfl) ((HA.out.below.cell hTb).trans hTc)).mono ?_
  rintro e w3 ⟨⟨a, rfl⟩, hb3⟩
  obtain ⟨hc0, hc1, hf, hb⟩ := HA.out.later hb3
  have HB : Hid (Below w.heap.size w w3) := hb
  clear hb3 HA hb
  go_wp2
  exact bodyPost_ret (v := .tuple #[.agg #[.pointer none, .int .i64 0], .iface 55 (.pointer (some a))]) (by simp [results, Tryf.results6, go_sem, hc0, hc1]) rfl ⟨⟨a, rfl⟩, stored w w3 HB.out⟩

/-! ### A plain decimal -/
/-- The world in which SetString is called: a zero Decimal, and a zero Int. -/
structure Ready (w W : World) : Prop where
  below : Below w.heap.size w W
  size : w.heap.size + 1 < W.heap.size
  d0 : W.cell? ⟨w.heap.size, 0, none⟩ = some (.pointer none)
  d1 : W.cell? ⟨w.heap.size, 1, none⟩ = some (.int .i64 0)
  fz : ∀ o, W.frozen? ⟨w.heap.size, o, none⟩ = false
  big : BigAt W (w.heap.size + 1) (.slice none 0 0)

theorem ready (w : World) (n : Nat) : Ready w (((w.alloc (.cells #[.pointer none, .int .i64 0] 25)).drewN n).alloc (.cells #[.bool false, .slice none 0 0] 47)) := by
  have E : (((w.alloc (.cells #[.pointer none, .int .i64 0] 25)).drewN n).alloc (.cells #[.bool false, .slice none 0 0] 47)).heap = ((w.alloc (.cells #[.pointer none, .int .i64 0] 25)).alloc (.cells #[.bool false, .slice none 0 0] 47)).heap := by
    show ((w.alloc (.cells #[.pointer none, .int .i64 0] 25)).drewN n).heap.push _ = _
    rw [drewN_heap]
    rfl
  refine ⟨(below_drewN ((Below.refl _ _).alloc (Nat.le_refl _) _) n).alloc ?_ _, ?_, ?_, ?_, ?_, false, ?_⟩
  · rw [drewN_heap]; simp
  · rw [E]; simp
  · exact (cell_heap E _).trans (by simp)
  · exact (cell_heap E _).trans (by simp)
  · exact fun o => (frozen_heap E _).trans (by simp)
  · rw [E]
    have := (MapKept.heap_alloc (w.alloc (.cells #[.pointer none, .int .i64 0] 25)) (.cells #[.bool false, .slice none 0 0] 47)).1
    simpa using this

theorem Ready.later {w W w3 : World} (h : Ready w W) (hb : Below (w.heap.size + 1) W w3) :
    w3.cell? ⟨w.heap.size, 0, none⟩ = some (.pointer none) ∧ w3.cell? ⟨w.heap.size, 1, none⟩ = some (.int .i64 0) ∧ (∀ o, w3.frozen? ⟨w.heap.size, o, none⟩ = false) ∧ Below w.heap.size w w3 := by
  exact ⟨(hb.cell (p := ⟨w.heap.size, 0, none⟩) (by show w.heap.size < w.heap.size + 1; omega)).trans h.d0, (hb.cell (p := ⟨w.heap.size, 1, none⟩) (by show w.heap.size < w.heap.size + 1; omega)).trans h.d1,
    fun o => (hb.frozen (p := ⟨w.heap.size, o, none⟩) (by show w.heap.size < w.heap.size + 1; omega)).trans (h.fz o), h.below.trans (hb.mono (by omega))⟩

theorem stored2 (w w3 : World) (a b : Value) (h : Below w.heap.size w w3) : Below w.heap.size w ((w3.setCell ⟨w.heap.size, 0, none⟩ a).setCell ⟨w.heap.size, 1, none⟩ b) :=
  (h.setCell (p := ⟨w.heap.size, 0, none⟩) (Nat.le_refl _) _).setCell (p := ⟨w.heap.size, 1, none⟩) (Nat.le_refl _) _

set_option maxHeartbeats 2000000 in
set_option maxRecDepth 100000 in
theorem parse_ok_pm (s t wh fr : ByteArray) (w : World) (hs : s.size ≤ maxLen) (HT : Hid (trimB s = t)) (HW : Hid (befB t 46 = wh)) (HF : Hid (aftB t 46 = fr)) (HP : Hid (hasB t 46 = true)) (hm : t.size ≤ maxLen) (h2 : wh.size ≤ maxLen) (h3 : fr.size ≤ maxLen) (hd : Hid (digsL wh.data.toList = true)) (hd2 : Hid (digsL fr.data.toList = true)) (hl : wh.size + fr.size ≤ 40) (hds : ∀ i (hi : i < (wh ++ fr).size), 48 ≤ (wh ++ fr)[i].toNat ∧ (wh ++ fr)[i].toNat ≤ 57) (hp0 : 0 < (wh ++ fr).size) (hp40 : (wh ++ fr).size ≤ 40)
    (hs0 : 0 < s.size) (hneg : (((s[0].toNat : Nat) : Int) == 45) = true) (aE : Addr) (hE : w.cell? ⟨1, 0, none⟩ = some (.iface 62 (.pointer (some aE)))) (h1 : 1 < w.heap.size) :
    Calls Tryf.prog 6 #[.string s] w fun e w' => (∃ a, e = .returned (.tuple #[.agg #[.pointer (some a), .int .i64 fr.size], .nilIface])) ∧ Below w.heap.size w w' := by
  have HDS : Hid (∀ i (hi : i < (wh ++ fr).size), 48 ≤ (wh ++ fr)[i].toNat ∧ (wh ++ fr)[i].toNat ≤ 57) := hds
  have HP0 : Hid (0 < (wh ++ fr).size) := hp0
  have HP40 : Hid ((wh ++ fr).size ≤ 40) := hp40
  clear hds hp0 hp40
  go_enter Tryf.func6, Tryf.ntmps6
  go_wp2_with fail
  refine (trim_any s _ hs).mono ?_
  rintro e w1 ⟨rfl, hq⟩
  have hq := hq.symm
  subst hq
  go_wp2_with fail
  rw [HT.out]
  refine (cut_one t 46 _ hm).mono ?_
  rintro e w1 ⟨rfl, n1, rfl⟩
  rw [HP.out, HF.out, HW.out]
  go_wp2_with fail
  refine (isDigits_any _ _ h2).mono ?_
  rintro e w1 ⟨rfl, hq⟩
  have hq := hq.symm
  subst hq
  rw [hd.out]
  go_wp2_with fail
  refine (isDigits_any _ _ h3).mono ?_
  rintro e w1 ⟨rfl, hq⟩
  have hq := hq.symm
  subst hq
  rw [hd2.out]
  go_wp2_with fail
  have HA : Hid (Ready w (((w.alloc (.cells #[.pointer none, .int .i64 0] 25)).drewN n1).alloc (.cells #[.bool false, .slice none 0 0] 47))) := ready w n1
  generalize (((w.alloc (.cells #[.pointer none, .int .i64 0] 25)).drewN n1).alloc (.cells #[.bool false, .slice none 0 0] 47)) = W at HA ⊢
  refine (setString_any (w.heap.size + 1) (wh ++ fr) aE _ HA.out.big HP0.out HP40.out HDS.out ((HA.out.below.cell (p := ⟨1, 0, none⟩) h1).trans hE) (by omega)).mono ?_
  rintro e w2 ⟨v, rfl, hbig, hsl, hb2⟩
  have HBIG : Hid (BigAt w2 (w.heap.size + 1) v) := hbig
  have HSL : Hid (SlV v) := hsl
  have HB2 : Hid (Below (w.heap.size + 1) W w2) := hb2
  clear hbig hsl hb2
  go_wp2_with fail
  refine (neg_any (w.heap.size + 1) v _ HBIG.out HSL.out).mono ?_
  rintro e w3 ⟨rfl, hbig3, hb3⟩
  obtain ⟨hc0, hc1, hf, hb⟩ := HA.out.later (HB2.out.trans hb3)
  have HB : Hid (Below w.heap.size w w3) := hb
  clear hb3 hb hbig3 HB2 HA HBIG HSL
  go_wp2
  exact bodyPost_ret (v := .tuple #[.agg #[.pointer (some ⟨w.heap.size + 1, 0, none⟩), .int .i64 fr.size], .nilIface]) (by simp [results, Tryf.results6, go_sem, hc0, hc1]) rfl ⟨⟨_, rfl⟩, stored2 w _ _ _ HB.out⟩

set_option maxHeartbeats 2000000 in
set_option maxRecDepth 100000 in
theorem parse_ok_pu (s t wh fr : ByteArray) (w : World) (hs : s.size ≤ maxLen) (HT : Hid (trimB s = t)) (HW : Hid (befB t 46 = wh)) (HF : Hid (aftB t 46 = fr)) (HP : Hid (hasB t 46 = true)) (hm : t.size ≤ maxLen) (h2 : wh.size ≤ maxLen) (h3 : fr.size ≤ maxLen) (hd : Hid (digsL wh.data.toList = true)) (hd2 : Hid (digsL fr.data.toList = true)) (hl : wh.size + fr.size ≤ 40) (hds : ∀ i (hi : i < (wh ++ fr).size), 48 ≤ (wh ++ fr)[i].toNat ∧ (wh ++ fr)[i].toNat ≤ 57) (hp0 : 0 < (wh ++ fr).size) (hp40 : (wh ++ fr).size ≤ 40)
    (hs0 : 0 < s.size) (hneg : (((s[0].toNat : Nat) : Int) == 45) = false) (aE : Addr) (hE : w.cell? ⟨1, 0, none⟩ = some (.iface 62 (.pointer (some aE)))) (h1 : 1 < w.heap.size) :
    Calls Tryf.prog 6 #[.string s] w fun e w' => (∃ a, e = .returned (.tuple #[.agg #[.pointer (some a), .int .i64 fr.size], .nilIface])) ∧ Below w.heap.size w w' := by
  have HDS : Hid (∀ i (hi : i < (wh ++ fr).size), 48 ≤ (wh ++ fr)[i].toNat ∧ (wh ++ fr)[i].toNat ≤ 57) := hds
  have HP0 : Hid (0 < (wh ++ fr).size) := hp0
  have HP40 : Hid ((wh ++ fr).size ≤ 40) := hp40
  clear hds hp0 hp40
  go_enter Tryf.func6, Tryf.ntmps6
  go_wp2_with fail
  refine (trim_any s _ hs).mono ?_
  rintro e w1 ⟨rfl, hq⟩
  have hq := hq.symm
  subst hq
  go_wp2_with fail
  rw [HT.out]
  refine (cut_one t 46 _ hm).mono ?_
  rintro e w1 ⟨rfl, n1, rfl⟩
  rw [HP.out, HF.out, HW.out]
  go_wp2_with fail
  refine (isDigits_any _ _ h2).mono ?_
  rintro e w1 ⟨rfl, hq⟩
  have hq := hq.symm
  subst hq
  rw [hd.out]
  go_wp2_with fail
  refine (isDigits_any _ _ h3).mono ?_
  rintro e w1 ⟨rfl, hq⟩
  have hq := hq.symm
  subst hq
  rw [hd2.out]
  go_wp2_with fail
  have HA : Hid (Ready w (((w.alloc (.cells #[.pointer none, .int .i64 0] 25)).drewN n1).alloc (.cells #[.bool false, .slice none 0 0] 47))) := ready w n1
  generalize (((w.alloc (.cells #[.pointer none, .int .i64 0] 25)).drewN n1).alloc (.cells #[.bool false, .slice none 0 0] 47)) = W at HA ⊢
  refine (setString_any (w.heap.size + 1) (wh ++ fr) aE _ HA.out.big HP0.out HP40.out HDS.out ((HA.out.below.cell (p := ⟨1, 0, none⟩) h1).trans hE) (by omega)).mono ?_
  rintro e w2 ⟨v, rfl, hbig, hsl, hb2⟩
  obtain ⟨hc0, hc1, hf, hb⟩ := HA.out.later hb2
  have HB : Hid (Below w.heap.size w w2) := hb
  clear hb2 hb hbig hsl HA
  go_wp2
  exact bodyPost_ret (v := .tuple #[.agg #[.pointer (some ⟨w.heap.size + 1, 0, none⟩), .int .i64 fr.size], .nilIface]) (by simp [results, Tryf.results6, go_sem, hc0, hc1]) rfl ⟨⟨_, rfl⟩, stored2 w _ _ _ HB.out⟩

set_option maxHeartbeats 2000000 in
set_option maxRecDepth 100000 in
theorem parse_ok_nm (s t wh fr : ByteArray) (w : World) (hs : s.size ≤ maxLen) (HT : Hid (trimB s = t)) (HW : Hid (befB t 46 = wh)) (HF : Hid (aftB t 46 = fr)) (HP : Hid (hasB t 46 = false)) (hm : t.size ≤ maxLen) (h2 : wh.size ≤ maxLen) (hd : Hid (digsL wh.data.toList = true)) (hl : wh.size + fr.size ≤ 40) (hds : ∀ i (hi : i < (wh ++ fr).size), 48 ≤ (wh ++ fr)[i].toNat ∧ (wh ++ fr)[i].toNat ≤ 57) (hp0 : 0 < (wh ++ fr).size) (hp40 : (wh ++ fr).size ≤ 40)
    (hs0 : 0 < s.size) (hneg : (((s[0].toNat : Nat) : Int) == 45) = true) (aE : Addr) (hE : w.cell? ⟨1, 0, none⟩ = some (.iface 62 (.pointer (some aE)))) (h1 : 1 < w.heap.size) :
    Calls Tryf.prog 6 #[.string s] w fun e w' => (∃ a, e = .returned (.tuple #[.agg #[.pointer (some a), .int .i64 fr.size], .nilIface])) ∧ Below w.heap.size w w' := by
  have HDS : Hid (∀ i (hi : i < (wh ++ fr).size), 48 ≤ (wh ++ fr)[i].toNat ∧ (wh ++ fr)[i].toNat ≤ 57) := hds
  have HP0 : Hid (0 < (wh ++ fr).size) := hp0
  have HP40 : Hid ((wh ++ fr).size ≤ 40) := hp40
  clear hds hp0 hp40
  go_enter Tryf.func6, Tryf.ntmps6
  go_wp2_with fail
  refine (trim_any s _ hs).mono ?_
  rintro e w1 ⟨rfl, hq⟩
  have hq := hq.symm
  subst hq
  go_wp2_with fail
  rw [HT.out]
  refine (cut_one t 46 _ hm).mono ?_
  rintro e w1 ⟨rfl, n1, rfl⟩
  rw [HP.out, HF.out, HW.out]
  go_wp2_with fail
  refine (isDigits_any _ _ h2).mono ?_
  rintro e w1 ⟨rfl, hq⟩
  have hq := hq.symm
  subst hq
  rw [hd.out]
  go_wp2_with fail
  have HA : Hid (Ready w (((w.alloc (.cells #[.pointer none, .int .i64 0] 25)).drewN n1).alloc (.cells #[.bool false, .slice none 0 0] 47))) := ready w n1
  generalize (((w.alloc (.cells #[.pointer none, .int .i64 0] 25)).drewN n1).alloc (.cells #[.bool false, .slice none 0 0] 47)) = W at HA ⊢
  refine (setString_any (w.heap.size + 1) (wh ++ fr) aE _ HA.out.big HP0.out HP40.out HDS.out ((HA.out.below.cell (p := ⟨1, 0, none⟩) h1).trans hE) (by omega)).mono ?_
  rintro e w2 ⟨v, rfl, hbig, hsl, hb2⟩
  have HBIG : Hid (BigAt w2 (w.heap.size + 1) v) := hbig
  have HSL : Hid (SlV v) := hsl
  have HB2 : Hid (Below (w.heap.size + 1) W w2) := hb2
  clear hbig hsl hb2
  go_wp2_with fail
  refine (neg_any (w.heap.size + 1) v _ HBIG.out HSL.out).mono ?_
  rintro e w3 ⟨rfl, hbig3, hb3⟩
  obtain ⟨hc0, hc1, hf, hb⟩ := HA.out.later (HB2.out.trans hb3)
  have HB : Hid (Below w.heap.size w w3) := hb
  clear hb3 hb hbig3 HB2 HA HBIG HSL
  go_wp2
  exact bodyPost_ret (v := .tuple #[.agg #[.pointer (some ⟨w.heap.size + 1, 0, none⟩), .int .i64 fr.size], .nilIface]) (by simp [results, Tryf.results6, go_sem, hc0, hc1]) rfl ⟨⟨_, rfl⟩, stored2 w _ _ _ HB.out⟩

set_option maxHeartbeats 2000000 in
set_option maxRecDepth 100000 in
theorem parse_ok_nu (s t wh fr : ByteArray) (w : World) (hs : s.size ≤ maxLen) (HT : Hid (trimB s = t)) (HW : Hid (befB t 46 = wh)) (HF : Hid (aftB t 46 = fr)) (HP : Hid (hasB t 46 = false)) (hm : t.size ≤ maxLen) (h2 : wh.size ≤ maxLen) (hd : Hid (digsL wh.data.toList = true)) (hl : wh.size + fr.size ≤ 40) (hds : ∀ i (hi : i < (wh ++ fr).size), 48 ≤ (wh ++ fr)[i].toNat ∧ (wh ++ fr)[i].toNat ≤ 57) (hp0 : 0 < (wh ++ fr).size) (hp40 : (wh ++ fr).size ≤ 40)
    (hs0 : 0 < s.size) (hneg : (((s[0].toNat : Nat) : Int) == 45) = false) (aE : Addr) (hE : w.cell? ⟨1, 0, none⟩ = some (.iface 62 (.pointer (some aE)))) (h1 : 1 < w.heap.size) :
    Calls Tryf.prog 6 #[.string s] w fun e w' => (∃ a, e = .returned (.tuple #[.agg #[.pointer (some a), .int .i64 fr.size], .nilIface])) ∧ Below w.heap.size w w' := by
  have HDS : Hid (∀ i (hi : i < (wh ++ fr).size), 48 ≤ (wh ++ fr)[i].toNat ∧ (wh ++ fr)[i].toNat ≤ 57) := hds
  have HP0 : Hid (0 < (wh ++ fr).size) := hp0
  have HP40 : Hid ((wh ++ fr).size ≤ 40) := hp40
  clear hds hp0 hp40
  go_enter Tryf.func6, Tryf.ntmps6
  go_wp2_with fail
  refine (trim_any s _ hs).mono ?_
  rintro e w1 ⟨rfl, hq⟩
  have hq := hq.symm
  subst hq
  go_wp2_with fail
  rw [HT.out]
  refine (cut_one t 46 _ hm).mono ?_
  rintro e w1 ⟨rfl, n1, rfl⟩
  rw [HP.out, HF.out, HW.out]
  go_wp2_with fail
  refine (isDigits_any _ _ h2).mono ?_
  rintro e w1 ⟨rfl, hq⟩
  have hq := hq.symm
  subst hq
  rw [hd.out]
  go_wp2_with fail
  have HA : Hid (Ready w (((w.alloc (.cells #[.pointer none, .int .i64 0] 25)).drewN n1).alloc (.cells #[.bool false, .slice none 0 0] 47))) := ready w n1
  generalize (((w.alloc (.cells #[.pointer none, .int .i64 0] 25)).drewN n1).alloc (.cells #[.bool false, .slice none 0 0] 47)) = W at HA ⊢
  refine (setString_any (w.heap.size + 1) (wh ++ fr) aE _ HA.out.big HP0.out HP40.out HDS.out ((HA.out.below.cell (p := ⟨1, 0, none⟩) h1).trans hE) (by omega)).mono ?_
  rintro e w2 ⟨v, rfl, hbig, hsl, hb2⟩
  obtain ⟨hc0, hc1, hf, hb⟩ := HA.out.later hb2
  have HB : Hid (Below w.heap.size w w2) := hb
  clear hb2 hb hbig hsl HA
  go_wp2
  exact bodyPost_ret (v := .tuple #[.agg #[.pointer (some ⟨w.heap.size + 1, 0, none⟩), .int .i64 fr.size], .nilIface]) (by simp [results, Tryf.results6, go_sem, hc0, hc1]) rfl ⟨⟨_, rfl⟩, stored2 w _ _ _ HB.out⟩

end Go.Proofs.Qxb6002384aFmt

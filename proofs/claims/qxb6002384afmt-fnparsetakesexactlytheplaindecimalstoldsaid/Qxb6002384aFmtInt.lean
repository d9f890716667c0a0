/-
  (*big.Int).SetString at a row of digits, walked: it hands back the receiver.
-/
import Derived.Test.Qxb6002384aFmtNat
import Derived.LaidEql
namespace Go.Proofs.Qxb6002384aFmt
open Go.RowKit

theorem m_read (a : Addr) (w : World) : (method 239 57 (.pointer (some a)) "ReadByte").run Tryf.prog w = .ok (89, .pointer (some a)) w := by kernel_rfl
theorem m_unread (a : Addr) (w : World) : (method 239 57 (.pointer (some a)) "UnreadByte").run Tryf.prog w = .ok (90, .pointer (some a)) w := by kernel_rfl

set_option maxHeartbeats 1000000 in
set_option maxRecDepth 100000 in
theorem sign_any (rb : Nat) (ds : ByteArray) (w : World) (h : IsReader w rb ds ((0 : Nat) : Int)) (h0 : 0 < ds.size) (hz : ds.size ≤ 1048576) (g1 : (((ds[0].toNat : Nat) : Int) == 45) = false) (g2 : (((ds[0].toNat : Nat) : Int) == 43) = false) :
    Calls Tryf.prog 42 #[.iface 57 (.pointer (some ⟨rb, 0, none⟩))] w fun e w' => e = .returned (.tuple #[.bool false, .nilIface]) ∧ IsReader w' rb ds ((0 : Nat) : Int) ∧ RK rb w w' := by
  have hm1 := m_read
  have hm2 := m_unread
  go_enter Tryf.func42, Tryf.ntmps42
  go_wp2_with fail
  refine (read_yes rb ds 0 _ h h0 hz).mono ?_
  rintro e w1 ⟨rfl, hr1, k1⟩
  go_wp2_with fail
  refine (unread_any rb ds 0 _ hr1 (by omega)).mono ?_
  rintro e w2 ⟨rfl, hr2, k2⟩
  go_wp2
  go_ret2
  exact ⟨rfl, hr2, k1.trans k2⟩

theorem info62 : ∃ i, Tryf.prog.info? 62 = some i ∧ i.comparable = true := by
  have h : (Tryf.prog.info? 62).map (fun i => i.comparable) = some true := by kernel_rfl
  exact Option.map_eq_some_iff.1 h
theorem info64 : ∃ i, Tryf.prog.info? 64 = some i := by
  have h : (Tryf.prog.info? 64).isSome = true := by kernel_rfl
  exact Option.isSome_iff_exists.1 h
theorem eq_eof (a : Addr) (w : World) : (binOp .eql 27 (.iface 62 (.pointer (some a))) (.iface 62 (.pointer (some a)))).run Tryf.prog w = .ok (.bool true) w := by
  obtain ⟨i, hi, hc⟩ := info62
  obtain ⟨j, hj⟩ := info64
  exact run_eql_iface_ptr_same w a Tryf.underlying27 Tryf.underlying62 hi hc hj
theorem ne_eof (a : Addr) (w : World) : (binOp .neq 27 (.iface 62 (.pointer (some a))) (.iface 62 (.pointer (some a)))).run Tryf.prog w = .ok (.bool false) w := by
  obtain ⟨i, hi, hc⟩ := info62
  obtain ⟨j, hj⟩ := info64
  simp only [binOp]
  simp [Op.equal, Op.maxDepth, run_equalIn_iface_ptr_same w 9998 a Tryf.underlying27 Tryf.underlying62 hi hc hj]

/-- An Int: its sign and its words. -/
def IsInt (B : Nat) (w : World) (zb : Nat) : Prop := ∃ (s : Bool) (v : Value) (n : Nat), w.heap[zb]? = some (.cells #[.bool s, v] 47) ∧ NatOk B w v n

set_option maxHeartbeats 4000000 in
set_option maxRecDepth 100000 in
theorem scan_any (B rb : Nat) (ds : ByteArray) (aE : Addr) (w : World) (h : IsReader w rb ds ((0 : Nat) : Int)) (h0 : 0 < ds.size) (hz : ds.size ≤ 40) (hd : ∀ i (hi : i < ds.size), 48 ≤ ds[i].toNat ∧ ds[i].toNat ≤ 57)
    (hE : w.cell? ⟨1, 0, none⟩ = some (.iface 62 (.pointer (some aE)))) (hrb : 1 < rb) (hB : rb < B) (hBw : B ≤ w.heap.size) :
    Calls Tryf.prog 43 #[.slice none 0 0, .iface 57 (.pointer (some ⟨rb, 0, none⟩)), .int .i64 10, .bool false] w fun e w' =>
      ∃ v n, e = .returned (.tuple #[v, .int .i64 10, .int .i64 ds.size, .nilIface]) ∧ NatOk B w' v n ∧ IsReader w' rb ds (ds.size : Int) ∧ Below rb w w' := by
  have hm1 := m_read
  have hm2 := m_unread
  go_enter Tryf.func43, Tryf.ntmps43
  go_wp2_with fail
  refine (read_yes rb ds 0 _ h h0 (by omega)).mono ?_
  rintro e w1 ⟨rfl, hr1, k1⟩
  go_wp2_with (go_at_call 48; refine (maxPow_ten _).mono ?_; rintro e w2 ⟨⟨p, n, rfl, hp, hn⟩, hq⟩; have hq := hq.symm; subst hq)
  have hb1 : Hid (Below rb w w1) := k1.below (Nat.le_refl _)
  have hr1' : Hid (IsReader w1 rb ds (((0 : Nat) : Int) + 1)) := hr1
  have hz1 : Hid (B ≤ w1.heap.size) := by have := k1.size; unfold Hid; omega
  clear k1 hr1 h
  have hp0 : (p == 0) = false := beq_eq_false_iff_ne.2 (by omega)
  go_loopw [0, 3, 10, 11, 13, 14, 15, 20, 21, 22] (fun z fo cnt er pv iv ch di vi dp wx => ∃ (k m j : Nat) (q : Int) (d : Int), k ≤ ds.size ∧ m ≤ k ∧ j ≤ k ∧ Hid (NatOk B wx z m) ∧ fo = .bool false ∧ cnt = .int .i64 k ∧ pv = .int .i32 q ∧ (q == 95) = false ∧ iv = .bool false ∧ di = .int .u64 d ∧ vi = .int .i64 j ∧ dp = .int .i64 (-1) ∧
      Hid (Below rb w wx) ∧ Hid (B ≤ wx.heap.size) ∧ ((∃ hk : k < ds.size, er = .nilIface ∧ ch = .int .u8 ds[k].toNat ∧ Hid (IsReader wx rb ds ((k : Int) + 1))) ∨ (k = ds.size ∧ er = .iface 62 (.pointer (some aE)) ∧ ch = .int .u8 0 ∧ Hid (IsReader wx rb ds (k : Int))))) (fun _ _ cnt _ _ _ _ _ _ _ _ => ds.size - (intOf cnt).toNat)
  case atStart => exact ⟨0, 0, 0, 46, 0, by omega, by omega, by omega, Or.inl ⟨rfl, rfl⟩, rfl, rfl, rfl, by decide, rfl, rfl, rfl, rfl, hb1, hz1, Or.inl ⟨h0, rfl, rfl, hr1'⟩⟩
  case round =>
    obtain ⟨k, m, j, q, d, hk, hmk, hjk, hN, rfl, rfl, rfl, hq, rfl, rfl, rfl, rfl, hb, hzz, hst⟩ := hrel
    have hE2 : wr.cell? ⟨1, 0, none⟩ = some (.iface 62 (.pointer (some aE))) := (hb.out.cell (p := ⟨1, 0, none⟩) hrb).trans hE
    rcases hst with ⟨hlt, rfl, rfl, hR⟩ | ⟨hkE, rfl, rfl, hR⟩
    · have hdk := hd k hlt
      have hd1 : 48 ≤ ((ds[k].toNat : Nat) : Int) := by omega
      have hd2 : ((ds[k].toNat : Nat) : Int) ≤ 57 := by omega
      have n46 : (((ds[k].toNat : Nat) : Int) == 46) = false := beq_eq_false_iff_ne.2 (by omega)
      have n95 : (((ds[k].toNat : Nat) : Int) == 95) = false := beq_eq_false_iff_ne.2 (by omega)
      clear hdk
      cases hjn : (((j : Int) + 1) == n) with
      | false =>
        have HB := hb
        have HZ := hzz
        have HN := hN
        have HE := hE2
        have HR : Hid (IsReader wr rb ds ((k + 1 : Nat) : Int)) := hR
        go_wp2_with fail
        by_cases hlast : k + 1 < ds.size
        · refine (read_yes rb ds (k + 1) _ HR.out hlast (by omega)).mono ?_
          rintro e wn ⟨rfl, hr2, k2⟩
          have hb2 : Hid (Below rb w wn) := HB.out.trans (k2.below (Nat.le_refl _))
          have hz2 : Hid (B ≤ wn.heap.size) := by have := k2.size; have := HZ.out; unfold Hid; omega
          have hn2 : Hid (NatOk B wn u0 m) := HN.out.rk k2 hB
          have hr3 : Hid (IsReader wn rb ds (((k + 1 : Nat) : Int) + 1)) := hr2
          clear k2 hr2
          go_wp2
          go_roundw
          case rel => exact ⟨k + 1, m, (j + 1), 48, _, by omega, by omega, by omega, hn2, rfl, by go_num, rfl, by decide, rfl, rfl, by go_num, rfl, hb2, hz2, Or.inl ⟨hlast, rfl, rfl, hr3⟩⟩
          case measure => simp [intOf]; omega
        · refine (read_end rb ds (k + 1) aE _ HR.out hlast (by omega) HE hrb).mono ?_
          rintro e wn ⟨rfl, hr2, k2⟩
          have hb2 : Hid (Below rb w wn) := HB.out.trans (k2.below (Nat.le_refl _))
          have hz2 : Hid (B ≤ wn.heap.size) := by have := k2.size; have := HZ.out; unfold Hid; omega
          have hn2 : Hid (NatOk B wn u0 m) := HN.out.rk k2 hB
          have hr3 : Hid (IsReader wn rb ds ((k + 1 : Nat) : Int)) := hr2
          clear k2 hr2
          go_wp2
          go_roundw
          case rel => exact ⟨k + 1, m, (j + 1), 48, _, by omega, by omega, by omega, hn2, rfl, by go_num, rfl, by decide, rfl, rfl, by go_num, rfl, hb2, hz2, Or.inr ⟨by omega, rfl, rfl, hr3⟩⟩
          case measure => simp [intOf]; omega
      | true =>
        go_wp2_with fail
        refine (mulAddWW_any B u0 m _ _ _ hN.out hzz.out (by omega)).mono ?_
        rintro e wm ⟨v', m', rfl, hn', hm', hbm⟩
        have HB : Hid (Below rb w wm) := hb.out.trans (hbm.mono (by omega))
        have HZ : Hid (B ≤ wm.heap.size) := by have := hbm.size; have := hzz.out; unfold Hid; omega
        have HN : Hid (NatOk B wm v' m') := hn'
        have HE : wm.cell? ⟨1, 0, none⟩ = some (.iface 62 (.pointer (some aE))) := (hbm.cell (p := ⟨1, 0, none⟩) (by show 1 < B; omega)).trans hE2
        have HR : Hid (IsReader wm rb ds ((k + 1 : Nat) : Int)) := IsReader.kept hR.out (hbm.block rb hB)
        clear hbm hn' hb hzz hN hE2 hR
        go_wp2_with fail
        by_cases hlast : k + 1 < ds.size
        · refine (read_yes rb ds (k + 1) _ HR.out hlast (by omega)).mono ?_
          rintro e wn ⟨rfl, hr2, k2⟩
          have hb2 : Hid (Below rb w wn) := HB.out.trans (k2.below (Nat.le_refl _))
          have hz2 : Hid (B ≤ wn.heap.size) := by have := k2.size; have := HZ.out; unfold Hid; omega
          have hn2 : Hid (NatOk B wn v' m') := HN.out.rk k2 hB
          have hr3 : Hid (IsReader wn rb ds (((k + 1 : Nat) : Int) + 1)) := hr2
          clear k2 hr2
          go_wp2
          go_roundw
          case rel => exact ⟨k + 1, m', 0, 48, _, by omega, by omega, by omega, hn2, rfl, by go_num, rfl, by decide, rfl, rfl, by go_num, rfl, hb2, hz2, Or.inl ⟨hlast, rfl, rfl, hr3⟩⟩
          case measure => simp [intOf]; omega
        · refine (read_end rb ds (k + 1) aE _ HR.out hlast (by omega) HE hrb).mono ?_
          rintro e wn ⟨rfl, hr2, k2⟩
          have hb2 : Hid (Below rb w wn) := HB.out.trans (k2.below (Nat.le_refl _))
          have hz2 : Hid (B ≤ wn.heap.size) := by have := k2.size; have := HZ.out; unfold Hid; omega
          have hn2 : Hid (NatOk B wn v' m') := HN.out.rk k2 hB
          have hr3 : Hid (IsReader wn rb ds ((k + 1 : Nat) : Int)) := hr2
          clear k2 hr2
          go_wp2
          go_roundw
          case rel => exact ⟨k + 1, m', 0, 48, _, by omega, by omega, by omega, hn2, rfl, by go_num, rfl, by decide, rfl, rfl, by go_num, rfl, hb2, hz2, Or.inr ⟨by omega, rfl, rfl, hr3⟩⟩
          case measure => simp [intOf]; omega
    · subst hkE
      have heq := eq_eof aE
      have hc0 : ((ds.size : Int) == 0) = false := beq_eq_false_iff_ne.2 (by omega)
      by_cases hj0 : 0 < j
      · go_wp2_with (go_at_call 50; refine (pow_any _ j _ (by omega)).mono ?_; rintro e w9 ⟨⟨a9, rfl⟩, hq9⟩; have hq9 := hq9.symm; subst hq9)
        refine (mulAddWW_any B u0 m _ _ _ hN.out hzz.out (by omega)).mono ?_
        rintro e wm ⟨v', m', rfl, hn', hm', hbm⟩
        have HB : Hid (Below rb w wm) := hb.out.trans (hbm.mono (by omega))
        have HN : Hid (NatOk B wm v' m') := hn'
        have HR : Hid (IsReader wm rb ds (ds.size : Int)) := IsReader.kept hR.out (hbm.block rb hB)
        clear hbm hn'
        go_wp2
        exact bodyPost_ret (v := .tuple #[v', .int .i64 10, .int .i64 ds.size, .nilIface]) (by simp [results, Tryf.results43, go_sem]) rfl ⟨v', m', rfl, HN, HR, HB⟩
      · go_wp2
        exact bodyPost_ret (v := .tuple #[u0, .int .i64 10, .int .i64 ds.size, .nilIface]) (by simp [results, Tryf.results43, go_sem]) rfl ⟨u0, m, rfl, hN, hR, hb⟩
end Go.Proofs.Qxb6002384aFmt

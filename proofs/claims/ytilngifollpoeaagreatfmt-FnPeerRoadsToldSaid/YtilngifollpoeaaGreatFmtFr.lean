/- laws.FnPeerRoads: the ways; the call returns true and what was there is as it was. What mh.Sum answers for SHA2-256 comes in as a fact. -/
import Derived.Test.YtilngifollpoeaaGreatFmtPidp
import Derived.Test.YtilngifollpoeaaGreatFmtSer
import Derived.Test.YtilngifollpoeaaGreatFmtPl
namespace Go.Proofs.YtilngifollpoeaaGreatFmt
open Go.RowKit

/-- The law's body behind the key: its loop and its end, told by what the callees answer. -/
theorem RdAt.someCell {w : World} {b o : Nat} {l : List UInt8} (h : RdAt w b o l) {i : Nat} (hi : i < l.length) : ∃ x : Nat, x < 256 ∧ w.cell? ⟨b, o + i, none⟩ = some (.int .u8 (x : Int)) :=
  ⟨(l[i]).toNat, (l[i]).toNat_lt, h.at_ hi⟩

set_option maxHeartbeats 8000000 in
set_option maxRecDepth 100000 in
theorem FnPeerRoads_any (kind n c n2 c2 : Nat) (ao ao2 : Option Addr) (kf : Nat → Int) (data ways : List UInt8) (w : World) (hkind : kind < 256) (hd : data.length = n) (hw : ways.length = n2) (hrd : 0 < n → Rd w w.heap.size (.slice ao n c) data) (hrw : 0 < n2 → Rd w w.heap.size (.slice ao2 n2 c2) ways) (hK : KAt w kf)
    (HSH : ∀ m : List UInt8, 0 < m.length → m.length ≤ 400 → ∃ S, S.length = 32 ∧ ShaSays kf m S) :
    Calls Tryz.prog 3 #[.int .u8 kind, .slice ao n c, .slice ao2 n2 c2] w fun e w' => e = .returned (.bool true) ∧ Below w.heap.size w w' := by
  have CL := Lib.hid peersLive_any
  by_cases hbig : 2147483647 < n
  · have hI : (2147483647 : Int) < n := by omega
    clear hrd hrw HSH
    go_enter Tryz.func3, Tryz.ntmps3
    go_wp2_with fail
    go_ret
    exact ⟨rfl, Below.refl _ _⟩
  have hI : ((2147483647 : Int) < n) = False := by simp; omega
  by_cases hbig2 : 2147483647 < n2
  · have hI2 : (2147483647 : Int) < n2 := by omega
    clear hrd hrw HSH
    go_enter Tryz.func3, Tryz.ntmps3
    go_wp2_with fail
    go_ret
    exact ⟨rfl, Below.refl _ _⟩
  have hI2 : ((2147483647 : Int) < n2) = False := by simp; omega
  -- the key
  obtain ⟨kd, hkd⟩ : ∃ kd, kd = kind % 4 := ⟨_, rfl⟩
  have hkd4 : kd < 4 := by omega
  have CK : ∃ (v : Value) (b o q cc : Nat) (k : List UInt8) (w1 : World), v = .slice (some ⟨b, o, none⟩) q cc ∧ k.length = q ∧ 0 < q ∧ Rd w1 w1.heap.size v k ∧ Below w.heap.size w w1 ∧ q ≤ 2147483647 ∧ Hid (Calls Tryz.prog 4 #[.int .u8 kind, .slice ao n c] w fun e w' => e = .returned (.tuple #[.int .i32 kd, v]) ∧ w' = w1) := by
    by_cases h0 : n = 0
    · subst h0
      have hb : Below w.heap.size w (w.alloc (.cells #[.int .u8 kind] 5)) := (Below.refl _ _).alloc (Nat.le_refl _) _
      refine ⟨_, w.heap.size, 0, 1, 1, [kind.toUInt8], w.alloc (.cells #[.int .u8 kind] 5), rfl, rfl, by omega, ⟨_, 0, 1, rfl, by simp, Nat.le_refl _, by unfold maxLen; omega, ?_⟩, hb, by omega, Lib.hid ?_⟩
      · refine (Blk.new w 5 #[.int .u8 kind]).rd 0 _ (fun j x hx => ?_)
        match j with
        | 0 =>
          cases hx
          show some (Value.int .u8 (kind : Int)) = some (Value.int .u8 ((kind.toUInt8.toNat : Nat) : Int))
          rw [show kind.toUInt8.toNat = kind from by simp [Nat.toUInt8]; omega]
        | j + 1 => simp at hx
      · rw [hkd]
        exact peerKey_none kind c ao w hkind
    · obtain ⟨b, o, cc, e1, hb, h1, h2, h3⟩ := hrd (by omega)
      refine ⟨_, b, o, n, c, data, w, ?_, hd, by omega, hrd (by omega), Below.refl _ _, by omega, Lib.hid ?_⟩
      · injection e1 with e2 _ _
        rw [e2]
      · rw [hkd]
        exact peerKey_some kind n c ao w (by omega) hkind
  obtain ⟨v, b, o, q, cc, k, w1, rfl, hkq, hq0, hv, hb1, hqm, CK⟩ := CK
  have hrw1 : 0 < n2 → Rd w1 w1.heap.size (.slice ao2 n2 c2) ways := fun h => (hrw h).on hb1
  have hK1 := hK.on hb1
  clear hrd hrw hK hkd
  by_cases h300 : 300 < q
  · have hq : (300 : Int) < q := by omega
    clear hrw1 HSH hv hK1
    go_enter Tryz.func3, Tryz.ntmps3
    go_wp2_with fail
    refine CK.out.mono ?_
    rintro e w' ⟨rfl, hw'⟩
    subst w'
    go_wp2_with fail
    refine (CL.out _).mono ?_
    rintro e w2 ⟨rfl, hb2⟩
    go_wp2_with fail
    go_ret
    exact ⟨rfl, Below.then_ hb1 hb2⟩
  have hq : ((300 : Int) < q) = False := by simp; omega
  by_cases h12 : 12 < n2
  · have hq2 : (12 : Int) < n2 := by omega
    clear hrw1 HSH hv hK1
    go_enter Tryz.func3, Tryz.ntmps3
    go_wp2_with fail
    refine CK.out.mono ?_
    rintro e w' ⟨rfl, hw'⟩
    subst w'
    go_wp2_with fail
    refine (CL.out _).mono ?_
    rintro e w2 ⟨rfl, hb2⟩
    go_wp2_with fail
    go_ret
    exact ⟨rfl, Below.then_ hb1 hb2⟩
  have hq2 : ((12 : Int) < n2) = False := by simp; omega
  -- the ID
  obtain ⟨hm1, hm2⟩ := msgOf_len kd k (by omega)
  obtain ⟨S, hS, HS⟩ := HSH (msgOf kd k) (by omega) (by omega)
  have hok := idOk (msgOf kd k) S hm2 hS
  obtain ⟨l, hl⟩ : ∃ l, l = idOf (msgOf kd k) S := ⟨_, rfl⟩
  have CPK := Lib.hid fun (W : World) (u : Value) (hr : Rd W W.heap.size u k) (hK : KAt W kf) => PeerOfKey_any kd u kf k S W HS hS hkd4 (by omega) (by omega) hr hK
  have CPM := Lib.hid fun (W : World) (u : Value) (hu : Rd W W.heap.size u (idOf (msgOf kd k) S)) (hr : Rd W W.heap.size (.slice (some ⟨b, o, none⟩) q cc) k) (hK : KAt W kf) => PeerMatches_any kd u (.slice (some ⟨b, o, none⟩) q cc) kf k S W HS hkd4 (by omega) (by omega) hu hr hK
  rw [← hl] at CPK CPM hok
  obtain ⟨⟨code, dat, hmh⟩, hlen, hpos, hpre⟩ := hok
  obtain ⟨K, hcan⟩ := Can.exists_ (bnum l)
  have hp := hpre K hcan
  have hK44 : K ≤ 3000000 := by
    have h1 := hcan.le_of_lt (Nat.lt_of_lt_of_le (bnum_lt l) (room58 l.length))
    omega
  have CC := Lib.hid fun (W : World) (u : Value) (m : List UInt8) (hm : m.length ≤ 1000000) (h : Rd W W.heap.size u m) => Clone_any u m W h (by omega)
  have CX := Lib.hid fun (W : World) (u : Value) (h : Rd W W.heap.size u l) => PeerText_any u K l W hcan h (by omega)
  have CX2 := Lib.hid fun (W : World) => PeerDecode58_any (str (t58 K l)) K code l dat W hmh rfl hcan hpos (by omega) hp
  have CD := Lib.hid fun (W : World) (u : Value) (h : Rd W W.heap.size u l) => PeerCid_any u code l dat W hmh h (by omega)
  have CD2 := Lib.hid fun (W : World) (u : Value) (h : Rd W W.heap.size u (1 :: 114 :: l)) => PeerOfCid_any u code l dat W hmh h (by omega)
  have CB := Lib.hid fun (W : World) (u : Value) (h : Rd W W.heap.size u l) => PeerBinary_any u l W h (by omega)
  have CB2 := Lib.hid fun (W : World) (u : Value) (h : Rd W W.heap.size u l) => PeerOfBinary_any u code l dat W hmh h (by omega)
  have CLt := Lib.hid fun (W : World) (u : Value) (h : Rd W W.heap.size u l) => PeerLetters_any u K l W h hcan hK44 (by omega)
  have CLt2 := Lib.hid fun (W : World) (u : Value) (h : Rd W W.heap.size u (t58 K l)) => PeerOfLetters_any u K code l dat W hmh h hcan hpos hK44 (by omega) hp
  have CT := Lib.hid fun (W : World) (u : Value) (h : Rd W W.heap.size u l) => PeerCidText_any u code l dat W hmh h (by omega)
  have CT2 := Lib.hid fun (W : World) => PeerDecode_any (str (mbT (1 :: 114 :: l))) code l dat W hmh rfl (by omega)
  have CE := Lib.hid fun (W : World) (u u' : Value) (h : Rd W W.heap.size u l) (h' : Rd W W.heap.size u' l) => Equal_any u u' l W h h'
  unfold TxEnds at CX
  generalize str (t58 K l) = tx at CX CX2
  generalize str (mbT (1 :: 114 :: l)) = tm at CT CT2
  have hkm : k.length ≤ 1000000 := by omega
  have hlm : l.length ≤ 1000000 := by omega
  have HV := Lib.hid hv
  have HK := Lib.hid hK1
  have HW := Lib.hid hrw1
  have HWL := Lib.hid hw
  clear hv hK1 hrw1 HS hmh hpre hpos hcan hp hl HSH hw hd
  go_enter Tryz.func3, Tryz.ntmps3
  go_wp2_with fail
  refine CK.out.mono ?_
  rintro e w' ⟨rfl, hw'⟩
  subst w'
  clear CK
  go_wp2_with fail
  refine (CC.out _ _ k hkm HV.out).mono ?_
  rintro e w2 ⟨u2, rfl, hu2, hb2⟩
  have C := Lib.hid (CPK.out w2 u2 hu2 (HK.out.on hb2))
  clear CPK hu2
  go_wp2_with fail
  refine C.out.mono ?_
  rintro e w3 ⟨iv, rfl, hiv, hb3⟩
  have C' := Lib.hid (CC.out w3 iv l hlm hiv)
  have HIV := Lib.hid hiv
  obtain ⟨ib, io, ic, rfl, _⟩ := hiv
  clear C
  go_wp2_with fail
  refine C'.out.mono ?_
  rintro e w4 ⟨xv, rfl, hxv, hb4⟩
  have B4 := Lib.hid (Below.then_ hb2 (Below.then_ hb3 hb4))
  have HI4 := Lib.hid (HIV.out.on hb4)
  have HX4 := Lib.hid hxv
  clear C' hxv HIV hb2 hb3 hb4
  go_wp2_with fail
  go_loopw [10, 11, 54] (fun v10 v11 v54 wr => ∃ i : Nat, i ≤ n2 ∧ v54 = .int .i64 i ∧ v10 = .bool true ∧ Hid (Rd wr wr.heap.size v11 l) ∧ Hid (Below w4.heap.size w4 wr)) (fun _ _ v54 _ => n2 - (intOf v54).toNat)
  case atStart =>
    exact ⟨0, by omega, rfl, rfl, HX4, Lib.hid (Below.refl _ _)⟩
  case round =>
    obtain ⟨i, hi, rfl, rfl, hx, hbw⟩ := hrel
    by_cases hin : i < n2
    · have hinI : (i : Int) < n2 := by omega
      have hwr : Rd wr wr.heap.size (.slice ao2 n2 c2) ways := ((HW.out (by omega)).on (Below.then_ B4.out hbw.out))
      obtain ⟨wb, wo, wc, ew, hwb, _, _, hwat⟩ := hwr
      injection ew with ew1 ew2 ew3
      subst ew1
      clear ew2 ew3
      obtain ⟨x, hx256, cx⟩ := RdAt.someCell hwat (i := i) (by rw [HWL.out]; exact hin)
      clear hwat
      obtain ⟨xb, xo, xc, rfl, hxr⟩ := hx.out
      have HXR := Lib.hid hx.out
      clear hxr hx
      obtain ⟨r, hr⟩ : ∃ r, r = x % 5 := ⟨_, rfl⟩
      have hr5 : r = 0 ∨ r = 1 ∨ r = 2 ∨ r = 3 ∨ r = 4 := by omega
      rcases hr5 with h5 | h5 | h5 | h5 | h5
      all_goals subst h5
      · -- text
        have e5 : (x : Int) % 5 = 0 := by omega
        clear hr
        go_wp2_with fail
        refine (CX.out wr _ HXR.out).mono ?_
        rintro e wa ⟨rfl, ha⟩
        go_wp2_with fail
        refine (CX2.out wa).mono ?_
        rintro e wz ⟨xz, rfl, hxz, hz⟩
        have HXZ := Lib.hid hxz
        obtain ⟨zb, zo, zc, rfl, _⟩ := hxz
        go_wp2_with fail
        go_roundw
        case rel => exact ⟨i + 1, by omega, by go_num, rfl, HXZ, Lib.hid ((show Below w4.heap.size w4 wr from hbw.out).trans ((Below.then_ ha hz).mono hbw.out.size))⟩
        case measure => simp [intOf]; omega
      · -- CID
        have e5 : (x : Int) % 5 = 1 := by omega
        clear hr
        go_wp2_with fail
        refine (CD.out wr _ HXR.out).mono ?_
        rintro e wa ⟨xa, rfl, hxa, ha⟩
        go_wp2_with fail
        refine (CD2.out wa xa hxa).mono ?_
        rintro e wz ⟨xz, rfl, hxz, hz⟩
        have HXZ := Lib.hid hxz
        obtain ⟨zb, zo, zc, rfl, _⟩ := hxz
        go_wp2_with fail
        go_roundw
        case rel => exact ⟨i + 1, by omega, by go_num, rfl, HXZ, Lib.hid ((show Below w4.heap.size w4 wr from hbw.out).trans ((Below.then_ ha hz).mono hbw.out.size))⟩
        case measure => simp [intOf]; omega
      · -- bytes
        have e5 : (x : Int) % 5 = 2 := by omega
        clear hr
        go_wp2_with fail
        refine (CB.out wr _ HXR.out).mono ?_
        rintro e wa ⟨xa, rfl, hxa, ha⟩
        go_wp2_with fail
        refine (CB2.out wa xa hxa).mono ?_
        rintro e wz ⟨xz, rfl, hxz, hz⟩
        have HXZ := Lib.hid hxz
        obtain ⟨zb, zo, zc, rfl, _⟩ := hxz
        go_wp2_with fail
        go_roundw
        case rel => exact ⟨i + 1, by omega, by go_num, rfl, HXZ, Lib.hid ((show Below w4.heap.size w4 wr from hbw.out).trans ((Below.then_ ha hz).mono hbw.out.size))⟩
        case measure => simp [intOf]; omega
      · -- letters
        have e5 : (x : Int) % 5 = 3 := by omega
        clear hr
        go_wp2_with fail
        refine (CLt.out wr _ HXR.out).mono ?_
        rintro e wa ⟨xa, rfl, hxa, ha⟩
        go_wp2_with fail
        refine (CLt2.out wa xa hxa).mono ?_
        rintro e wz ⟨xz, rfl, hxz, hz⟩
        have HXZ := Lib.hid hxz
        obtain ⟨zb, zo, zc, rfl, _⟩ := hxz
        go_wp2_with fail
        go_roundw
        case rel => exact ⟨i + 1, by omega, by go_num, rfl, HXZ, Lib.hid ((show Below w4.heap.size w4 wr from hbw.out).trans ((Below.then_ ha hz).mono hbw.out.size))⟩
        case measure => simp [intOf]; omega
      · -- the CID's text
        have e5 : (x : Int) % 5 = 4 := by omega
        clear hr
        go_wp2_with fail
        refine (CT.out wr _ HXR.out).mono ?_
        rintro e wa ⟨rfl, ha⟩
        go_wp2_with fail
        refine (CT2.out wa).mono ?_
        rintro e wz ⟨xz, rfl, hxz, hz⟩
        have HXZ := Lib.hid hxz
        obtain ⟨zb, zo, zc, rfl, _⟩ := hxz
        go_wp2_with fail
        go_roundw
        case rel => exact ⟨i + 1, by omega, by go_num, rfl, HXZ, Lib.hid ((show Below w4.heap.size w4 wr from hbw.out).trans ((Below.then_ ha hz).mono hbw.out.size))⟩
        case measure => simp [intOf]; omega
    · have hi2 : i = n2 := by omega
      subst hi2
      have BR := Below.then_ B4.out hbw.out
      have CE' := Lib.hid (CE.out wr _ _ hx.out (HI4.out.on hbw.out))
      have CM' := Lib.hid (CPM.out wr _ hx.out (HV.out.on BR) (HK.out.on BR))
      obtain ⟨xb, xo, xc, rfl, _⟩ := hx.out
      have hii : ((i : Int) < i) = False := by simp
      go_wp2_with fail
      refine CE'.out.mono ?_
      rintro e w' ⟨rfl, hw'⟩
      subst w'
      go_wp2_with fail
      refine CM'.out.mono ?_
      rintro e wa ⟨rfl, ha⟩
      go_wp2_with fail
      refine (CL.out _).mono ?_
      rintro e wz ⟨rfl, hz⟩
      go_wp2_with fail
      go_ret
      exact ⟨rfl, Below.then_ hb1 (Below.then_ BR (Below.then_ ha hz))⟩
end Go.Proofs.YtilngifollpoeaaGreatFmt

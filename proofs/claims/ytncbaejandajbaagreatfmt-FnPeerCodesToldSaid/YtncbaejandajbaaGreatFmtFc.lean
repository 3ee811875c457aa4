/- laws.FnPeerCodes returns true; what was there is as it was. -/
import Derived.Test.YtncbaejandajbaaGreatFmtPl
import Derived.Test.YtncbaejandajbaaGreatFmtMbd
import Derived.Test.YtncbaejandajbaaGreatFmtSl
namespace Go.Proofs.YtncbaejandajbaaGreatFmt
open Go.RowKit

set_option maxHeartbeats 8000000 in
set_option maxRecDepth 100000 in
theorem FnPeerCodes_any (code n c : Nat) (ao : Option Addr) (data : List UInt8) (w : World) (hcode : code < 4294967296) (hd : data.length = n) (hsrc : SrcB w (.slice ao n c) data) :
    Calls Tryz.prog 3 #[.int .u32 code, .slice ao n c] w fun e w' => e = .returned (.bool true) ∧ Below w.heap.size w w' := by
  have CL := Lib.hid peersLive_any
  by_cases hbig : 2147483647 < n
  · have hI : (2147483647 : Int) < n := by omega
    clear hsrc
    go_enter Tryz.func3, Tryz.ntmps3
    go_wp2_with fail
    go_ret
    exact ⟨rfl, Below.refl _ _⟩
  by_cases h100 : 100 < n
  · have hI : ((2147483647 : Int) < n) = False := by simp; omega
    have hI2 : (100 : Int) < n := by omega
    clear hsrc
    go_enter Tryz.func3, Tryz.ntmps3
    go_wp2_with fail
    refine (CL.out _).mono ?_
    rintro e w1 ⟨rfl, hb1⟩
    go_wp2_with fail
    go_ret
    exact ⟨rfl, hb1⟩
  have hI : ((2147483647 : Int) < n) = False := by simp; omega
  have hI2 : ((100 : Int) < n) = False := by simp; omega
  obtain ⟨L, hL⟩ : ∃ L, L = Lib.uvarint code ++ Lib.uvarint n ++ data := ⟨_, rfl⟩
  have hmh : IsMh L code data := ⟨by omega, by omega, by rw [hL, hd, List.append_assoc]⟩
  have hp1 := Lib.uvarint_pos code
  have hu1 := Lib.uvarint_length64 (x := code) (by omega)
  have hu2 := Lib.uvarint_length64 (x := n) (by omega)
  have hLl : L.length ≤ 120 := by rw [hL]; simp; omega
  obtain ⟨K, hK⟩ := Can.exists_ (bnum L)
  have D1 := Lib.hid fun (W : World) (v1 v2 : Value) (hW : Below w.heap.size w W) (h1 : Rd W W.heap.size v1 (Lib.uvarint code)) (h2 : Rd W W.heap.size v2 (Lib.uvarint n)) => Concat_any W.heap.size 3 v1 v2 (.slice ao n c) (Lib.uvarint code) (Lib.uvarint n) data (W.alloc (.cells #[v1, v2, .slice ao n c] 23)) 23 (Blk.new W _ _)
    ((SrcB.ofRd h1).below ((Below.refl _ _).alloc (Nat.le_refl _) _)) ((SrcB.ofRd h2).below ((Below.refl _ _).alloc (Nat.le_refl _) _)) ((hsrc.below hW).below ((Below.refl _ _).alloc (Nat.le_refl _) _)) hp1 (by omega)
  rw [← hL] at D1
  have CN1 := Lib.hid fun W => WireNumber_any code W (by omega)
  have CN2 := Lib.hid fun W => WireNumber_any n W (by omega)
  have CC := Lib.hid fun (W : World) (v : Value) (h : Rd W W.heap.size v L) => Clone_any v L W h (by omega)
  have CO := Lib.hid fun (W : World) (v : Value) (h : Rd W W.heap.size v L) => PeerOf_any v code L data W hmh h (by omega)
  have CD := Lib.hid fun (W : World) (v : Value) (h : Rd W W.heap.size v L) => PeerCid_any v code L data W hmh h (by omega)
  have CF := Lib.hid fun (W : World) (v : Value) (h : Rd W W.heap.size v (1 :: 114 :: L)) => PeerOfCid_any v code L data W hmh h (by omega)
  have CT := Lib.hid fun (W : World) (v : Value) (h : Rd W W.heap.size v L) => PeerCidText_any v code L data W hmh h (by omega)
  have CP := Lib.hid fun (W : World) => PeerDecode_any (str (mbT (1 :: 114 :: L))) code L data W hmh rfl (by omega)
  have CE := Lib.hid fun (W : World) (v v' : Value) (h : Rd W W.heap.size v L) (h' : Rd W W.heap.size v' L) => Equal_any v v' L W h h'
  have CX := Lib.hid fun (W : World) (v : Value) (h : Rd W W.heap.size v L) => PeerText_any v K L W hK h (by omega)
  have CB := Lib.hid fun (W : World) (v : Value) (h : Rd W W.heap.size v L) => PeerBase58_any v K L W hK h (by omega)
  unfold TxEnds at CX CB
  generalize str (t58 K L) = tx at CX CB
  generalize str (mbT (1 :: 114 :: L)) = tm at CT CP
  clear hsrc hK hmh hL hp1 hu1 hu2 hd
  have AB := Lib.hid fun (W : World) (o : Obj) => (Below.refl W.heap.size W).alloc (Nat.le_refl _) o
  go_enter Tryz.func3, Tryz.ntmps3
  go_wp2_with fail
  refine (CN1.out _).mono ?_
  rintro e w1 ⟨v1, rfl, hv1, hb1⟩
  go_wp2_with fail
  refine (CN2.out _).mono ?_
  rintro e w2 ⟨v2, rfl, hv2, hb2⟩
  have B2 := Below.then_ hb1 hb2
  have C := Lib.hid (D1.out w2 v1 v2 B2 (hv1.on hb2) hv2)
  obtain ⟨b1, o1, c1, e1, _⟩ := id hv1
  obtain ⟨b2, o2, c2, e2, _⟩ := id hv2
  subst e1 e2
  clear CN1 CN2 D1
  go_wp2_with fail
  refine C.out.mono ?_
  rintro e w3 ⟨v3, rfl, hv3, hb3⟩
  have B3 := Below.then_ (Below.then_ B2 (AB.out w2 _)) hb3
  clear C hv1 hv2 hb1 hb2 hb3 B2
  go_wp2_with fail
  refine (CC.out _ _ hv3).mono ?_
  rintro e w4 ⟨v4, rfl, hv4, hb4⟩
  go_wp2_with fail
  refine (CO.out _ _ hv4).mono ?_
  rintro e w5 ⟨v5, rfl, hv5, hb5⟩
  have b5 := Below.then_ hb4 hb5
  have hi5 := hv3.on b5
  have B5 := Below.then_ B3 b5
  clear hv4 hb4 hb5 b5 hv3 B3
  go_wp2_with fail
  refine (CC.out _ _ hi5).mono ?_
  rintro e w6 ⟨v6, rfl, hv6, hb6⟩
  go_wp2_with fail
  refine (CD.out _ _ hv6).mono ?_
  rintro e w7 ⟨v7, rfl, hv7, hb7⟩
  go_wp2_with fail
  refine (CF.out _ _ hv7).mono ?_
  rintro e w8 ⟨v8, rfl, hv8, hb8⟩
  have b8 := Below.then_ hb6 (Below.then_ hb7 hb8)
  have hi8 := hi5.on b8
  have ha8 := hv5.on b8
  have B8 := Below.then_ B5 b8
  clear hv6 hv7 hb6 hb7 hb8 b8 hi5 hv5 B5
  go_wp2_with fail
  refine (CC.out _ _ hi8).mono ?_
  rintro e w9 ⟨v9, rfl, hv9, hb9⟩
  go_wp2_with fail
  refine (CT.out _ _ hv9).mono ?_
  rintro e wA ⟨rfl, hbA⟩
  go_wp2_with fail
  refine (CP.out _).mono ?_
  rintro e wB ⟨vB, rfl, hvB, hbB⟩
  have bB := Below.then_ hb9 (Below.then_ hbA hbB)
  have hiB := hi8.on bB
  have haB := ha8.on bB
  have hcB := hv8.on bB
  have BB := Below.then_ B8 bB
  clear hv9 hb9 hbA hbB bB hi8 ha8 hv8 B8
  go_wp2_with fail
  refine (CE.out _ _ _ haB hiB).mono ?_
  rintro e w' ⟨rfl, hw'⟩
  subst w'
  go_wp2_with fail
  refine (CE.out _ _ _ hcB hiB).mono ?_
  rintro e w' ⟨rfl, hw'⟩
  subst w'
  go_wp2_with fail
  refine (CE.out _ _ _ hvB hiB).mono ?_
  rintro e w' ⟨rfl, hw'⟩
  subst w'
  clear haB hcB hvB
  go_wp2_with fail
  refine (CC.out _ _ hiB).mono ?_
  rintro e wC ⟨vC, rfl, hvC, hbC⟩
  have hiC := hiB.on hbC
  go_wp2_with fail
  refine (CX.out _ _ hvC).mono ?_
  rintro e wD ⟨rfl, hbD⟩
  have hiD := hiC.on hbD
  go_wp2_with fail
  refine (CB.out _ _ hiD).mono ?_
  rintro e wE ⟨rfl, hbE⟩
  go_wp2_with fail
  refine (CL.out _).mono ?_
  rintro e wF ⟨rfl, hbF⟩
  go_wp2_with fail
  go_ret
  exact ⟨rfl, Below.then_ BB (Below.then_ hbC (Below.then_ hbD (Below.then_ hbE hbF)))⟩
end Go.Proofs.YtncbaejandajbaaGreatFmt

/- bytes.Clone; peer.IDFromBytes; impl.PeerOf, PeerCid, PeerOfCid, PeerCidText. -/
import Derived.Test.YtilngifollpoeaaGreatFmtMb
namespace Go.Proofs.YtilngifollpoeaaGreatFmt
open Go.RowKit

theorem str_ne (x : UInt8) (l : List UInt8) : (str (x :: l)).toList.isEmpty = false := by
  rw [show (str (x :: l)).toList = x :: l from Lib.toList_data _]
  rfl

theorem ofOwn {w : World} {base n : Nat} {v : Value} {l : List UInt8} (h : w.ownsRow base 5 1 v n ((l.map fun x => (x.toNat : Int)).map (Value.int .u8))) (hl : l.length = n) (hne : v ≠ .slice none 0 0) : Rd w w.heap.size v l := by
  rcases h.2 with ⟨h0, _⟩ | ⟨g, cap, cur, rfl, hb, hgg, h1, h2, h3, h4⟩
  · exact absurd h0 hne
  · refine ⟨g, 0, cap, by rw [hl], Blk.lt (t := 5) (cs := cur) hgg, by omega, h2, fun j x hx => ?_⟩
    have hj : j < l.length := (List.getElem?_eq_some_iff.1 hx).1
    rw [Nat.zero_add, h.cellAt j (by omega), List.getElem?_map, List.getElem?_map, hx]
    rfl

set_option maxHeartbeats 1000000 in
theorem Clone_any (v : Value) (l : List UInt8) (w : World) (h : Rd w w.heap.size v l) (hl : l.length ≤ 1099511627776) :
    Calls Tryz.prog 7 #[v] w (NewB l w) := by
  obtain ⟨b, o, c, rfl, hb, hlc, hcm, hat⟩ := h
  refine (Tryz.bytes_Clone_at ⟨b, o, none⟩ l.length c (l.map fun x => (x.toNat : Int)) w (by simp) (by omega) (fun i hi => ?_)).mono ?_
  · have e : (⟨b, o, none⟩ : Addr).add i = ⟨b, o + i, none⟩ := by
      unfold Addr.add
      split
      · simp_all
      · rfl
    rw [e, hat.at_ hi, List.getD_eq_getElem?_getD, List.getElem?_map, List.getElem?_eq_getElem hi]
    rfl
  · rintro e w1 ⟨v', rfl, hown, hne, hb1⟩
    exact ⟨v', rfl, ofOwn hown rfl hne, hb1⟩

/-- peer.IDFromBytes: the ID, no error. -/
def IdEnds (l : List UInt8) (w : World) (e : Ending) (w' : World) : Prop := e = .returned (.tuple #[.string (str l), .nilIface]) ∧ Below w.heap.size w w'

set_option maxHeartbeats 2000000 in
set_option maxRecDepth 100000 in
theorem IDFromBytes_any (v : Value) (code : Nat) (l data : List UInt8) (w : World) (h : IsMh l code data) (hr : Rd w w.heap.size v l) :
    Calls Tryz.prog 36 #[v] w (IdEnds l w) := by
  obtain ⟨b, o, c, rfl, hb, hlc, hcm, hat⟩ := hr
  obtain ⟨n, hn⟩ : ∃ n, l.length = n := ⟨_, rfl⟩
  rw [hn] at hlc ⊢
  have C := Lib.hid (mhCast_any b o n c code l data w h hn hlc (by unfold maxLen at hcm; omega) hb hat)
  have K := Lib.hid fun (W : World) (hW : Below w.heap.size w W) => conv_rd (P := Tryz.prog) W Tryz.underlying22 Tryz.underlying5 Tryz.underlying40 hn (hat.below hW hb) (c := c)
  clear hat h hn
  go_enter Tryz.func36, Tryz.ntmps36
  go_wp2_with fail
  refine C.out.mono ?_
  rintro e w1 ⟨rfl, hb1⟩
  have k := K.out w1 hb1
  clear C
  go_wp2_with fail
  go_ret2
  exact ⟨rfl, hb1⟩

/-- A new slice of bytes and true. -/
def NewBT (l : List UInt8) (w : World) (e : Ending) (w' : World) : Prop := ∃ v, e = .returned (.tuple #[v, .bool true]) ∧ Rd w' w'.heap.size v l ∧ Below w.heap.size w w'

/-- []byte(id). -/
theorem conv_id (l : List UInt8) (hl : l.length ≤ 1099511627776) (W : World) :
    ∃ v W', (convert 40 22 (.string (str l))).run Tryz.prog W = .ok v W' ∧ Rd W' W'.heap.size v l ∧ Below W.heap.size W W' :=
  ⟨_, _, Lib.run_convert_string_bytes (P := Tryz.prog) W 40 22 5 (str l) Tryz.underlying40 Tryz.underlying22 Tryz.underlying5, bytesWorld_rd W 5 (str l) rfl (by unfold maxLen; omega), bytesWorld_below W _ _⟩

set_option maxHeartbeats 2000000 in
set_option maxRecDepth 100000 in
theorem PeerOf_any (v : Value) (code : Nat) (l data : List UInt8) (w : World) (h : IsMh l code data) (hr : Rd w w.heap.size v l) (hl : l.length ≤ 1099511627776) :
    Calls Tryz.prog 19 #[v] w (NewBT l w) := by
  have C1 := Lib.hid (Clone_any v l w hr hl)
  have C2 := Lib.hid fun (W : World) (v : Value) (hv : Rd W W.heap.size v l) => IDFromBytes_any v code l data W h hv
  have K := Lib.hid fun (W : World) => conv_id l hl W
  obtain ⟨b, o, c, rfl, hb, hlc, hcm, hat⟩ := hr
  clear hat h
  go_enter Tryz.func19, Tryz.ntmps19
  go_wp2_with fail
  refine C1.out.mono ?_
  rintro e w1 ⟨v1, rfl, hv1, hb1⟩
  go_wp2_with fail
  refine (C2.out w1 v1 hv1).mono ?_
  rintro e w2 ⟨rfl, hb2⟩
  obtain ⟨v2, W2, hk, hv2, hb3⟩ := K.out w2
  clear C1 C2 K hv1
  go_wp2_with fail
  go_ret2
  exact ⟨_, rfl, hv2, Below.then_ hb1 (Below.then_ hb2 hb3)⟩

set_option maxHeartbeats 2000000 in
set_option maxRecDepth 100000 in
theorem PeerCid_any (v : Value) (code : Nat) (l data : List UInt8) (w : World) (h : IsMh l code data) (hr : Rd w w.heap.size v l) (hl : l.length ≤ 1000000000) :
    Calls Tryz.prog 11 #[v] w (NewB (1 :: 114 :: l) w) := by
  have C1 := Lib.hid fun W => ToCid_any (str l) l data code W h rfl (by omega)
  have C2 := Lib.hid fun W => Defined_any (str (1 :: 114 :: l)) W (str_ne _ _)
  have C3 := Lib.hid fun W => Bytes_any (str (1 :: 114 :: l)) (1 :: 114 :: l) W rfl (by simp) (by unfold maxLen; simp; omega)
  have C4 := Lib.hid fun (W : World) (v : Value) (hv : Rd W W.heap.size v (1 :: 114 :: l)) => Clone_any v _ W hv (by simp; omega)
  obtain ⟨b, o, c, rfl, hb, hlc, hcm, hat⟩ := hr
  have K := conv_rd (P := Tryz.prog) w Tryz.underlying22 Tryz.underlying5 Tryz.underlying40 rfl hat (c := c)
  clear hat h
  generalize hs1 : str l = s1 at C1 K
  generalize hs2 : str (1 :: 114 :: l) = s2 at C2 C3
  unfold NcEnds at C1
  rw [hs2] at C1
  clear hs1 hs2
  go_enter Tryz.func11, Tryz.ntmps11
  go_wp2_with fail
  refine (C1.out _).mono ?_
  rintro e w1 ⟨rfl, hb1⟩
  go_wp2_with fail
  refine (C2.out _).mono ?_
  rintro e w2 ⟨rfl, hb2⟩
  obtain ⟨hc2, hf2⟩ := bcell hb2
  go_wp2_with fail
  refine (C3.out _).mono ?_
  rintro e w3 ⟨v3, rfl, hv3, hb3⟩
  go_wp2_with fail
  refine (C4.out w3 v3 hv3).mono ?_
  rintro e w4 ⟨v4, rfl, hv4, hb4⟩
  clear C1 C2 C3 C4 hv3
  go_wp2_with fail
  go_ret
  exact ⟨_, rfl, hv4, Below.then_ hb1 (Below.then_ ((Below.refl _ _).alloc (Nat.le_refl _) (.cells #[.string s2] 48)) (Below.then_ hb2 (Below.then_ hb3 hb4)))⟩

set_option maxHeartbeats 2000000 in
set_option maxRecDepth 100000 in
theorem PeerCidText_any (v : Value) (code : Nat) (l data : List UInt8) (w : World) (h : IsMh l code data) (hr : Rd w w.heap.size v l) (hl : l.length ≤ 1000000000) :
    Calls Tryz.prog 16 #[v] w fun e w' => e = .returned (.string (str (mbT (1 :: 114 :: l)))) ∧ Below w.heap.size w w' := by
  have C1 := Lib.hid fun W => ToCid_any (str l) l data code W h rfl (by omega)
  have C2 := Lib.hid fun W => Defined_any (str (1 :: 114 :: l)) W (str_ne _ _)
  have C3 := Lib.hid fun W => CidString_any (str (1 :: 114 :: l)) l W rfl (by rw [str_size]; simp; omega)
  obtain ⟨b, o, c, rfl, hb, hlc, hcm, hat⟩ := hr
  have K := conv_rd (P := Tryz.prog) w Tryz.underlying22 Tryz.underlying5 Tryz.underlying40 rfl hat (c := c)
  clear hat h
  generalize hs1 : str l = s1 at C1 K
  generalize hs2 : str (1 :: 114 :: l) = s2 at C2 C3
  unfold NcEnds at C1
  rw [hs2] at C1
  clear hs1 hs2
  go_enter Tryz.func16, Tryz.ntmps16
  go_wp2_with fail
  refine (C1.out _).mono ?_
  rintro e w1 ⟨rfl, hb1⟩
  go_wp2_with fail
  refine (C2.out _).mono ?_
  rintro e w2 ⟨rfl, hb2⟩
  obtain ⟨hc2, hf2⟩ := bcell hb2
  go_wp2_with fail
  refine (C3.out _).mono ?_
  rintro e w3 ⟨rfl, hb3⟩
  clear C1 C2 C3
  go_wp2_with fail
  go_ret
  exact ⟨rfl, Below.then_ hb1 (Below.then_ ((Below.refl _ _).alloc (Nat.le_refl _) (.cells #[.string s2] 48)) (Below.then_ hb2 hb3))⟩

set_option maxHeartbeats 2000000 in
set_option maxRecDepth 100000 in
theorem PeerOfCid_any (v : Value) (code : Nat) (l data : List UInt8) (w : World) (h : IsMh l code data) (hr : Rd w w.heap.size v (1 :: 114 :: l)) (hl : l.length ≤ 1000000000) :
    Calls Tryz.prog 10 #[v] w (NewBT l w) := by
  have h2 := h.two
  have C1 := Lib.hid (Clone_any v _ w hr (by simp; omega))
  have C2 := Lib.hid fun (W : World) (b o c : Nat) (n : Nat) (hn : l.length + 2 = n) (hb : b < W.heap.size) (hnc : n ≤ c) (hc : c ≤ maxLen) (hat : RdAt W b o (1 :: 114 :: l)) => cidCast_any b o n c code l data W h hn hnc (by unfold maxLen at hc; omega) hb hat
  have C3 := Lib.hid fun W => FromCid_any (str (1 :: 114 :: l)) l W rfl (by intro e; rw [e] at h2; simp at h2) (by rw [str_size]; unfold maxLen; simp; omega)
  have K := Lib.hid fun (W : World) => conv_id l (by omega) W
  obtain ⟨b, o, c, rfl, hb, hlc, hcm, hat⟩ := hr
  clear hat h hlc
  unfold CcEnds at C2
  generalize hs2 : str (1 :: 114 :: l) = s2 at C2 C3
  clear hs2
  go_enter Tryz.func10, Tryz.ntmps10
  go_wp2_with fail
  refine C1.out.mono ?_
  rintro e w1 ⟨v1, rfl, hv1, hb1⟩
  obtain ⟨b1, o1, c1, rfl, hbb, hlc1, hcm1, hat1⟩ := hv1
  have C := Lib.hid (C2.out w1 b1 o1 c1 _ rfl hbb (by simpa using hlc1) hcm1 hat1)
  clear hat1 hlc1
  rw [show (1 :: 114 :: l).length = l.length + 2 from rfl] at *
  go_wp2_with fail
  refine C.out.mono ?_
  rintro e w2 ⟨rfl, hb2⟩
  go_wp2_with fail
  refine (C3.out _).mono ?_
  rintro e w3 ⟨rfl, hb3⟩
  obtain ⟨v2, W2, hk, hv2, hb4⟩ := K.out w3
  clear C C1 C2 C3 K
  go_wp2_with fail
  go_ret2
  exact ⟨_, rfl, hv2, Below.then_ hb1 (Below.then_ hb2 (Below.then_ ((Below.refl _ _).alloc (Nat.le_refl _) (.cells #[.string s2] 48)) (Below.then_ hb3 hb4)))⟩

end Go.Proofs.YtilngifollpoeaaGreatFmt

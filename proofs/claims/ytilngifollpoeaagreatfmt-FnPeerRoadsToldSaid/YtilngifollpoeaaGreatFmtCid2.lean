/- CIDs of version 1 with the codec of keys: read from bytes; an ID out of one. -/
import Derived.Test.YtilngifollpoeaaGreatFmtCid1
import Derived.Laws.BytesArg
import Derived.RegionTactic
import Derived.ChangeAlike
namespace Go.Proofs.YtilngifollpoeaaGreatFmt
open Go.RowKit

theorem strOfNums_bytes (l : List UInt8) : strOfNums (l.map fun x => (x.toNat : Int)) = str l := by
  unfold strOfNums str
  rw [List.map_map]
  congr 2
  conv => rhs; rw [← List.map_id l]
  apply List.map_congr_left
  intro x _
  simp

/-- string(b) of bytes that lie so. -/
theorem conv_rd {P : Program} (w : World) {src dst e : TypeId} (hs : P.underlying src = some (.slice e)) (he : P.underlying e = some (.int .u8)) (hd : P.underlying dst = some .string) {b o n c : Nat} {l : List UInt8} (hl : l.length = n) (hr : RdAt w b o l) :
    (convert src dst (.slice (some ⟨b, o, none⟩) n c)).run P w = .ok (.string (str l)) w := by
  rw [← strOfNums_bytes]
  refine run_convert_bytes_arg w src e hs he b o n c _ (by rw [List.length_map]; exact hl) (fun i hi => ?_) dst hd
  have h := hr.at_ (k := i) (by omega)
  rw [h, List.getD_eq_getElem?_getD, List.getElem?_map, List.getElem?_eq_getElem (by omega)]
  rfl

/-- peer.FromCid: the multihash of a CID of the codec of keys, no error. -/
def FcEnds (l : List UInt8) (w : World) (e : Ending) (w' : World) : Prop := e = .returned (.tuple #[.string (str l), .nilIface]) ∧ Below w.heap.size w w'

set_option maxHeartbeats 2000000 in
set_option maxRecDepth 100000 in
theorem FromCid_any (s : ByteArray) (l : List UInt8) (w : World) (hs : s.data.toList = 1 :: 114 :: l) (h0 : l ≠ []) (hn : s.size ≤ maxLen) :
    Calls Tryz.prog 26 #[.agg #[.string s]] w (FcEnds l w) := by
  have C1 := Lib.hid fun W => Type_any s 114 l W hs (by decide) hn
  have C2 := Lib.hid fun W => Hash_any s l W hs h0 hn
  clear hs hn
  go_enter Tryz.func26, Tryz.ntmps26
  go_wp2_with fail
  refine (C1.out _).mono ?_
  rintro e w1 ⟨rfl, hb1⟩
  obtain ⟨hc1, hf1⟩ := bcell hb1
  have e114 : (((114 : UInt8).toNat : Nat) : Int) = 114 := rfl
  rw [e114]
  go_wp2_with fail
  refine (C2.out _).mono ?_
  rintro e w2 ⟨v, rfl, hrd2, hb2⟩
  obtain ⟨b, o, c, rfl, hbw, hlc, hcm, hat⟩ := hrd2
  have K := conv_rd (P := Tryz.prog) w2 Tryz.underlying67 Tryz.underlying5 Tryz.underlying40 rfl hat (c := c)
  clear hat
  go_wp2_with fail
  go_ret2
  exact ⟨rfl, Below.then_ ((Below.refl _ _).alloc (Nat.le_refl _) (.cells #[.string s] 48)) (Below.then_ hb1 hb2)⟩

/-- gocid.CidFromBytes: how many bytes, the CID, no error. -/
def CbEnds (l : List UInt8) (w : World) (e : Ending) (w' : World) : Prop := e = .returned (.tuple #[.int .i64 (l.length : Nat), .agg #[.string (str l)], .nilIface]) ∧ Below w.heap.size w w'

set_option maxHeartbeats 4000000 in
set_option maxRecDepth 100000 in
theorem CidFromBytes_any (b o n c code : Nat) (l data : List UInt8) (w : World) (h : IsMh l code data) (hn : l.length + 2 = n) (hnc : n ≤ c) (hc : c ≤ 9223372036854775807) (hb : b < w.heap.size) (hr : RdAt w b o (1 :: 114 :: l)) :
    Calls Tryz.prog 45 #[.slice (some ⟨b, o, none⟩) n c] w (CbEnds (1 :: 114 :: l) w) := by
  have h2 := h.two
  have C1 := Lib.hid fun (W : World) (hW : Below w.heap.size w W) => FromUvarint_k b o n c 1 1 (114 :: l) W (by rw [Lib.uvarint_small (by decide)]; rfl) (by decide) (by simp; omega) (by omega) (by rw [Lib.uvarint_small (by decide)]; exact hr.below hW hb)
  have C2 := Lib.hid fun (W : World) (hW : Below w.heap.size w W) => FromUvarint_k b (o + 1) (n - 1) (c - 1) 114 1 l W (by rw [Lib.uvarint_small (by decide)]; rfl) (by decide) (by omega) (by omega) (by rw [Lib.uvarint_small (by decide)]; exact (hr.below hW hb).drop 1)
  have C3 := Lib.hid fun (W : World) (hW : Below w.heap.size w W) => MHFromBytes_any b (o + 2) (n - 2) (c - 2) code l data W h (by omega) (by omega) (by omega) ((hr.below hW hb).drop 2)
  have K := Lib.hid fun (W : World) (hW : Below w.heap.size w W) (c' : Nat) => conv_rd (P := Tryz.prog) W Tryz.underlying22 Tryz.underlying5 Tryz.underlying9 (n := n) (by simp; omega) (hr.below hW hb) (c := c')
  have hc0 : w.cell? ⟨b, o, none⟩ = some (.int .u8 1) := by have := hr 0 1 rfl; simpa using this
  have hlen : (((1 :: 114 :: l).length : Nat) : Int) = n := by simp; omega
  have Hlen := Lib.hid hlen
  have ad : ∀ (W : World) (j : Nat) (o : Obj), (W.drewN j).alloc o = (W.alloc o).drewN j := fun _ _ _ => rfl
  have sd : ∀ (W : World) (j : Nat) (x : Addr) (v : Value), (W.drewN j).setCell x v = (W.setCell x v).drewN j := fun _ _ _ _ => rfl
  have hn4 : 4 ≤ n := by omega
  clear hr hlen h hn h2
  go_enter Tryz.func45, Tryz.ntmps45
  go_wp2_with fail
  refine (C1.out _ ((Below.refl _ _).alloc (Nat.le_refl _) _)).mono ?_
  rintro e w1 ⟨rfl, rfl⟩
  go_wp2_with fail
  refine (C2.out _ ((Below.refl _ _).alloc (Nat.le_refl _) _)).mono ?_
  rintro e w1 ⟨rfl, rfl⟩
  go_wp2_with fail
  refine (C3.out _ ((Below.refl _ _).alloc (Nat.le_refl _) _)).mono ?_
  rintro e w1 ⟨q, rfl, rfl⟩
  go_wp2_with fail
  rw [show (2 : Int) + ((n - 2 : Nat) : Int) = n from by omega]
  have k1 := fun q' : Nat => K.out ((w.alloc (.cells #[.string ⟨#[]⟩] 48)).drewN q') (below_drewN ((Below.refl _ _).alloc (Nat.le_refl _) _) _) c
  have k2 := fun q' : Nat => K.out (((w.alloc (.cells #[.string ⟨#[]⟩] 48)).drewN q').drew) (below_drewN (below_drewN ((Below.refl _ _).alloc (Nat.le_refl _) _) _) 1) c
  have hnn : (n : Int) ≤ c := by omega
  have htn : ((n : Int)).toNat = n := by omega
  clear C1 C2 C3
  go_region
  go_wp2_with fail
  refine bodyPost_ret (v := .tuple #[.int .i64 n, .agg #[.string (str (1 :: 114 :: l))], .nilIface]) ?_ rfl ?_
  · simp only [results, Tryz.results45]
    go_simp
  · exact ⟨by rw [Hlen.out], below_drewN ((Below.refl _ _).alloc (Nat.le_refl _) _) _⟩

/-- gocid.Cast: the CID, no error. -/
def CcEnds (l : List UInt8) (w : World) (e : Ending) (w' : World) : Prop := e = .returned (.tuple #[.agg #[.string (str l)], .nilIface]) ∧ Below w.heap.size w w'

set_option maxHeartbeats 4000000 in
set_option maxRecDepth 100000 in
theorem cidCast_any (b o n c code : Nat) (l data : List UInt8) (w : World) (h : IsMh l code data) (hn : l.length + 2 = n) (hnc : n ≤ c) (hc : c ≤ 9223372036854775807) (hb : b < w.heap.size) (hr : RdAt w b o (1 :: 114 :: l)) :
    Calls Tryz.prog 25 #[.slice (some ⟨b, o, none⟩) n c] w (CcEnds (1 :: 114 :: l) w) := by
  have C := Lib.hid (CidFromBytes_any b o n c code l data (w.alloc (.cells #[.string ⟨#[]⟩] 48)) h hn hnc hc (by simp; omega) (hr.below ((Below.refl _ _).alloc (Nat.le_refl _) _) hb))
  have hlen : (((1 :: 114 :: l).length : Nat) : Int) = n := by simp; omega
  have ad : ∀ (W : World) (j : Nat) (o : Obj), (W.drewN j).alloc o = (W.alloc o).drewN j := fun _ _ _ => rfl
  have sd : ∀ (W : World) (j : Nat) (x : Addr) (v : Value), (W.drewN j).setCell x v = (W.setCell x v).drewN j := fun _ _ _ _ => rfl
  clear hr h hn
  unfold CbEnds at C
  rw [hlen] at C
  clear hlen
  go_enter Tryz.func25, Tryz.ntmps25
  go_wp2_with fail
  refine C.out.mono ?_
  rintro e w1 ⟨rfl, hb1⟩
  obtain ⟨hc1, hf1⟩ := bcell hb1
  have hz : w.heap.size < w1.heap.size := by have := hb1.size; simp at this; omega
  go_wp2_with fail
  refine bodyPost_ret (v := .tuple #[.agg #[.string (str (1 :: 114 :: l))], .nilIface]) ?_ rfl ?_
  · simp only [results, Tryz.results25]
    go_simp
  · exact ⟨rfl, ((Below.then_ ((Below.refl _ _).alloc (Nat.le_refl _) _) hb1).setCell (p := ⟨w.heap.size, 0, none⟩) (Nat.le_refl _) _).alloc (by simp; omega) _⟩

end Go.Proofs.YtilngifollpoeaaGreatFmt

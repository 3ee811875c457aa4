/- The ID of a toy key: IDFromPublicKey, MatchesPublicKey; impl.PeerOfKey, PeerMatches. What mh.Sum answers for SHA2-256 comes in as a fact. -/
import Derived.Test.YtilngifollpoeaaGreatFmtKey
import Derived.Test.YtilngifollpoeaaGreatFmtIdb
import Derived.Test.YtilngifollpoeaaGreatFmtPeer1
import Derived.Handy
namespace Go.Proofs.YtilngifollpoeaaGreatFmt
open Go.RowKit

/-- The table of SHA2-256 holds kf. -/
def KAt (w : World) (kf : Nat → Int) : Prop := ∀ i, i < 64 → w.cell? ⟨25, i, none⟩ = some (.int .u32 (kf i))

theorem KAt.lt {w : World} {kf : Nat → Int} (h : KAt w kf) : 25 < w.heap.size := by
  have h0 := h 0 (by decide)
  rcases Nat.lt_or_ge 25 w.heap.size with h1 | h1
  · exact h1
  · simp [World.cell?, Array.getElem?_eq_none h1] at h0

theorem KAt.on {w w' : World} {kf : Nat → Int} (h : KAt w kf) (hb : Below w.heap.size w w') : KAt w' kf := fun i hi => (hb.cell (p := ⟨25, i, none⟩) h.lt).trans (h i hi)

/-- The ID of a message whose SHA2-256 is S. -/
def idOf (m S : List UInt8) : List UInt8 := if m.length ≤ 42 then (0 : Nat).toUInt8 :: m.length.toUInt8 :: m else (18 : Nat).toUInt8 :: (32 : Nat).toUInt8 :: S

/-- mh.Sum of m by SHA2-256 answers S. -/
def ShaSays (kf : Nat → Int) (m S : List UInt8) : Prop := ∀ (v : Value) (W : World), Rd W W.heap.size v m → KAt W kf → Calls Tryz.prog 39 #[v, .int .u64 18, .int .i64 (-1)] W (NewBE ((18 : Nat).toUInt8 :: (32 : Nat).toUInt8 :: S) W)

theorem msgOf_len (kind : Nat) (k : List UInt8) (h : k.length < 16384) : (msgOf kind k).length ≤ k.length + 5 ∧ 3 ≤ (msgOf kind k).length := by
  unfold msgOf
  have := uvl2 h
  simp only [List.length_cons, List.length_append]
  omega

set_option maxHeartbeats 4000000 in
set_option maxRecDepth 100000 in
theorem IDFromPk_any (g kind b o n c : Nat) (kf : Nat → Int) (k S : List UInt8) (w : World) (HS : ShaSays kf (msgOf kind k) S) (h : ToyAt w g kind b o n c) (hkind : kind < 4) (hn : k.length = n) (hk : n < 16384) (hb : b < w.heap.size) (hr : RdAt w b o k) (hK : KAt w kf) :
    Calls Tryz.prog 22 #[.iface 35 (.pointer (some ⟨g, 0, none⟩))] w (IdEnds (idOf (msgOf kind k) S) w) := by
  have C1 := Lib.hid (MarshalPk_any g kind b o n c k w h hkind hn hk hb hr)
  obtain ⟨hm1, hm2⟩ := msgOf_len kind k (by omega)
  rw [hn] at hm1
  unfold idOf
  obtain ⟨m, hm⟩ : ∃ m, m = msgOf kind k := ⟨_, rfl⟩
  rw [← hm] at C1 HS hm1 hm2 ⊢
  have HK := Lib.hid hK
  obtain ⟨q, hq⟩ : ∃ q, q = m.length := ⟨_, rfl⟩
  rw [← hq] at hm1 hm2 ⊢
  by_cases hs : q ≤ 42
  · rw [if_pos hs]
    have C2 := Lib.hid fun (v : Value) (W : World) (hr : Rd W W.heap.size v m) => sumId_any v q m W hr hq.symm (by omega) (by omega)
    obtain ⟨R, hR⟩ : ∃ R, R = (0 : Nat).toUInt8 :: q.toUInt8 :: m := ⟨_, rfl⟩
    rw [← hR] at C2 ⊢
    have KC := Lib.hid fun (W : World) (b o c : Nat) (hat : RdAt W b o R) => conv_rd (P := Tryz.prog) W Tryz.underlying67 Tryz.underlying5 Tryz.underlying40 (n := R.length) rfl hat (c := c)
    unfold IdEnds
    generalize str R = s3 at KC ⊢
    have hsI : (q : Int) ≤ 42 := by omega
    have HQ := Lib.hid hq
    clear h hr hn hm hq hR HS hK
    go_enter Tryz.func22, Tryz.ntmps22
    go_wp2_with fail
    refine C1.out.mono ?_
    rintro e w1 ⟨v1, rfl, hv1, hb1⟩
    have D := Lib.hid (C2.out v1 w1 hv1)
    obtain ⟨b1, o1, c1, rfl, _⟩ := hv1
    rw [← HQ.out] at D ⊢
    clear C1 C2
    go_wp2_with fail
    refine D.out.mono ?_
    rintro e w2 ⟨v2, rfl, hv2, hb2⟩
    obtain ⟨b2, o2, c2, rfl, _, _, _, hat2⟩ := hv2
    have kc := KC.out w2 b2 o2 c2 hat2
    clear D KC hat2
    go_wp2_with fail
    go_ret2
    exact ⟨rfl, Below.then_ hb1 hb2⟩
  · rw [if_neg hs]
    have C2 := Lib.hid fun (v : Value) (W : World) (hr : Rd W W.heap.size v m) (hK : KAt W kf) => HS v W hr hK
    obtain ⟨R, hR⟩ : ∃ R, R = (18 : Nat).toUInt8 :: (32 : Nat).toUInt8 :: S := ⟨_, rfl⟩
    rw [← hR] at C2 ⊢
    have KC := Lib.hid fun (W : World) (b o c : Nat) (hat : RdAt W b o R) => conv_rd (P := Tryz.prog) W Tryz.underlying67 Tryz.underlying5 Tryz.underlying40 (n := R.length) rfl hat (c := c)
    unfold IdEnds
    generalize str R = s3 at KC ⊢
    have hsI : ((q : Int) ≤ 42) = False := by simp; omega
    have HQ := Lib.hid hq
    clear h hr hn hm hq hR HS hK
    go_enter Tryz.func22, Tryz.ntmps22
    go_wp2_with fail
    refine C1.out.mono ?_
    rintro e w1 ⟨v1, rfl, hv1, hb1⟩
    have D := Lib.hid (C2.out v1 w1 hv1 (HK.out.on hb1))
    obtain ⟨b1, o1, c1, rfl, _⟩ := hv1
    rw [← HQ.out] at D ⊢
    clear C1 C2
    go_wp2_with fail
    refine D.out.mono ?_
    rintro e w2 ⟨v2, rfl, hv2, hb2⟩
    obtain ⟨b2, o2, c2, rfl, _, _, _, hat2⟩ := hv2
    have kc := KC.out w2 b2 o2 c2 hat2
    clear D KC hat2
    go_wp2_with fail
    go_ret2
    exact ⟨rfl, Below.then_ hb1 hb2⟩

set_option maxHeartbeats 4000000 in
set_option maxRecDepth 100000 in
theorem PeerOfKey_any (kind : Nat) (v : Value) (kf : Nat → Int) (k S : List UInt8) (w : World) (HS : ShaSays kf (msgOf kind k) S) (hS : S.length = 32) (hkind : kind < 4) (h0 : 0 < k.length) (hk : k.length < 16384) (hr : Rd w w.heap.size v k) (hK : KAt w kf) :
    Calls Tryz.prog 6 #[.int .i32 kind, v] w (NewBT (idOf (msgOf kind k) S) w) := by
  have hil : (idOf (msgOf kind k) S).length ≤ 44 := by
    unfold idOf
    split <;> simp only [List.length_cons] <;> omega
  have C1 := Lib.hid (toyOf_any kind v k w hr hkind h0 (by omega))
  have C2 := Lib.hid fun (g b o c : Nat) (W : World) (h : ToyAt W g kind b o k.length c) (hb : b < W.heap.size) (hr : RdAt W b o k) (hK : KAt W kf) => IDFromPk_any g kind b o k.length c kf k S W HS h hkind rfl hk hb hr hK
  obtain ⟨R, hR⟩ : ∃ R, R = idOf (msgOf kind k) S := ⟨_, rfl⟩
  rw [← hR] at C2 hil ⊢
  have K := Lib.hid fun (W : World) => conv_id R (by omega) W
  unfold IdEnds at C2
  generalize str R = s3 at C2 K
  obtain ⟨b1, o1, c1, rfl, _⟩ := hr
  have HK := Lib.hid hK
  clear hK HS hR
  go_enter Tryz.func6, Tryz.ntmps6
  go_wp2_with fail
  refine C1.out.mono ?_
  rintro e w1 ⟨g, b, o, c, rfl, ht, hb, hat, hb1⟩
  have D := Lib.hid (C2.out g b o c w1 ht hb hat (HK.out.on hb1))
  clear C1 C2 ht hat
  go_wp2_with fail
  refine D.out.mono ?_
  rintro e w2 ⟨rfl, hb2⟩
  obtain ⟨v2, W2, hkv, hv2, hb3⟩ := K.out w2
  clear D K
  go_wp2_with fail
  go_ret2
  exact ⟨v2, rfl, hv2, Below.then_ (Below.then_ hb1 hb2) hb3⟩

set_option maxHeartbeats 4000000 in
set_option maxRecDepth 100000 in
theorem Matches_any (g kind b o n c : Nat) (kf : Nat → Int) (k S : List UInt8) (w : World) (HS : ShaSays kf (msgOf kind k) S) (h : ToyAt w g kind b o n c) (hkind : kind < 4) (hn : k.length = n) (hk : n < 16384) (hb : b < w.heap.size) (hr : RdAt w b o k) (hK : KAt w kf) :
    Calls Tryz.prog 35 #[.string (str (idOf (msgOf kind k) S)), .iface 35 (.pointer (some ⟨g, 0, none⟩))] w fun e w' => e = .returned (.bool true) ∧ Below w.heap.size w w' := by
  have C1 := Lib.hid (IDFromPk_any g kind b o n c kf k S w HS h hkind hn hk hb hr hK)
  unfold IdEnds at C1
  generalize str (idOf (msgOf kind k) S) = s at C1 ⊢
  clear h hr hn hK HS
  go_enter Tryz.func35, Tryz.ntmps35
  go_wp2_with fail
  refine C1.out.mono ?_
  rintro e w1 ⟨rfl, hb1⟩
  clear C1
  go_wp2_with fail
  go_ret
  exact ⟨by simp, hb1⟩

set_option maxHeartbeats 4000000 in
set_option maxRecDepth 100000 in
theorem PeerMatches_any (kind : Nat) (u v : Value) (kf : Nat → Int) (k S : List UInt8) (w : World) (HS : ShaSays kf (msgOf kind k) S) (hkind : kind < 4) (h0 : 0 < k.length) (hk : k.length < 16384) (hu : Rd w w.heap.size u (idOf (msgOf kind k) S)) (hr : Rd w w.heap.size v k) (hK : KAt w kf) :
    Calls Tryz.prog 18 #[u, .int .i32 kind, v] w fun e w' => e = .returned (.bool true) ∧ Below w.heap.size w w' := by
  have C1 := Lib.hid (toyOf_any kind v k w hr hkind h0 (by omega))
  have C2 := Lib.hid fun (g b o c : Nat) (W : World) (h : ToyAt W g kind b o k.length c) (hb : b < W.heap.size) (hr : RdAt W b o k) (hK : KAt W kf) => Matches_any g kind b o k.length c kf k S W HS h hkind rfl hk hb hr hK
  obtain ⟨R, hR⟩ : ∃ R, R = idOf (msgOf kind k) S := ⟨_, rfl⟩
  rw [← hR] at C2 hu
  have HU := Lib.hid hu
  obtain ⟨bu, ou, cu, rfl, hbu, hcu, hmu, hatu⟩ := hu
  have KC := Lib.hid fun (W : World) (hat : RdAt W bu ou R) => conv_rd (P := Tryz.prog) W Tryz.underlying22 Tryz.underlying5 Tryz.underlying40 (n := R.length) rfl hat (c := cu)
  have HA := Lib.hid hatu
  generalize str R = s3 at C2 KC
  obtain ⟨b1, o1, c1, rfl, _⟩ := hr
  have HK := Lib.hid hK
  clear hK HS hR hatu
  go_enter Tryz.func18, Tryz.ntmps18
  go_wp2_with fail
  refine C1.out.mono ?_
  rintro e w1 ⟨g, b, o, c, rfl, ht, hb, hat, hb1⟩
  have D := Lib.hid (C2.out g b o c w1 ht hb hat (HK.out.on hb1))
  have kc := KC.out w1 (HA.out.below hb1 hbu)
  clear C1 C2 ht hat
  go_wp2_with fail
  refine D.out.mono ?_
  rintro e w2 ⟨rfl, hb2⟩
  clear D
  go_wp2_with fail
  go_ret
  exact ⟨rfl, Below.then_ hb1 hb2⟩

set_option maxHeartbeats 1000000 in
set_option maxRecDepth 100000 in
/-- The data of a key that a law makes of its input. -/
theorem peerKey_some (kind n c : Nat) (ao : Option Addr) (w : World) (hn : 0 < n) (hk : kind < 256) :
    Calls Tryz.prog 4 #[.int .u8 kind, .slice ao n c] w fun e w' => e = .returned (.tuple #[.int .i32 ((kind % 4 : Nat) : Int), .slice ao n c]) ∧ w' = w := by
  have h0 : ((n : Int) = 0) = False := by simp; omega
  obtain ⟨r, hr⟩ : ∃ r, r = kind % 4 := ⟨_, rfl⟩
  have hrI : (kind : Int) % 4 = (r : Int) := by omega
  have hr4 : r < 4 := by omega
  rw [← hr]
  clear hr
  go_enter Tryz.func4, Tryz.ntmps4
  go_wp2_with fail
  go_ret2
  exact ⟨rfl, rfl⟩

set_option maxHeartbeats 1000000 in
set_option maxRecDepth 100000 in
theorem peerKey_none (kind c : Nat) (ao : Option Addr) (w : World) (hk : kind < 256) :
    Calls Tryz.prog 4 #[.int .u8 kind, .slice ao 0 c] w fun e w' => e = .returned (.tuple #[.int .i32 ((kind % 4 : Nat) : Int), .slice (some ⟨w.heap.size, 0, none⟩) 1 1]) ∧ w' = w.alloc (.cells #[.int .u8 kind] 5) := by
  obtain ⟨r, hr⟩ : ∃ r, r = kind % 4 := ⟨_, rfl⟩
  have hrI : (kind : Int) % 4 = (r : Int) := by omega
  have hr4 : r < 4 := by omega
  rw [← hr]
  clear hr
  go_enter Tryz.func4, Tryz.ntmps4
  go_wp2_with fail
  go_ret2
  exact ⟨rfl, rfl⟩
end Go.Proofs.YtilngifollpoeaaGreatFmt

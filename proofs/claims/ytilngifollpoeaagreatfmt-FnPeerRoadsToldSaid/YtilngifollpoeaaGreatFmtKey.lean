/- The toy key's message: KeyType.Enum, Toy.Raw, Toy.Type, PublicKeyToProto, PublicKey.Marshal, MarshalPublicKey. -/
import Derived.Test.YtilngifollpoeaaGreatFmtWire
import Derived.Test.YtilngifollpoeaaGreatFmtB32y
import Derived.Test.YtilngifollpoeaaGreatFmtPeer1
import Derived.Deep.RegionWith
import Derived.Handy
import Derived.BigQuiet
namespace Go.Proofs.YtilngifollpoeaaGreatFmt
open Go.RowKit

/-- A toy key stands at the block g. -/
def ToyAt (w : World) (g kind b o n c : Nat) : Prop := Blk w g 87 #[.int .i32 kind, .slice (some ⟨b, o, none⟩) n c]

set_option maxHeartbeats 1000000 in
set_option maxRecDepth 100000 in
theorem Enum_any (kind : Nat) (w : World) :
    Calls Tryz.prog 94 #[.int .i32 kind] w fun e w' => ∃ q, e = .returned (.pointer (some ⟨q, 0, none⟩)) ∧ Blk w' q 62 #[.int .i32 kind] ∧ w.heap.size ≤ q ∧ Below w.heap.size w w' := by
  go_enter Tryz.func94, Tryz.ntmps94
  go_wp2_with fail
  go_ret
  exact ⟨_, rfl, Blk.new w 62 _, Nat.le_refl _, (Below.refl _ _).alloc (Nat.le_refl _) _⟩

set_option maxHeartbeats 1000000 in
set_option maxRecDepth 100000 in
theorem Raw_any (g kind b o n c : Nat) (w : World) (h : ToyAt w g kind b o n c) :
    Calls Tryz.prog 213 #[.pointer (some ⟨g, 0, none⟩)] w fun e w' => e = .returned (.tuple #[.slice (some ⟨b, o, none⟩) n c, .nilIface]) ∧ w' = w := by
  have c1 := Blk.cell h 1
  simp at c1
  clear h
  go_enter Tryz.func213, Tryz.ntmps213
  go_wp2_with fail
  go_ret2
  exact ⟨rfl, rfl⟩

set_option maxHeartbeats 1000000 in
set_option maxRecDepth 100000 in
theorem KType_any (g kind b o n c : Nat) (w : World) (h : ToyAt w g kind b o n c) :
    Calls Tryz.prog 214 #[.pointer (some ⟨g, 0, none⟩)] w fun e w' => e = .returned (.int .i32 kind) ∧ w' = w := by
  have c1 := Blk.cell h 0
  simp at c1
  clear h
  go_enter Tryz.func214, Tryz.ntmps214
  go_wp2_with fail
  go_ret
  exact ⟨rfl, rfl⟩

set_option maxHeartbeats 2000000 in
set_option maxRecDepth 100000 in
theorem ToProto_any (g kind b o n c : Nat) (w : World) (h : ToyAt w g kind b o n c) :
    Calls Tryz.prog 55 #[.iface 35 (.pointer (some ⟨g, 0, none⟩))] w fun e w' => ∃ m q, e = .returned (.tuple #[.pointer (some ⟨m, 0, none⟩), .nilIface]) ∧ Blk w' m 132 #[.pointer (some ⟨q, 0, none⟩), .slice (some ⟨b, o, none⟩) n c] ∧ Blk w' q 62 #[.int .i32 kind] ∧ Below w.heap.size w w' := by
  have C1 := Lib.hid fun (W : World) (h : ToyAt W g kind b o n c) => Raw_any g kind b o n c W h
  have C2 := Lib.hid fun (W : World) (h : ToyAt W g kind b o n c) => KType_any g kind b o n c W h
  have C3 := Lib.hid fun (W : World) => Enum_any kind W
  have H := Lib.hid h
  clear h
  go_enter Tryz.func55, Tryz.ntmps55
  go_wp2_with fail
  refine (C1.out _ H.out).mono ?_
  rintro e w1 ⟨rfl, hw1⟩
  subst w1
  go_wp2_with fail
  refine (C2.out _ H.out).mono ?_
  rintro e w1 ⟨rfl, hw1⟩
  subst w1
  go_wp2_with fail
  refine (C3.out _).mono ?_
  rintro e w1 ⟨q, rfl, hq, _, hb⟩
  have HQ := Lib.hid hq
  clear C1 C2 C3 hq
  go_wp2_with fail
  go_ret2
  exact ⟨_, q, rfl, Blk.new w1 _ _, HQ.out.alloc _, hb.alloc hb.size _⟩

/-- The message of a toy key. -/
def msgOf (kind : Nat) (k : List UInt8) : List UInt8 := 8 :: kind.toUInt8 :: 18 :: (Lib.uvarint k.length ++ k)

set_option maxHeartbeats 2000000 in
set_option maxRecDepth 100000 in
theorem keyMarshal_any (g q kind b o n c : Nat) (k : List UInt8) (w : World) (hg : Blk w g 133 #[.pointer (some ⟨q, 0, none⟩), .slice (some ⟨b, o, none⟩) n c]) (hq : Blk w q 62 #[.int .i32 kind]) (hkind : kind < 4)
    (hn : k.length = n) (hk : n < 16384) (hb : b < w.heap.size) (hr : RdAt w b o k) :
    Calls Tryz.prog 95 #[.pointer (some ⟨g, 0, none⟩)] w (NewBE (msgOf kind k) w) := by
  obtain ⟨B, hB⟩ : ∃ B, B = w.heap.size := ⟨_, rfl⟩
  have g0 := Blk.cell hg 0
  have g1 := Blk.cell hg 1
  have q0 := Blk.cell hq 0
  simp at g0 g1 q0
  have hgB : g < B := by rw [hB]; exact hg.lt
  have hqB : q < B := by rw [hB]; exact hq.lt
  have HB := Lib.hid hB
  have C1 := Lib.hid (AppendTag_any B 8 1 0 (.slice none 0 0) [] w (.inl ⟨rfl, rfl, rfl⟩) ⟨rfl, .inl ⟨rfl, rfl⟩⟩ (by omega) (by simp))
  have C2 := Lib.hid fun (v : Value) (pre : List UInt8) (W : World) (h : OwnB B W v pre) (hB : B ≤ W.heap.size) (hl : pre.length ≤ 1000000) => AppendVarint_any B kind v pre W (by omega) h hB hl
  have C3 := Lib.hid fun (v : Value) (pre : List UInt8) (W : World) (h : OwnB B W v pre) (hB : B ≤ W.heap.size) (hl : pre.length ≤ 1000000) => AppendTag_any B 18 2 2 v pre W (.inr ⟨rfl, rfl, rfl⟩) h hB hl
  have C4 := Lib.hid fun (v : Value) (pre : List UInt8) (W : World) (h : OwnB B W v pre) (hB : B ≤ W.heap.size) (hl : pre.length ≤ 1000000) (hx : ∀ w1, Below B W w1 → SrcB w1 (.slice (some ⟨b, o, none⟩) n c) k) => AppendBytes_any B n c v (some ⟨b, o, none⟩) pre k W h hn hx hB hl hk
  have HR := Lib.hid (show ∀ w1, Below B w w1 → SrcB w1 (.slice (some ⟨b, o, none⟩) n c) k from fun w1 h1 => ⟨_, c, by rw [hn], fun _ => .inr ⟨_, rfl⟩, fun _ => ⟨_, rfl, by have := h1.size; show b < _; omega, (hr.below h1 (by omega)).adds⟩⟩)
  have HM := Lib.hid (show msgOf kind k = [] ++ [(8 : Nat).toUInt8] ++ [kind.toUInt8] ++ [(18 : Nat).toUInt8] ++ Lib.uvarint n ++ k from by unfold msgOf; rw [hn]; simp)
  have hkw : IntKind.u64.wrap (kind : Int) = kind := by rw [IntKind.wrap_u64]; omega
  have hki : IntKind.i32.wrap (kind : Int) = kind := by rw [IntKind.wrap_i32]; omega
  have he : ∀ w : World, (binOp .eql 22 (.slice (some ⟨b, o, none⟩) n c) (.slice none 0 0)).run Tryz.prog w = .ok (.bool false) w := fun _ => rfl
  clear hg hq hr hn hB
  go_enter Tryz.func95, Tryz.ntmps95
  go_wp2_with fail
  refine C1.out.mono ?_
  rintro e w1 ⟨v1, rfl, _, o1, b1⟩
  have s1 := b1.size
  have g01 := (b1.cell (p := ⟨g, 0, none⟩) hgB).trans g0
  have g11 := (b1.cell (p := ⟨g, 1, none⟩) hgB).trans g1
  have q01 := (b1.cell (p := ⟨q, 0, none⟩) hqB).trans q0
  have B1 : B ≤ w1.heap.size := Nat.le_trans (Nat.le_of_eq HB.out) s1
  have D2 := Lib.hid (C2.out v1 _ w1 o1 B1 (by simp))
  rw [Lib.uvarint_small (by omega)] at D2
  clear C1 C2 o1
  go_wp2_with fail
  refine D2.out.mono ?_
  rintro e w2 ⟨v2, rfl, _, o2, b2⟩
  have s2 := b2.size
  have B2 : B ≤ w2.heap.size := Nat.le_trans B1 s2
  have g12 := (b2.cell (p := ⟨g, 1, none⟩) hgB).trans g11
  have D3 := Lib.hid (C3.out v2 _ w2 o2 B2 (by simp))
  clear D2 C3 o2
  go_wp2_with fail
  refine D3.out.mono ?_
  rintro e w3 ⟨v3, rfl, _, o3, b3⟩
  have s3 := b3.size
  have B3 : B ≤ w3.heap.size := Nat.le_trans B2 s3
  have g13 := (b3.cell (p := ⟨g, 1, none⟩) hgB).trans g12
  have D4 := Lib.hid (C4.out v3 _ w3 o3 B3 (by simp) (fun w4 h4 => HR.out w4 ((b1.trans b2).trans (b3.trans h4))))
  clear D3 C4 o3
  go_wp2_with fail
  refine D4.out.mono ?_
  rintro e w4 ⟨v4, rfl, hne, o4, b4⟩
  have H4 := Lib.hid o4
  clear D4 o4
  go_wp2_with fail
  go_ret2
  refine ⟨v4, rfl, ?_, ?_⟩
  · rw [HM.out]
    exact OwnB.rd H4.out hne
  · rw [← HB.out]
    exact (b1.trans b2).trans (b3.trans b4)

set_option maxHeartbeats 2000000 in
set_option maxRecDepth 100000 in
theorem pkMarshal_any (m q kind b o n c : Nat) (k : List UInt8) (w : World) (hg : Blk w m 132 #[.pointer (some ⟨q, 0, none⟩), .slice (some ⟨b, o, none⟩) n c]) (hq : Blk w q 62 #[.int .i32 kind]) (hkind : kind < 4)
    (hn : k.length = n) (hk : n < 16384) (hb : b < w.heap.size) (hr : RdAt w b o k) :
    Calls Tryz.prog 56 #[.pointer (some ⟨m, 0, none⟩)] w (NewBE (msgOf kind k) w) := by
  have m0 := Blk.cell hg 0
  have m1 := Blk.cell hg 1
  simp at m0 m1
  have C1 := Lib.hid fun (g : Nat) (W : World) (hg : Blk W g 133 #[.pointer (some ⟨q, 0, none⟩), .slice (some ⟨b, o, none⟩) n c]) (hq : Blk W q 62 #[.int .i32 kind]) (hb : b < W.heap.size) (hr : RdAt W b o k) => keyMarshal_any g q kind b o n c k W hg hq hkind hn hk hb hr
  have HQ := Lib.hid hq
  have HR := Lib.hid hr
  clear hg hq hr hn
  have A0 : ∀ o : Obj, Below w.heap.size w (w.alloc o) := fun o => (Below.refl _ _).alloc (Nat.le_refl _) o
  obtain ⟨d, hd⟩ : ∃ d, d = w.heap.size := ⟨_, rfl⟩
  have C := Lib.hid (C1.out w.heap.size _ (Blk.new w 133 #[.pointer (some ⟨q, 0, none⟩), .slice (some ⟨b, o, none⟩) n c]) (HQ.out.alloc _) (by simp; omega) (HR.out.below (A0 _) hb))
  rw [← hd] at C
  have HD := Lib.hid hd
  clear C1 HQ HR hd
  go_enter Tryz.func56, Tryz.ntmps56
  go_wp2_with fail
  rw [← HD.out]
  refine C.out.mono ?_
  rintro e w1 ⟨v, rfl, hv, hb1⟩
  clear C
  go_wp2_with fail
  go_ret2
  exact ⟨v, rfl, hv, Below.then_ (A0 _) hb1⟩

set_option maxHeartbeats 2000000 in
set_option maxRecDepth 100000 in
theorem MarshalPk_any (g kind b o n c : Nat) (k : List UInt8) (w : World) (h : ToyAt w g kind b o n c) (hkind : kind < 4) (hn : k.length = n) (hk : n < 16384) (hb : b < w.heap.size) (hr : RdAt w b o k) :
    Calls Tryz.prog 38 #[.iface 35 (.pointer (some ⟨g, 0, none⟩))] w (NewBE (msgOf kind k) w) := by
  have C1 := Lib.hid (ToProto_any g kind b o n c w h)
  have C2 := Lib.hid fun (m q : Nat) (W : World) (hg : Blk W m 132 #[.pointer (some ⟨q, 0, none⟩), .slice (some ⟨b, o, none⟩) n c]) (hq : Blk W q 62 #[.int .i32 kind]) (hb : b < W.heap.size) (hr : RdAt W b o k) => pkMarshal_any m q kind b o n c k W hg hq hkind hn hk hb hr
  have HR := Lib.hid hr
  clear h hr hn
  go_enter Tryz.func38, Tryz.ntmps38
  go_wp2_with fail
  refine C1.out.mono ?_
  rintro e w1 ⟨m, q, rfl, hm, hq, hb1⟩
  have C := Lib.hid (C2.out m q w1 hm hq (by have := hb1.size; omega) (HR.out.below hb1 hb))
  clear C1 C2 hm hq
  go_wp2_with fail
  refine C.out.mono ?_
  rintro e w2 ⟨v, rfl, hv, hb2⟩
  clear C
  go_wp2_with fail
  go_ret2
  exact ⟨v, rfl, hv, Below.then_ hb1 hb2⟩

set_option maxHeartbeats 2000000 in
set_option maxRecDepth 100000 in
theorem NewToy_any (kind b o n c : Nat) (w : World) (hkind : kind < 4) (hn : 0 < n) :
    Calls Tryz.prog 37 #[.int .i32 kind, .slice (some ⟨b, o, none⟩) n c] w fun e w' => ∃ g, e = .returned (.tuple #[.pointer (some ⟨g, 0, none⟩), .nilIface]) ∧ ToyAt w' g kind b o n c ∧ Below w.heap.size w w' := by
  have k0 : ((kind : Int) < 0) = False := by simp
  have k3 : ((3 : Int) < kind) = False := by simp; omega
  have n0 : ((n : Int) = 0) = False := by simp; omega
  go_enter Tryz.func37, Tryz.ntmps37
  go_wp2_with fail
  go_ret2
  exact ⟨_, rfl, Blk.new w _ _, (Below.refl _ _).alloc (Nat.le_refl _) _⟩

set_option maxHeartbeats 2000000 in
set_option maxRecDepth 100000 in
theorem toyOf_any (kind : Nat) (v : Value) (k : List UInt8) (w : World) (hr : Rd w w.heap.size v k) (hkind : kind < 4) (hn : 0 < k.length) (hk : k.length ≤ 1000000) :
    Calls Tryz.prog 21 #[.agg #[.int .i32 kind, v]] w fun e w' => ∃ g b o c, e = .returned (.tuple #[.pointer (some ⟨g, 0, none⟩), .bool true]) ∧ ToyAt w' g kind b o k.length c ∧ b < w'.heap.size ∧ RdAt w' b o k ∧ Below w.heap.size w w' := by
  have A0 : Below w.heap.size w (w.alloc (.cells #[.int .i32 kind, v] 39)) := (Below.refl _ _).alloc (Nat.le_refl _) _
  have C1 := Lib.hid fun (W : World) (h : Rd W W.heap.size v k) => Clone_any v k W h (by omega)
  have C2 := Lib.hid fun (b o n c : Nat) (W : World) (hn : 0 < n) => NewToy_any kind b o n c W hkind hn
  have H1 := Lib.hid (show Rd (w.alloc (.cells #[.int .i32 kind, v] 39)).drew _ v k from hr.on A0.drew)
  obtain ⟨G, hG⟩ : ∃ G, G = w.heap.size := ⟨_, rfl⟩
  have HB := Lib.hid (Blk.new w 39 #[.int .i32 kind, v])
  obtain ⟨b1, o1, c1, rfl, _⟩ := hr
  go_enter Tryz.func21, Tryz.ntmps21
  go_wp2_with fail
  go_region_with (first
    | (go_at_call 7; (
       refine (C1.out _ H1.out).mono ?_
       rintro e w2 ⟨v2, rfl, hv2, hb2⟩
       obtain ⟨b2, o2, c2, rfl, hbl2, hlc2, hcm2, hat2⟩ := hv2
       have f2 := (HB.out.drew.on hb2).cell 0
       simp at f2))
    | (go_at_call 37
       refine (C2.out _ _ _ _ _ hn).mono ?_
       rintro e w3 ⟨g3, rfl, hv3, hb3⟩))
  all_goals
    go_wp2_with fail
    go_quiet (fail)
    go_wp2_with fail
    go_ret2
    exact ⟨g3, b2, o2, c2, rfl, hv3, Nat.lt_of_lt_of_le hbl2 hb3.size, hat2.below (below_drewN hb3 _) hbl2, below_drewN ((A0.drew.trans (hb2.mono (by simp))).trans (hb3.mono (by have := hb2.size; simp at this; omega))) _⟩
end Go.Proofs.YtilngifollpoeaaGreatFmt

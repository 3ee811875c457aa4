/- Multihash: at bytes that are the varint of a number below 2^35, that of a length below 2^31, and just so many bytes, the readers of gomultihash hand back these. -/
import Derived.Test.YtilngifollpoeaaGreatFmtVarint
import Derived.Deep.QuietTactic
import Derived.BigQuiet
namespace Go.Proofs.YtilngifollpoeaaGreatFmt
open Go.RowKit

theorem FromUvarint_k (b o n c x k : Nat) (rest : List UInt8) (w : World) (hk : (Lib.uvarint x).length = k) (hx : x < 2 ^ 35) (hl : k + rest.length = n) (hn : n ≤ 9223372036854775807) (hr : RdAt w b o (Lib.uvarint x ++ rest)) :
    Calls Tryz.prog 64 #[.slice (some ⟨b, o, none⟩) n c] w fun e w' => e = .returned (.tuple #[.int .u64 x, .int .i64 k, .nilIface]) ∧ w = w' := by
  subst hk
  exact FromUvarint_any b o n c x rest w hx hl hn hr

/-- gomultihash.uvarint: the number, what stands behind it, no error; the world but for draws. -/
def MuEnds (x b o n c k : Nat) (w : World) (e : Ending) (w' : World) : Prop :=
  ∃ o' m, e = .returned (.tuple #[.int .u64 x, .slice (some ⟨b, o', none⟩) (n - k) (c - k), .nilIface]) ∧ (k < c → o' = o + k) ∧ w' = w.drewN m

set_option maxHeartbeats 1000000 in
set_option maxRecDepth 100000 in
theorem mhuvarint_any (b o n c x k : Nat) (rest : List UInt8) (w : World) (hk : (Lib.uvarint x).length = k) (hk1 : 1 ≤ k) (hx : x < 2 ^ 35) (hl : k + rest.length = n) (hnc : n ≤ c) (hc : c ≤ 9223372036854775807) (hr : RdAt w b o (Lib.uvarint x ++ rest)) :
    Calls Tryz.prog 151 #[.slice (some ⟨b, o, none⟩) n c] w (MuEnds x b o n c k w) := by
  have C := Lib.hid (FromUvarint_k b o n c x k rest w hk hx hl (by omega) hr)
  have hz : ((k : Int) == 0) = false := by rw [beq_eq_false_iff_ne]; omega
  have hkn : k ≤ n := by omega
  clear hr hl hk hx
  go_enter Tryz.func151, Tryz.ntmps151
  go_wp2_with (go_at_call 64; refine C.out.mono ?_; rintro e w' ⟨rfl, rfl⟩)
  by_cases hkc : k < c
  · have hck : (c = k) = False := by simp; omega
    go_quiet (fail)
    go_wp2
    go_ret3
    exact ⟨o + k, _, rfl, fun _ => rfl, rfl⟩
  · have hck : c = k := by omega
    subst hck
    go_quiet (fail)
    go_wp2
    go_ret3
    refine ⟨o, _, ?_, fun h => absurd h (by omega), rfl⟩
    rw [show n - c = 0 from by omega, Nat.sub_self]
    rfl

theorem lt35 {m : Nat} (h : m < 2147483648) : m < 2 ^ 35 := Nat.lt_trans h (by decide)

/-- A multihash: the number of a hash, that of its bytes, and just so many. -/
structure IsMh (l : List UInt8) (code : Nat) (data : List UInt8) : Prop where
  code_lt : code < 2 ^ 35
  len_lt : data.length < 2147483648
  bytes : l = Lib.uvarint code ++ (Lib.uvarint data.length ++ data)

theorem IsMh.two {l : List UInt8} {code : Nat} {data : List UInt8} (h : IsMh l code data) : 2 ≤ l.length := by
  rw [h.bytes, List.length_append, List.length_append]
  have := Lib.uvarint_pos code
  have := Lib.uvarint_pos data.length
  omega

/-- gomultihash.readMultihashFromBuf: how many bytes, the number of the hash, its bytes, no error; the world but for draws. -/
def RmEnds (code b n m : Nat) (w : World) (e : Ending) (w' : World) : Prop :=
  ∃ o' c' q, e = .returned (.tuple #[.int .i64 n, .int .u64 code, .slice (some ⟨b, o', none⟩) m c', .nilIface]) ∧ w' = w.drewN q

set_option maxHeartbeats 2000000 in
set_option maxRecDepth 100000 in
theorem readMh_any (b o n c code : Nat) (l data : List UInt8) (w : World) (h : IsMh l code data) (hn : l.length = n) (hnc : n ≤ c) (hc : c ≤ 9223372036854775807) (hr : RdAt w b o l) :
    Calls Tryz.prog 112 #[.slice (some ⟨b, o, none⟩) n c] w (RmEnds code b n data.length w) := by
  obtain ⟨kc, hkc⟩ : ∃ k, (Lib.uvarint code).length = k := ⟨_, rfl⟩
  obtain ⟨km, hkm⟩ : ∃ k, (Lib.uvarint data.length).length = k := ⟨_, rfl⟩
  obtain ⟨m, hm⟩ : ∃ m, data.length = m := ⟨_, rfl⟩
  have hc1 := Lib.uvarint_pos code
  have hm1 := Lib.uvarint_pos data.length
  rw [hkc] at hc1
  rw [hkm] at hm1
  have hlen : kc + (km + m) = n := by
    rw [← hn, h.bytes, List.length_append, List.length_append, hkc, hkm, hm]
  have hr1 : RdAt w b o (Lib.uvarint code ++ (Lib.uvarint data.length ++ data)) := by rw [← h.bytes]; exact hr
  have hr2 : RdAt w b (o + kc) (Lib.uvarint data.length ++ data) := by
    have := hr1.drop kc
    rwa [← hkc, List.drop_left, hkc] at this
  have hm31 : m < 2147483648 := by rw [← hm]; exact h.len_lt
  have C1 := Lib.hid (mhuvarint_any b o n c code kc (Lib.uvarint data.length ++ data) w hkc hc1 h.code_lt (by rw [List.length_append, hkm, hm]; exact hlen) hnc hc hr1)
  have C2 := Lib.hid fun q => mhuvarint_any b (o + kc) (n - kc) (c - kc) m km data (w.drewN q) (by rw [← hm]; exact hkm) hm1 (lt35 hm31) (by omega) (by omega) (by omega) (by rw [← hm]; exact hr2)
  rw [hm]
  have e1 : ((n - kc - km : Nat) : Int) = m := by omega
  have hn2 : 2 ≤ n := by omega
  have hkcc : kc < c := by omega
  clear hr hr1 hr2 hn h hkc hkm hm
  go_enter Tryz.func112, Tryz.ntmps112
  go_wp2_with fail
  refine C1.out.mono ?_
  rintro e w' ⟨o1, q1, rfl, ho1, rfl⟩
  obtain rfl := ho1 hkcc
  go_wp2_with fail
  refine (C2.out q1).mono ?_
  rintro e w' ⟨o2, q2, rfl, ho2, rfl⟩
  go_wp2_with fail
  have h1 : (m : Int) ≤ ((c - kc - km : Nat) : Int) := by omega
  go_quiet (fail)
  go_wp2_with fail
  refine bodyPost_ret (results_tmp4 rfl _ _ _) rfl ?_
  exact ⟨o2, _, _, rfl, World.drewN_drewN _ _ _⟩

/-- gomultihash.decode: the parts of a multihash as a struct; no error. -/
def DeEnds (code m : Nat) (w : World) (e : Ending) (w' : World) : Prop :=
  ∃ a c', e = .returned (.tuple #[.agg #[.int .u64 code, .string ⟨#[]⟩, .int .i64 m, .slice (some a) m c'], .nilIface]) ∧ Below w.heap.size w w'

set_option maxHeartbeats 2000000 in
set_option maxRecDepth 100000 in
theorem mhdecode_any (b o n c code : Nat) (l data : List UInt8) (w : World) (h : IsMh l code data) (hn : l.length = n) (hnc : n ≤ c) (hc : c ≤ 9223372036854775807) (hb : b < w.heap.size) (hr : RdAt w b o l) :
    Calls Tryz.prog 113 #[.slice (some ⟨b, o, none⟩) n c] w (DeEnds code data.length w) := by
  obtain ⟨m, hm⟩ : ∃ m, data.length = m := ⟨_, rfl⟩
  have C := Lib.hid fun (W : World) (hW : Below w.heap.size w W) => readMh_any b o n c code l data W h hn hnc hc (hr.below hW hb)
  rw [hm]
  have hm31 : m < 2147483648 := by rw [← hm]; exact h.len_lt
  rw [hm] at C
  have ad : ∀ (W : World) (j : Nat) (o : Obj), (W.drewN j).alloc o = (W.alloc o).drewN j := fun _ _ _ => rfl
  have sd : ∀ (W : World) (j : Nat) (x : Addr) (v : Value), (W.drewN j).setCell x v = (W.setCell x v).drewN j := fun _ _ _ _ => rfl
  clear hr h hn hm
  go_enter Tryz.func113, Tryz.ntmps113
  go_wp2_with fail
  refine (C.out _ ((Below.refl _ _).alloc (Nat.le_refl _) _)).mono ?_
  rintro e w' ⟨o1, c1, q1, rfl, rfl⟩
  go_wp2_with fail
  refine bodyPost_ret (v := .tuple #[.agg #[.int .u64 code, .string ⟨#[]⟩, .int .i64 m, .slice (some ⟨b, o1, none⟩) m c1], .nilIface]) ?_ rfl ?_
  · simp only [results, Tryz.results113]
    go_simp
  · exact ⟨_, _, rfl, below_drewN ((Below.refl _ _).alloc (Nat.le_refl _) _) _⟩

/-- gomultihash.Decode: a pointer to the parts, no error. -/
def DpEnds (w : World) (e : Ending) (w' : World) : Prop := ∃ p, e = .returned (.tuple #[.pointer (some p), .nilIface]) ∧ Below w.heap.size w w'

set_option maxHeartbeats 2000000 in
set_option maxRecDepth 100000 in
theorem mhDecode_any (b o n c code : Nat) (l data : List UInt8) (w : World) (h : IsMh l code data) (hn : l.length = n) (hnc : n ≤ c) (hc : c ≤ 9223372036854775807) (hb : b < w.heap.size) (hr : RdAt w b o l) :
    Calls Tryz.prog 67 #[.slice (some ⟨b, o, none⟩) n c] w (DpEnds w) := by
  have C := Lib.hid (mhdecode_any b o n c code l data w h hn hnc hc hb hr)
  have ad : ∀ (W : World) (j : Nat) (o : Obj), (W.drewN j).alloc o = (W.alloc o).drewN j := fun _ _ _ => rfl
  have sd : ∀ (W : World) (j : Nat) (x : Addr) (v : Value), (W.drewN j).setCell x v = (W.setCell x v).drewN j := fun _ _ _ _ => rfl
  clear hr h hn
  go_enter Tryz.func67, Tryz.ntmps67
  go_wp2_with fail
  refine C.out.mono ?_
  rintro e w1 ⟨a, c1, rfl, hb1⟩
  go_wp2_with fail
  go_ret2
  exact ⟨_, rfl, hb1.alloc hb1.size _⟩

/-- gomultihash.Cast: the bytes themselves, no error. -/
def CaEnds (v : Value) (w : World) (e : Ending) (w' : World) : Prop := e = .returned (.tuple #[v, .nilIface]) ∧ Below w.heap.size w w'

set_option maxHeartbeats 2000000 in
set_option maxRecDepth 100000 in
theorem mhCast_any (b o n c code : Nat) (l data : List UInt8) (w : World) (h : IsMh l code data) (hn : l.length = n) (hnc : n ≤ c) (hc : c ≤ 9223372036854775807) (hb : b < w.heap.size) (hr : RdAt w b o l) :
    Calls Tryz.prog 48 #[.slice (some ⟨b, o, none⟩) n c] w (CaEnds (.slice (some ⟨b, o, none⟩) n c) w) := by
  have C := Lib.hid (mhDecode_any b o n c code l data w h hn hnc hc hb hr)
  clear hr h hn
  go_enter Tryz.func48, Tryz.ntmps48
  go_wp2_with fail
  refine C.out.mono ?_
  rintro e w1 ⟨p, rfl, hb1⟩
  go_wp2_with fail
  go_ret2
  exact ⟨rfl, hb1⟩

/-- gomultihash.MHFromBytes: how many bytes, the bytes themselves, no error. -/
def MfEnds (v : Value) (n : Nat) (w : World) (e : Ending) (w' : World) : Prop := ∃ q, e = .returned (.tuple #[.int .i64 n, v, .nilIface]) ∧ w' = w.drewN q

set_option maxHeartbeats 2000000 in
set_option maxRecDepth 100000 in
theorem MHFromBytes_any (b o n c code : Nat) (l data : List UInt8) (w : World) (h : IsMh l code data) (hn : l.length = n) (hnc : n ≤ c) (hc : c ≤ 9223372036854775807) (hr : RdAt w b o l) :
    Calls Tryz.prog 65 #[.slice (some ⟨b, o, none⟩) n c] w (MfEnds (.slice (some ⟨b, o, none⟩) n c) n w) := by
  have C := Lib.hid (readMh_any b o n c code l data w h hn hnc hc hr)
  clear hr h hn
  go_enter Tryz.func65, Tryz.ntmps65
  go_wp2_with fail
  refine C.out.mono ?_
  rintro e w1 ⟨o1, c1, q1, rfl, rfl⟩
  go_wp2_with fail
  have h1 : (n : Int) ≤ (c : Int) := by omega
  go_quiet (fail)
  go_wp2_with fail
  go_ret3
  exact ⟨_, rfl, World.drewN_drewN _ _ _⟩

end Go.Proofs.YtilngifollpoeaaGreatFmt

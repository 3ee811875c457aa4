/- IDs written and read: MarshalBinary, MarshalText and back; impl.PeerBinary, PeerOfBinary, PeerLetters, PeerOfLetters. -/
import Derived.Test.YtilngifollpoeaaGreatFmtB58y
import Derived.BigQuiet
namespace Go.Proofs.YtilngifollpoeaaGreatFmt
open Go.RowKit

set_option maxHeartbeats 2000000 in
set_option maxRecDepth 100000 in
theorem Marshal_any (l : List UInt8) (w : World) (hl : l.length ≤ 1000000) :
    Calls Tryz.prog 50 #[.string (str l)] w (NewBE l w) := by
  obtain ⟨v, W, hk, hv, hbW⟩ := conv_id l (by omega) w
  generalize str l = s at hk ⊢
  go_enter Tryz.func50, Tryz.ntmps50
  go_wp2_with fail
  go_ret2
  exact ⟨v, rfl, hv, hbW⟩

set_option maxHeartbeats 2000000 in
set_option maxRecDepth 100000 in
theorem MarshalBinary_any (l : List UInt8) (w : World) (hl : l.length ≤ 1000000) :
    Calls Tryz.prog 30 #[.string (str l)] w (NewBE l w) := by
  have C := Lib.hid (Marshal_any l w hl)
  generalize str l = s at C ⊢
  go_enter Tryz.func30, Tryz.ntmps30
  go_wp2_with fail
  refine C.out.mono ?_
  rintro e w1 ⟨v, rfl, hv, hb⟩
  clear C
  go_wp2_with fail
  go_ret2
  exact ⟨v, rfl, hv, hb⟩

set_option maxHeartbeats 2000000 in
set_option maxRecDepth 100000 in
theorem PeerBinary_any (v : Value) (l : List UInt8) (w : World) (hr : Rd w w.heap.size v l) (hl : l.length ≤ 1000000) :
    Calls Tryz.prog 12 #[v] w (NewBT l w) := by
  have C := Lib.hid fun W => MarshalBinary_any l W hl
  obtain ⟨b, o, c, rfl, hb, hlc, hcm, hat⟩ := hr
  have K := conv_rd (P := Tryz.prog) w Tryz.underlying22 Tryz.underlying5 Tryz.underlying40 rfl hat (c := c)
  generalize str l = s at C K
  clear hat
  go_enter Tryz.func12, Tryz.ntmps12
  go_wp2_with fail
  refine (C.out _).mono ?_
  rintro e w1 ⟨v, rfl, hv, hb⟩
  clear C
  go_wp2_with fail
  go_region
  all_goals go_wp2
  all_goals go_ret2
  all_goals exact ⟨v, rfl, hv, below_drewN hb 1⟩

set_option maxHeartbeats 2000000 in
set_option maxRecDepth 100000 in
theorem MarshalText_any (K : Nat) (l : List UInt8) (w : World) (hK : Can 58 K (bnum l)) (hKl : K ≤ 3000000) (hl : l.length ≤ 1000000) :
    Calls Tryz.prog 32 #[.string (str l)] w (NewBE (t58 K l) w) := by
  have C := Lib.hid (IDString_any K l w hK (by omega))
  have KC := Lib.hid fun (W : World) => Lib.run_convert_string_bytes (P := Tryz.prog) W 9 22 5 (str (t58 K l)) Tryz.underlying9 Tryz.underlying22 Tryz.underlying5
  have R := Lib.hid fun (W : World) => bytesWorld_rd W 5 (str (t58 K l)) (l := t58 K l) rfl (by rw [t58_len]; have := lz_le l; unfold maxLen; omega)
  unfold TxEnds at C
  generalize str l = s at C ⊢
  generalize str (t58 K l) = tx at C KC R
  clear hK
  go_enter Tryz.func32, Tryz.ntmps32
  go_wp2_with fail
  refine C.out.mono ?_
  rintro e w1 ⟨rfl, hb⟩
  have kc := KC.out w1
  have hv := Lib.hid (R.out w1)
  clear C KC R
  go_wp2_with fail
  go_ret2
  exact ⟨_, rfl, hv.out, Below.then_ hb (bytesWorld_below w1 _ _)⟩

set_option maxHeartbeats 2000000 in
set_option maxRecDepth 100000 in
theorem PeerLetters_any (v : Value) (K : Nat) (l : List UInt8) (w : World) (hr : Rd w w.heap.size v l) (hK : Can 58 K (bnum l)) (hKl : K ≤ 3000000) (hl : l.length ≤ 1000000) :
    Calls Tryz.prog 14 #[v] w (NewBT (t58 K l) w) := by
  have C := Lib.hid fun W => MarshalText_any K l W hK hKl hl
  obtain ⟨b, o, c, rfl, hb, hlc, hcm, hat⟩ := hr
  have KC := conv_rd (P := Tryz.prog) w Tryz.underlying22 Tryz.underlying5 Tryz.underlying40 rfl hat (c := c)
  generalize str l = s at C KC
  clear hat hK
  go_enter Tryz.func14, Tryz.ntmps14
  go_wp2_with fail
  refine (C.out _).mono ?_
  rintro e w1 ⟨v, rfl, hv, hb⟩
  clear C
  go_wp2_with fail
  go_region
  all_goals go_wp2
  all_goals go_ret2
  all_goals exact ⟨v, rfl, hv, below_drewN hb 1⟩

/-- The ID is stored at the pointer, no error. -/
def StEnds (b : Nat) (l : List UInt8) (w : World) (e : Ending) (w' : World) : Prop := e = .returned .nilIface ∧ w'.cell? ⟨b, 0, none⟩ = some (.string (str l)) ∧ w'.frozen? ⟨b, 0, none⟩ = false ∧ Below b w w'

set_option maxHeartbeats 2000000 in
set_option maxRecDepth 100000 in
theorem Unmarshal_any (b code : Nat) (v s0 : Value) (l data : List UInt8) (w : World) (h : IsMh l code data) (hr : Rd w w.heap.size v l) (hc : w.cell? ⟨b, 0, none⟩ = some s0) (hf : w.frozen? ⟨b, 0, none⟩ = false) (hb : b < w.heap.size) :
    Calls Tryz.prog 51 #[.pointer (some ⟨b, 0, none⟩), v] w (StEnds b l w) := by
  have C := Lib.hid (IDFromBytes_any v code l data w h hr)
  unfold IdEnds at C
  unfold StEnds
  generalize str l = s at C ⊢
  obtain ⟨b1, o1, c1, rfl, _⟩ := hr
  clear h
  go_enter Tryz.func51, Tryz.ntmps51
  go_wp2_with fail
  refine C.out.mono ?_
  rintro e w1 ⟨rfl, hb1⟩
  have c1 : w1.cell? ⟨b, 0, none⟩ = some s0 := (hb1.cell (p := ⟨b, 0, none⟩) hb).trans hc
  have f1 : w1.frozen? ⟨b, 0, none⟩ = false := (hb1.frozen (p := ⟨b, 0, none⟩) hb).trans hf
  clear C hc hf
  go_wp2_with fail
  go_ret
  exact ⟨rfl, World.cell?_setCell_same _ _ _ c1, by rw [World.frozen?_setCell]; exact f1, (hb1.mono (B' := b) (by omega)).setCell (p := ⟨b, 0, none⟩) (Nat.le_refl _) _⟩

set_option maxHeartbeats 2000000 in
set_option maxRecDepth 100000 in
theorem UnmarshalBinary_any (b code : Nat) (v s0 : Value) (l data : List UInt8) (w : World) (h : IsMh l code data) (hr : Rd w w.heap.size v l) (hc : w.cell? ⟨b, 0, none⟩ = some s0) (hf : w.frozen? ⟨b, 0, none⟩ = false) (hb : b < w.heap.size) :
    Calls Tryz.prog 31 #[.pointer (some ⟨b, 0, none⟩), v] w (StEnds b l w) := by
  have C := Lib.hid (Unmarshal_any b code v s0 l data w h hr hc hf hb)
  unfold StEnds at C ⊢
  generalize str l = s at C ⊢
  obtain ⟨b1, o1, c1, rfl, _⟩ := hr
  clear h hc hf
  go_enter Tryz.func31, Tryz.ntmps31
  go_wp2_with fail
  refine C.out.mono ?_
  rintro e w1 ⟨rfl, h1, h2, h3⟩
  have H1 := Lib.hid h1
  clear C h1
  go_wp2_with fail
  go_ret
  exact ⟨rfl, H1.out, h2, h3⟩

set_option maxHeartbeats 2000000 in
set_option maxRecDepth 100000 in
theorem UnmarshalText_any (b K code : Nat) (v s0 : Value) (l data : List UInt8) (w : World) (h : IsMh l code data) (hr : Rd w w.heap.size v (t58 K l)) (hK : Can 58 K (bnum l)) (hN0 : 0 < bnum l) (hl : l.length ≤ 1000000)
    (hp : Lib.hasPrefix (t58 K l) [81, 109] = true ∨ Lib.hasPrefix (t58 K l) [49] = true) (hc : w.cell? ⟨b, 0, none⟩ = some s0) (hf : w.frozen? ⟨b, 0, none⟩ = false) (hb : b < w.heap.size) :
    Calls Tryz.prog 33 #[.pointer (some ⟨b, 0, none⟩), v] w (StEnds b l w) := by
  have C := Lib.hid fun W => peerDecode58_any (str (t58 K l)) K code l data W h rfl hK hN0 hl hp
  unfold FcEnds at C
  unfold StEnds
  obtain ⟨b1, o1, c1, rfl, _, _, _, hat⟩ := hr
  have kc := conv_rd (P := Tryz.prog) w Tryz.underlying22 Tryz.underlying5 Tryz.underlying9 rfl hat (c := c1)
  generalize str (t58 K l) = tx at C kc
  generalize str l = s at C ⊢
  clear h hK hp hat
  go_enter Tryz.func33, Tryz.ntmps33
  go_wp2_with fail
  refine (C.out _).mono ?_
  rintro e w1 ⟨rfl, hb1⟩
  have c1 : w1.cell? ⟨b, 0, none⟩ = some s0 := (hb1.cell (p := ⟨b, 0, none⟩) hb).trans hc
  have f1 : w1.frozen? ⟨b, 0, none⟩ = false := (hb1.frozen (p := ⟨b, 0, none⟩) hb).trans hf
  clear C hc hf kc
  go_wp2_with fail
  go_ret
  exact ⟨rfl, World.cell?_setCell_same _ _ _ c1, by rw [World.frozen?_setCell]; exact f1, (hb1.mono (B' := b) (by omega)).setCell (p := ⟨b, 0, none⟩) (Nat.le_refl _) _⟩

set_option maxHeartbeats 2000000 in
set_option maxRecDepth 100000 in
theorem PeerOfBinary_any (v : Value) (code : Nat) (l data : List UInt8) (w : World) (h : IsMh l code data) (hr : Rd w w.heap.size v l) (hl : l.length ≤ 1000000) :
    Calls Tryz.prog 13 #[v] w (NewBT l w) := by
  have A0 : Below w.heap.size w (w.alloc (.cells #[.string ⟨#[]⟩] 40)) := (Below.refl _ _).alloc (Nat.le_refl _) _
  have C1 := Lib.hid (Clone_any v l _ (hr.on A0) (by omega))
  have C2 := Lib.hid fun (W : World) (b : Nat) (s0 v : Value) (hv : Rd W W.heap.size v l) (hc : W.cell? ⟨b, 0, none⟩ = some s0) (hf : W.frozen? ⟨b, 0, none⟩ = false) (hb : b < W.heap.size) => UnmarshalBinary_any b code v s0 l data W h hv hc hf hb
  have K := Lib.hid fun (W : World) => conv_id l (by omega) W
  unfold StEnds at C2
  generalize str l = s at C2 K
  obtain ⟨b1, o1, c1, rfl, _⟩ := hr
  clear h
  go_enter Tryz.func13, Tryz.ntmps13
  go_wp2_with fail
  refine C1.out.mono ?_
  rintro e w1 ⟨v1, rfl, hv1, hb1⟩
  obtain ⟨hc1, hf1⟩ := bcell hb1
  have cz := (hc1 w.heap.size 0 (by simp)).trans ((Blk.new w 40 #[.string ⟨#[]⟩]).cell 0)
  have fz := (hf1 w.heap.size 0 (by simp)).trans ((Blk.new w 40 #[.string ⟨#[]⟩]).frozen 0)
  have z1 : w.heap.size < w1.heap.size := by have := hb1.size; simp at this; omega
  have C := Lib.hid (C2.out w1 w.heap.size _ v1 hv1 cz fz z1)
  clear C1 C2 hv1 cz fz hc1 hf1
  go_wp2_with fail
  refine C.out.mono ?_
  rintro e w2 ⟨rfl, hc2, hf2, hb2⟩
  obtain ⟨v2, W2, hk, hv2, hb3⟩ := K.out w2
  clear C K
  go_wp2_with fail
  go_ret2
  exact ⟨v2, rfl, hv2, (Below.then_ A0 hb1).trans (hb2.trans (hb3.mono (by have := hb2.size; omega)))⟩
set_option maxHeartbeats 2000000 in
set_option maxRecDepth 100000 in
theorem PeerOfLetters_any (v : Value) (K code : Nat) (l data : List UInt8) (w : World) (h : IsMh l code data) (hr : Rd w w.heap.size v (t58 K l)) (hK : Can 58 K (bnum l)) (hN0 : 0 < bnum l) (hKl : K ≤ 3000000) (hl : l.length ≤ 1000000)
    (hp : Lib.hasPrefix (t58 K l) [81, 109] = true ∨ Lib.hasPrefix (t58 K l) [49] = true) :
    Calls Tryz.prog 15 #[v] w (NewBT l w) := by
  have A0 : Below w.heap.size w (w.alloc (.cells #[.string ⟨#[]⟩] 40)) := (Below.refl _ _).alloc (Nat.le_refl _) _
  have C1 := Lib.hid (Clone_any v (t58 K l) _ (hr.on A0) (by rw [t58_len]; have := lz_le l; omega))
  have C2 := Lib.hid fun (W : World) (b : Nat) (s0 v : Value) (hv : Rd W W.heap.size v (t58 K l)) (hc : W.cell? ⟨b, 0, none⟩ = some s0) (hf : W.frozen? ⟨b, 0, none⟩ = false) (hb : b < W.heap.size) => UnmarshalText_any b K code v s0 l data W h hv hK hN0 hl hp hc hf hb
  have K := Lib.hid fun (W : World) => conv_id l (by omega) W
  unfold StEnds at C2
  generalize str l = s at C2 K
  obtain ⟨b1, o1, c1, rfl, _⟩ := hr
  clear h hK hp
  go_enter Tryz.func15, Tryz.ntmps15
  go_wp2_with fail
  refine C1.out.mono ?_
  rintro e w1 ⟨v1, rfl, hv1, hb1⟩
  obtain ⟨hc1, hf1⟩ := bcell hb1
  have cz := (hc1 w.heap.size 0 (by simp)).trans ((Blk.new w 40 #[.string ⟨#[]⟩]).cell 0)
  have fz := (hf1 w.heap.size 0 (by simp)).trans ((Blk.new w 40 #[.string ⟨#[]⟩]).frozen 0)
  have z1 : w.heap.size < w1.heap.size := by have := hb1.size; simp at this; omega
  have C := Lib.hid (C2.out w1 w.heap.size _ v1 hv1 cz fz z1)
  clear C1 C2 hv1 cz fz hc1 hf1
  go_wp2_with fail
  refine C.out.mono ?_
  rintro e w2 ⟨rfl, hc2, hf2, hb2⟩
  obtain ⟨v2, W2, hk, hv2, hb3⟩ := K.out w2
  clear C K
  go_wp2_with fail
  go_ret2
  exact ⟨v2, rfl, hv2, (Below.then_ A0 hb1).trans (hb2.trans (hb3.mono (by have := hb2.size; omega)))⟩
end Go.Proofs.YtilngifollpoeaaGreatFmt

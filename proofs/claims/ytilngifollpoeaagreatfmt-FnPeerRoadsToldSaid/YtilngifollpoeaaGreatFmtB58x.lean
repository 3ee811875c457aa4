/- base58 of an ID: FastBase58Encoding, Encode, ID.String, impl.PeerText. -/
import Derived.Test.YtilngifollpoeaaGreatFmtB58e
import Derived.Test.YtilngifollpoeaaGreatFmtPeer1
namespace Go.Proofs.YtilngifollpoeaaGreatFmt
open Go.RowKit

/-- The base58 text of bytes; K digits stand behind the zeros. -/
def t58 (K : Nat) (l : List UInt8) : List UInt8 := List.replicate (lz l) 49 ++ (fw 58 K (bnum l)).map fun d => btcA.getD d 0

theorem t58_len (K : Nat) (l : List UInt8) : (t58 K l).length = lz l + K := by
  unfold t58
  rw [List.length_append, List.length_replicate, List.length_map, fw_len]

/-- A text, as a string. -/
def TxEnds (t : List UInt8) (w : World) (e : Ending) (w' : World) : Prop := e = .returned (.string (str t)) ∧ Below w.heap.size w w'

set_option maxHeartbeats 2000000 in
set_option maxRecDepth 100000 in
theorem FastEnc_any (v : Value) (K : Nat) (l : List UInt8) (w : World) (hK : Can 58 K (bnum l)) (hr : Rd w w.heap.size v l) (hl : l.length ≤ 1099511627776) :
    Calls Tryz.prog 63 #[v] w (TxEnds (t58 K l) w) := by
  obtain ⟨b, o, c, rfl, hb, hlc, hcm, hat⟩ := hr
  have C1 := Lib.hid (BTCAlphabet_any w)
  have C2 := Lib.hid fun (W : World) (g : Nat) (hW : Below w.heap.size w W) (hg : Blk W g 192 (alphC (decT btcA 58) (fun j => (btcA.getD j 0).toNat))) => Fast58_any l K g b o l.length c W hK hg (hat.below hW hb) rfl (by have := hW.size; omega) hlc hl
  obtain ⟨tx, htx⟩ : ∃ tx, tx = str (t58 K l) := ⟨_, rfl⟩
  have e : str (List.replicate (lz l) 49 ++ (fw 58 K (bnum l)).map fun d => btcA.getD d 0) = tx := by rw [htx]; rfl
  rw [e] at C2
  unfold TxEnds
  rw [← htx]
  clear hat hK e htx
  go_enter Tryz.func63, Tryz.ntmps63
  go_wp2_with fail
  refine C1.out.mono ?_
  rintro e w1 ⟨rfl, hblk, hb1⟩
  go_wp2_with fail
  refine (C2.out _ _ hb1 hblk).mono ?_
  rintro e w2 ⟨rfl, hb2⟩
  clear C1 C2
  go_wp2_with fail
  go_ret
  exact ⟨rfl, Below.then_ hb1 hb2⟩

set_option maxHeartbeats 2000000 in
set_option maxRecDepth 100000 in
theorem Enc58_any (v : Value) (K : Nat) (l : List UInt8) (w : World) (hK : Can 58 K (bnum l)) (hr : Rd w w.heap.size v l) (hl : l.length ≤ 1099511627776) :
    Calls Tryz.prog 44 #[v] w (TxEnds (t58 K l) w) := by
  have C1 := Lib.hid (FastEnc_any v K l w hK hr hl)
  unfold TxEnds at C1 ⊢
  generalize str (t58 K l) = tx at C1 ⊢
  obtain ⟨b, o, c, rfl, hb, hlc, hcm, hat⟩ := hr
  clear hat hK
  go_enter Tryz.func44, Tryz.ntmps44
  go_wp2_with fail
  refine C1.out.mono ?_
  rintro e w1 ⟨rfl, hb1⟩
  clear C1
  go_wp2_with fail
  go_ret
  exact ⟨rfl, hb1⟩

set_option maxHeartbeats 2000000 in
set_option maxRecDepth 100000 in
theorem IDString_any (K : Nat) (l : List UInt8) (w : World) (hK : Can 58 K (bnum l)) (hl : l.length ≤ 1099511627776) :
    Calls Tryz.prog 24 #[.string (str l)] w (TxEnds (t58 K l) w) := by
  obtain ⟨v, W, hk, hv, hbW⟩ := conv_id l hl w
  have C1 := Lib.hid (Enc58_any v K l W hK hv hl)
  unfold TxEnds at C1 ⊢
  generalize str (t58 K l) = tx at C1 ⊢
  generalize str l = s at hk ⊢
  clear hK hv
  go_enter Tryz.func24, Tryz.ntmps24
  go_wp2_with fail
  refine C1.out.mono ?_
  rintro e w1 ⟨rfl, hb1⟩
  clear C1
  go_wp2_with fail
  go_ret
  exact ⟨rfl, Below.then_ hbW hb1⟩

set_option maxHeartbeats 2000000 in
set_option maxRecDepth 100000 in
theorem PeerText_any (v : Value) (K : Nat) (l : List UInt8) (w : World) (hK : Can 58 K (bnum l)) (hr : Rd w w.heap.size v l) (hl : l.length ≤ 1099511627776) :
    Calls Tryz.prog 9 #[v] w (TxEnds (t58 K l) w) := by
  have C1 := Lib.hid fun W => IDString_any K l W hK hl
  unfold TxEnds at C1 ⊢
  generalize str (t58 K l) = tx at C1 ⊢
  obtain ⟨b, o, c, rfl, hb, hlc, hcm, hat⟩ := hr
  have k := conv_rd (P := Tryz.prog) w Tryz.underlying22 Tryz.underlying5 Tryz.underlying40 rfl hat (c := c)
  generalize str l = s at C1 k
  clear hat hK
  go_enter Tryz.func9, Tryz.ntmps9
  go_wp2_with fail
  refine (C1.out _).mono ?_
  rintro e w1 ⟨rfl, hb1⟩
  clear C1
  go_wp2_with fail
  go_ret
  exact ⟨rfl, hb1⟩
end Go.Proofs.YtilngifollpoeaaGreatFmt

/- laws.peersLive: the small ID. -/
import Derived.Test.YtilngifollpoeaaGreatFmtSc
import Derived.Test.YtilngifollpoeaaGreatFmtEq
namespace Go.Proofs.YtilngifollpoeaaGreatFmt
open Go.RowKit

/-- Three bytes laid into a block of their own. -/
theorem lit3_rd (W : World) (b : Nat) (hb : b = W.heap.size) (l : List UInt8) (hl : l = [0, 1, 7]) : Rd (W.alloc (.cells #[.int .u8 0, .int .u8 1, .int .u8 7] 5)) (W.alloc (.cells #[.int .u8 0, .int .u8 1, .int .u8 7] 5)).heap.size (.slice (some ⟨b, 0, none⟩) 3 3) l := by
  subst hb hl
  refine ⟨W.heap.size, 0, 3, rfl, by simp, by simp, by unfold maxLen; omega, (Blk.new W _ _).rd 0 [0, 1, 7] (fun j x hx => ?_)⟩
  match j with
  | 0 => cases hx; rfl
  | 1 => cases hx; rfl
  | 2 => cases hx; rfl
  | j + 3 => simp at hx

theorem lit3_mh : IsMh [0, 1, 7] 0 [7] := by
  refine ⟨by decide, by decide, ?_⟩
  rw [Lib.uvarint_small (by decide), Lib.uvarint_small (by decide)]
  rfl

set_option maxHeartbeats 4000000 in
set_option maxRecDepth 100000 in
theorem peersLive_any (w : World) : Calls Tryz.prog 5 #[] w fun e w' => e = .returned (.bool true) ∧ Below w.heap.size w w' := by
  obtain ⟨l, hl⟩ : ∃ l : List UInt8, l = [0, 1, 7] := ⟨_, rfl⟩
  obtain ⟨K, hK⟩ := Can.exists_ (bnum l)
  have hn : l.length = 3 := by rw [hl]; rfl
  have C1 := Lib.hid fun (W : World) (b : Nat) (hb : b = W.heap.size) => PeerOf_any _ 0 l [7] _ (by rw [hl]; exact lit3_mh) (lit3_rd W b hb l hl) (by omega)
  have C2 := Lib.hid fun (W : World) (b : Nat) (v : Value) (hb : b = W.heap.size) (h : Rd W W.heap.size v l) => Equal_any v _ l _ (h.on ((Below.refl _ _).alloc (Nat.le_refl _) (.cells #[.int .u8 0, .int .u8 1, .int .u8 7] 5))) (lit3_rd W b hb l hl)
  have C3 := Lib.hid fun (W : World) (b : Nat) (hb : b = W.heap.size) => PeerText_any _ K l _ hK (lit3_rd W b hb l hl) (by omega)
  have C4 := Lib.hid fun (W : World) (b : Nat) (hb : b = W.heap.size) => PeerBase58_any _ K l _ hK (lit3_rd W b hb l hl) (by omega)
  have AB := Lib.hid fun (W : World) => (Below.refl W.heap.size W).alloc (Nat.le_refl _) (.cells #[.int .u8 0, .int .u8 1, .int .u8 7] 5)
  unfold TxEnds at C3 C4
  generalize str (t58 K l) = tx at C3 C4
  clear hK hn hl
  go_enter Tryz.func5, Tryz.ntmps5
  go_wp2_with fail
  refine (C1.out _ _ (by simp)).mono ?_
  rintro e w1 ⟨v1, rfl, hv1, hb1⟩
  go_wp2_with fail
  refine (C2.out _ _ _ (by simp) hv1).mono ?_
  rintro e w2 ⟨rfl, hw2⟩
  subst w2
  go_wp2_with fail
  refine (C3.out _ _ (by simp)).mono ?_
  rintro e w3 ⟨rfl, hb3⟩
  go_wp2_with fail
  refine (C4.out _ _ (by simp)).mono ?_
  rintro e w4 ⟨rfl, hb4⟩
  go_wp2_with fail
  go_ret
  exact ⟨rfl, Below.then_ (AB.out w) (Below.then_ hb1 (Below.then_ (AB.out w1) (Below.then_ (AB.out _) (Below.then_ hb3 (Below.then_ (AB.out w3) hb4)))))⟩
end Go.Proofs.YtilngifollpoeaaGreatFmt

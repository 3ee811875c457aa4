/- base32: decodeInPlace, DecodeString. -/
import Derived.Test.YtilngifollpoeaaGreatFmtB32d
import Derived.Test.YtilngifollpoeaaGreatFmtB32x
namespace Go.Proofs.YtilngifollpoeaaGreatFmt
open Go.RowKit

set_option maxHeartbeats 4000000 in
set_option maxRecDepth 100000 in
theorem decodeInPlace_any (s : ByteArray) (a l : List UInt8) (f : Nat → Int) (g D m c L : Nat) (w : World) (ha : a.length = 32)
    (hg : Blk w g 203 (encC s f (-1))) (hgD : g < D) (hDw : D < w.heap.size) (hL : l.length = L) (hL1 : L ≤ 1099511627776)
    (hD : Row w D m (elF a l)) (hm : m = (L * 8 + 4) / 5) (hmc : m ≤ c)
    (hf : ∀ q, q < 32 → (a.getD q 0).toNat < 128 ∧ f (a.getD q 0).toNat = q) (hn : ∀ q, (a.getD q 0).toNat ≠ 10 ∧ (a.getD q 0).toNat ≠ 13) :
    Calls Tryz.prog 145 #[.pointer (some ⟨g, 0, none⟩), .slice (some ⟨D, 0, none⟩) m c] w fun e w' => e = .returned (.tuple #[.int .i64 L, .nilIface]) ∧ Row w' D m (outF a l L) ∧ Below D w w' := by
  have C := Lib.hid fun (W : World) (hW : Below D w W) (hR : Row W D m (elF a l)) => decode_any s a l f g D m c L W ha (hg.below hW hgD) hgD (by have := hW.size; omega) hL hL1 hR hm hmc hf
  have HN := Lib.hid hn
  have HD := Lib.hid hD
  have hm1 : m ≤ 2199023255552 := by omega
  clear hg hD hf hn hm
  go_enter Tryz.func145, Tryz.ntmps145
  go_wp2_with fail
  go_loopw [6, 11] (fun vo vi wr => ∃ k : Nat, k ≤ m ∧ vo = .int .i64 k ∧ vi = .int .i64 k ∧ Hid (Row wr D m (elF a l)) ∧ Hid (Below D w wr)) (fun _ vi _ => m - (intOf vi).toNat)
  case atStart => exact ⟨0, by omega, rfl, rfl, HD, Below.refl _ _⟩
  case round =>
    obtain ⟨k, hk, rfl, rfl, hrow, hbel⟩ := hrel
    by_cases hkm : k < m
    · obtain ⟨y, hy⟩ : ∃ y, y = elF a l k := ⟨_, rfl⟩
      have hyn : y ≠ 10 ∧ y ≠ 13 := by rw [hy]; exact HN.out _
      have c0 := hrow.out.cell hkm
      have f0 := hrow.out.frozen hkm
      rw [← hy] at c0
      have hset := hrow.out.set_ hkm y
      have HS := Lib.hid (hset.ext (G := elF a l) (fun i _ => by
        unfold updF
        by_cases e : i = k
        · rw [if_pos e, e, hy]
        · rw [if_neg e]))
      have HB := Lib.hid (hbel.out.setCell (p := ⟨D, k, none⟩) (Nat.le_refl _) (.int .u8 (y : Int)))
      have h10 : ((y : Int) == 10) = false := by rw [beq_eq_false_iff_ne]; omega
      have h13 : ((y : Int) == 13) = false := by rw [beq_eq_false_iff_ne]; omega
      clear hset hy hyn hrow hbel
      go_wp2
      go_roundw
      case rel => exact ⟨k + 1, by omega, by go_num, by go_num, HS, HB⟩
      case measure => simp [intOf]; omega
    · have hkm2 : k = m := by omega
      subst hkm2
      have C2 := Lib.hid (C.out _ hbel.out hrow.out)
      have hkk : (k : Int) ≤ c := by omega
      clear C hrow
      go_wp2_with fail
      refine C2.out.mono ?_
      rintro e w2 ⟨rfl, hrow, hb2⟩
      go_wp2_with fail
      go_ret2
      exact ⟨rfl, hrow, hbel.out.trans hb2⟩

/-- A new slice of bytes and no error. -/
def NewBE (l : List UInt8) (w : World) (e : Ending) (w' : World) : Prop := ∃ v, e = .returned (.tuple #[v, .nilIface]) ∧ Rd w' w'.heap.size v l ∧ Below w.heap.size w w'

theorem bytesWorld_row (W : World) (e : TypeId) (s : ByteArray) {l : List UInt8} (hs : s.data.toList = l) :
    Row (Lib.bytesWorld W e s) W.heap.size l.length (fun i => (l.getD i 0).toNat) := by
  have hz := size_list hs
  intro i hi
  refine ⟨?_, ?_⟩
  · rw [Lib.bytesWorld_cell W e s i (by omega), hs]
  · have hbs : s.size ≤ (Lib.bytesCells W e s).size := by
      unfold Lib.bytesCells
      rw [Array.size_append, Array.size_map]
      show s.data.size ≤ _
      omega
    simp only [World.frozen?, Lib.bytesWorld_at_new]
    rw [Bool.and_eq_false_iff]
    left
    rw [decide_eq_false_iff_not]
    omega

set_option maxHeartbeats 4000000 in
set_option maxRecDepth 100000 in
theorem DecodeString_any (s tx : ByteArray) (a l : List UInt8) (f : Nat → Int) (g : Nat) (w : World) (ha : a.length = 32) (htx : tx.data.toList = t32 a l)
    (hg : Blk w g 203 (encC s f (-1))) (hL1 : l.length ≤ 1099511627776)
    (hf : ∀ q, q < 32 → (a.getD q 0).toNat < 128 ∧ f (a.getD q 0).toNat = q) (hn : ∀ q, (a.getD q 0).toNat ≠ 10 ∧ (a.getD q 0).toNat ≠ 13) :
    Calls Tryz.prog 103 #[.pointer (some ⟨g, 0, none⟩), .string tx] w (NewBE l w) := by
  have hgl := hg.lt
  have hz := size_list htx
  rw [t32_len] at hz
  have hcap := grownCap_ge w tx.size 0 5
  have hcapm := grownCap_le_maxLen w tx.size 0 5 (by unfold maxLen; omega)
  have hb1 := bytesWorld_below w 5 tx
  have hrow := bytesWorld_row w 5 tx htx
  rw [t32_len, ← hz] at hrow
  have hrow2 : Row (Lib.bytesWorld w 5 tx) w.heap.size tx.size (elF a l) := hrow.ext (fun i hi => by
    have h : (t32 a l)[i]? = some ((t32 a l).getD i 0) := by
      rw [List.getD_eq_getElem?_getD, List.getElem?_eq_getElem (by rw [t32_len]; omega)]
      rfl
    exact (t32_at a l h).symm)
  have C := Lib.hid (decodeInPlace_any s a l f g w.heap.size tx.size (grownCap w tx.size 0 5) l.length (Lib.bytesWorld w 5 tx) ha (hg.below hb1 hgl) hgl (by rw [Lib.bytesWorld_size]; omega) rfl hL1 hrow2 hz hcap hf hn)
  have kc := Lib.run_convert_string_bytes (P := Tryz.prog) w 9 22 5 tx Tryz.underlying9 Tryz.underlying22 Tryz.underlying5
  obtain ⟨L, hL⟩ : ∃ L, l.length = L := ⟨_, rfl⟩
  rw [hL] at C hz hL1
  have hLc : (L : Int) ≤ (grownCap w tx.size 0 5 : Nat) := by omega
  generalize grownCap w tx.size 0 5 = cap at C kc hcap hcapm hLc
  have Hz := Lib.hid hz
  have HL := Lib.hid hL
  clear hg htx hf hn hrow hrow2 hz hL
  go_enter Tryz.func103, Tryz.ntmps103
  go_wp2_with fail
  refine C.out.mono ?_
  rintro e w2 ⟨rfl, hrow, hb2⟩
  clear C kc
  go_wp2_with fail
  go_ret2
  have hz2 := hb2.size
  rw [Lib.bytesWorld_size] at hz2
  refine ⟨.slice (some ⟨w.heap.size, 0, none⟩) L cap, rfl, ⟨w.heap.size, 0, cap, by rw [HL.out], by omega, by rw [HL.out]; omega, hcapm, ?_⟩, hb1.trans hb2⟩
  have h3 := hrow.less (k := L) (by have := Hz.out; omega)
  refine h3.rd (by rw [HL.out]; exact Nat.le_refl _) (fun i x hx => ?_)
  have hi := (List.getElem?_eq_some_iff.1 hx).1
  unfold outF
  rw [if_pos (by rw [← HL.out]; exact hi), List.getD_eq_getElem?_getD, hx]
  rfl

/-- The letters of the small alphabet, read by the table of the great one. -/
theorem small_table : ∀ q, q < 32 → (smallA.getD q 0).toNat < 128 ∧ tabAt greatA 32 (smallA.getD q 0).toNat = q := by decide
theorem small_plain : ∀ q, (smallA.getD q 0).toNat ≠ 10 ∧ (smallA.getD q 0).toNat ≠ 13 := by
  intro q
  by_cases h : q < 32
  · revert q
    decide
  · rw [List.getD_eq_getElem?_getD, List.getElem?_eq_none (by show 32 ≤ q; omega)]
    decide

end Go.Proofs.YtilngifollpoeaaGreatFmt

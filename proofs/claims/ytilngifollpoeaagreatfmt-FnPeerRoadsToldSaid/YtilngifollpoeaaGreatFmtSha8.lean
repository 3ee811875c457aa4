/- SHA-256: Digest.Sum; mh.Sum by SHA2-256. -/
import Derived.Test.YtilngifollpoeaaGreatFmtSha7
import Derived.Test.YtilngifollpoeaaGreatFmtEnc
import Derived.Handy
import Derived.Laws.Externs
import Derived.Deep.WholeRow
namespace Go.Proofs.YtilngifollpoeaaGreatFmt
open Go.RowKit

set_option maxHeartbeats 1000000 in
set_option maxRecDepth 100000 in
theorem RecordApproved_any (w : World) :
    Calls Tryz.prog 244 #[] w fun e w' => e = .returned (.tuple #[]) ∧ w' = w := by
  have h1 : ∀ w, (callFunc 247 #[]).run Tryz.prog w = .ok (.value (.int .u8 0)) w := fun w =>
    run_callFunc_extern (e := fun _ => pure (.int .u8 0)) Tryz.func247 (by kernel_rfl) (by kernel_rfl) (by kernel_rfl) (by kernel_rfl) #[] w
  have h2 : ∀ w, (callFunc 248 #[.int .u8 2]).run Tryz.prog w = .ok (.value (.tuple #[])) w := fun w =>
    run_callFunc_extern (e := Extern.CryptoHooks.nothing) Tryz.func248 (by kernel_rfl) (by kernel_rfl) (by kernel_rfl) (by kernel_rfl) _ w
  go_enter Tryz.func244, Tryz.ntmps244
  go_wp2_with fail
  go_end0
  exact ⟨rfl, rfl⟩

set_option maxHeartbeats 1000000 in
set_option maxRecDepth 100000 in
theorem ShaSize_any (g : Nat) (w : World) (h : w.cell? ⟨g, 74, none⟩ = some (.bool false)) :
    Calls Tryz.prog 241 #[.pointer (some ⟨g, 0, none⟩)] w fun e w' => e = .returned (.int .i64 32) ∧ w' = w := by
  go_enter Tryz.func241, Tryz.ntmps241
  go_wp2_with fail
  go_ret
  exact ⟨rfl, rfl⟩

/-- The bytes of the sum of what a digest was given. -/
def sumL (kf : Nat → Int) (d : Dg) : List UInt8 := bytesF (outF8 (finD kf d).h) 32

theorem cells_bytes {F : Nat → Nat} (hF : ∀ j, F j < 256) (n : Nat) : (cellsF n F).toList = Lib.byteCells (bytesF F n) := by
  apply List.ext_getElem?
  intro i
  rw [Array.getElem?_toList]
  unfold Lib.byteCells bytesF
  by_cases hi : i < n
  · rw [cellsF_at n F hi, List.getElem?_map, List.getElem?_map, List.getElem?_range hi]
    have := hF i
    simp only [Option.map_some]
    rw [show (F i).toUInt8.toNat = F i from by simp [Nat.toUInt8]; omega]
  · rw [Array.getElem?_eq_none (by rw [cellsF_size]; omega), List.getElem?_eq_none (by simp; omega)]

set_option maxHeartbeats 4000000 in
set_option maxRecDepth 100000 in
theorem ShaSum_any (g : Nat) (d : Dg) (kf : Nat → Int) (w : World) (hd : DgAt w g d) (hlen : d.len < 50000) (hnx : d.nx = d.len % 64) (hk : KAt w kf) :
    Calls Tryz.prog 242 #[.pointer (some ⟨g, 0, none⟩), .slice none 0 0] w (NewB (sumL kf d) w) := by
  have C1 := Lib.hid fun W => RecordApproved_any W
  obtain ⟨cd, hcd⟩ : ∃ cd, cd = digC d.h (fun j => ((d.x j).toNat : Int)) d.nx d.len := ⟨_, rfl⟩
  have hblk : Blk w g 212 cd := by rw [hcd]; exact hd
  have hsz : (Tryz.prog.info? 212).map (·.size) = some cd.size := by rw [hcd, digC_size]; kernel_rfl
  have hz : Tryz.zeroCells212.size = cd.size := by rw [hcd, digC_size]; kernel_rfl
  have hall : cd.all (·.oneCell') = true := by
    rw [hcd, Array.all_eq_true]
    intro i hi
    simp only [digC, Array.getElem_ofFn]
    (repeat' split) <;> rfl
  obtain ⟨G, hG⟩ : ∃ G, G = w.heap.size := ⟨_, rfl⟩
  have A1 : Below w.heap.size w (w.alloc (.cells cd 212)) := (Below.refl _ _).alloc (Nat.le_refl _) _
  obtain ⟨W1, hW1⟩ : ∃ W1, W1 = w.alloc (.cells cd 212) := ⟨_, rfl⟩
  have D1 : DgAt W1 G d := by rw [hW1, hG]; unfold DgAt; rw [← hcd]; exact Blk.new w _ _
  rw [← hW1] at A1
  have hGK : G ≠ 25 := by have := hk.lt; omega
  have C2 := Lib.hid (checkSum_any G d kf W1 D1 hlen hnx hGK (hk.on A1))
  obtain ⟨cs, hcs⟩ : ∃ cs, cs = cellsF 32 (outF8 (finD kf d).h) := ⟨_, rfl⟩
  rw [← hcs] at C2
  have hszs : (Tryz.prog.info? 262).map (·.size) = some cs.size := by rw [hcs, cellsF_size]; kernel_rfl
  have HC := Lib.hid hcs
  have HG := Lib.hid hG
  have HW := Lib.hid hW1
  have HA := Lib.hid A1
  clear hd hcd hcs D1 hk hnx hlen A1 hGK
  have BB := Lib.hid fun (W : World) (B : Nat) (hB : B ≤ W.heap.size) => appendOwn B (.slice none 0 0) (.slice (some ⟨W.heap.size, 0, none⟩) 32 32) [] (sumL kf d) (W.alloc (.cells cs 262)) 22 ⟨rfl, .inl ⟨rfl, rfl⟩⟩
    ⟨_, 32, by unfold sumL; rw [bytesF_len], fun _ => .inr ⟨_, rfl⟩, fun _ => ⟨_, rfl, by simp, RdAt.adds (by
      have h1 : Blk (W.alloc (.cells cs 262)) W.heap.size 262 (cellsF 32 (outF8 (finD kf d).h)) := by rw [HC.out]; exact Blk.new W _ _
      exact bytesF_rd h1 (outF8_lt _) (Nat.le_refl _))⟩⟩ (by simp; omega) (by unfold sumL; rw [bytesF_len]; decide)
  have hlenS : (sumL kf d).length = 32 := by unfold sumL; rw [bytesF_len]
  obtain ⟨L, hL⟩ : ∃ L, L = sumL kf d := ⟨_, rfl⟩
  rw [← hL] at BB hlenS ⊢
  clear hL
  go_enter Tryz.func242, Tryz.ntmps242
  go_wp2_with fail
  refine (C1.out _).mono ?_
  rintro e w' ⟨rfl, hw'⟩
  subst w'
  clear C1
  clear hG hW1
  go_wp2_with (first
    | refine wpList_load_row rfl 212 (.tmp 9) rfl g rfl 212 cd (0, 0) _ hblk Tryz.underlying212 rfl hsz ?_
    | (refine wpList_store_row rfl 212 (.tmp 5) (.tmp 10) rfl w.heap.size cd rfl rfl 212 Tryz.zeroCells212 (heap_alloc_new w _) hsz hz hall ?_; rw [World.setRow_alloc_new]))
  rw [← HW.out, ← HG.out]
  refine C2.out.mono ?_
  rintro e w1 ⟨rfl, c74, hb1⟩
  obtain ⟨v', W', hrun, hown, hne, hbb⟩ := BB.out w1 w1.heap.size (Nat.le_refl _)
  have hGl : G < w1.heap.size := by
    have h1 := hb1.size
    rw [HW.out] at h1
    simp at h1
    have := HG.out
    omega
  have A2 : Below w1.heap.size w1 (w1.alloc (.cells cs 262)) := (Below.refl _ _).alloc (Nat.le_refl _) _
  have d74 := (A2.cell (p := ⟨G, 74, none⟩) hGl).trans c74
  have HZ2 : Hid ((32 : Nat) = cs.size) := Lib.hid (by rw [HC.out, cellsF_size])
  have hall2 : cs.all (·.oneCell') = true := by
    rw [HC.out, Array.all_eq_true]
    intro i hi
    simp [cellsF, Value.oneCell']
  have hvne : v' ≠ .slice none 0 0 := fun e => by
    have := (hne e).2
    rw [this] at hlenS
    simp at hlenS
  have HO := Lib.hid (OwnB.rd hown hvne)
  have HBB := Lib.hid (((HA.out.trans (But.below hb1 (Nat.le_of_eq HG.out.symm) HA.out.size)).trans (A2.mono (by have := HA.out.size; have := hb1.size; omega))).trans (hbb.mono (by have := HA.out.size; have := hb1.size; omega)))
  clear hblk hsz hz hall hown hne hbb hb1 C2 BB A2 c74
  go_wp2_with (first
    | (refine wpList_store_row rfl 262 (.tmp 6) (.tmp 11) rfl w1.heap.size cs rfl rfl 262 _ (heap_alloc_new w1 _) hszs HZ2.out hall2 ?_; rw [World.setRow_alloc_new])
    | (at_builtin; refine Lib.wpList_append_run _ rfl _ _ _ _ rfl _ _ rfl rfl _ _ hrun ?_))
  go_ret
  exact ⟨v', rfl, HO.out, HBB.out⟩

set_option maxHeartbeats 2000000 in
set_option maxRecDepth 100000 in
theorem encSha_any (g : Nat) (d : Dg) (kf : Nat → Int) (w : World) (hd : DgAt w g d) (hlen : d.len < 50000) (hnx : d.nx = d.len % 64) (hk : KAt w kf) :
    Calls Tryz.prog 58 #[.iface 175 (.pointer (some ⟨g, 0, none⟩)), .int .u64 18, .int .i64 (-1)] w (NewBE ((18 : Nat).toUInt8 :: (32 : Nat).toUInt8 :: sumL kf d) w) := by
  have hlenS : (sumL kf d).length = 32 := by unfold sumL; rw [bytesF_len]
  have C1 := Lib.hid (ShaSum_any g d kf w hd hlen hnx hk)
  have C2 := Lib.hid fun (W : World) (hb : Below w.heap.size w W) => ShaSize_any g W ((Blk.cell (w := W) (Blk.on hd hb) 74).trans (digC_get _ _ _ _ (by decide)))
  obtain ⟨L, hL⟩ : ∃ L, L = sumL kf d := ⟨_, rfl⟩
  rw [← hL] at C1 hlenS ⊢
  have C3 := Lib.hid fun (v : Value) (W : World) (h : Rd W W.heap.size v L) => mhEncode_any v 18 32 L W (by decide) hlenS (by decide) (by decide) h
  rw [show (((18 : Nat) : Int)) = 18 from rfl] at C3
  obtain ⟨R, hR⟩ : ∃ R, R = (18 : Nat).toUInt8 :: (32 : Nat).toUInt8 :: L := ⟨_, rfl⟩
  rw [← hR] at C3 ⊢
  have HL := Lib.hid hlenS
  clear hd hL hR hk hlenS hlen hnx
  go_enter Tryz.func58, Tryz.ntmps58
  go_wp2_with fail
  refine C1.out.mono ?_
  rintro e w1 ⟨v1, rfl, hv1, hb1⟩
  have D2 := Lib.hid (C2.out w1 hb1)
  have D3 := Lib.hid (C3.out v1 w1 hv1)
  obtain ⟨b1, o1, c1, rfl, _, hc1, hm1, _⟩ := hv1
  rw [HL.out] at D3 hc1 ⊢
  have hc1I : (32 : Int) ≤ c1 := by omega
  clear C1 C2 C3
  go_wp2_with fail
  refine D2.out.mono ?_
  rintro e w2 ⟨rfl, hw2⟩
  subst w2
  go_wp2_with fail
  refine D3.out.mono ?_
  rintro e w2 ⟨v, rfl, hv, hb2⟩
  clear D2 D3
  go_wp2_with fail
  go_ret2
  exact ⟨v, rfl, hv, Below.then_ hb1 hb2⟩

/-- A new digest. -/
def d0 : Dg := ⟨h0F, fun _ => 0, 0, 0⟩

theorem wr_nx (kf : Nat → Int) (l : List UInt8) : (wr kf d0 l).nx = (wr kf d0 l).len % 64 := by
  unfold wr d0
  rw [if_pos rfl]
  show l.length % 64 = (0 + l.length) % 64
  rw [Nat.zero_add]

theorem wr_len (kf : Nat → Int) (l : List UInt8) : (wr kf d0 l).len = l.length := by
  unfold wr d0
  rw [if_pos rfl]
  show 0 + l.length = l.length
  rw [Nat.zero_add]

set_option maxHeartbeats 2000000 in
set_option maxRecDepth 100000 in
theorem sumSha_any (v : Value) (m : List UInt8) (kf : Nat → Int) (w : World) (hr : Rd w w.heap.size v m) (h0 : 0 < m.length) (h400 : m.length ≤ 400) (hk : KAt w kf) :
    Calls Tryz.prog 39 #[v, .int .u64 18, .int .i64 (-1)] w (NewBE ((18 : Nat).toUInt8 :: (32 : Nat).toUInt8 :: sumL kf (wr kf d0 m)) w) := by
  have C1 := Lib.hid (GetSha_any w)
  obtain ⟨b, o, c, rfl, hb, hc, hcm, hat⟩ := hr
  obtain ⟨n, hn⟩ : ∃ n, n = m.length := ⟨_, rfl⟩
  rw [← hn] at hc h0 h400 ⊢
  obtain ⟨G, hG⟩ : ∃ G, G = w.heap.size := ⟨_, rfl⟩
  rw [← hG] at C1
  have hGK : G ≠ 25 := by have := hk.lt; omega
  have C2 := Lib.hid fun (W : World) (hB : Below G w W) (hd : DgAt W G d0) => Wr_any G b o n c d0 kf m W hd (hat.below hB (by omega)) hn.symm (by omega) (by have := hB.size; omega) hc hcm h0 h400 (by decide) hGK (fun i hi => (hk.on (by rw [← hG]; exact hB)) i hi) (.inl rfl)
  have C3 := Lib.hid fun (W : World) (hB : Below G w W) (hd : DgAt W G (wr kf d0 m)) => encSha_any G (wr kf d0 m) kf W hd (by rw [wr_len]; omega) (wr_nx kf m) (hk.on (by rw [← hG]; exact hB))
  obtain ⟨R, hR⟩ : ∃ R, R = (18 : Nat).toUInt8 :: (32 : Nat).toUInt8 :: sumL kf (wr kf d0 m) := ⟨_, rfl⟩
  rw [← hR] at C3 ⊢
  have HG := Lib.hid hG
  clear hat hk hn hR hG hb
  go_enter Tryz.func39, Tryz.ntmps39
  go_wp2_with fail
  refine C1.out.mono ?_
  rintro e w1 ⟨rfl, hd, hb1, _⟩
  have hb1' : Below G w w1 := hb1
  have D2 := Lib.hid (C2.out w1 hb1' hd)
  clear C1 C2 hd
  go_wp2_with fail
  refine D2.out.mono ?_
  rintro e w2 ⟨rfl, hd2, hbut⟩
  have hb2 : Below G w w2 := hb1'.trans (But.below hbut (Nat.le_refl _) (by have := hb1'.size; have := HG.out; omega))
  have D3 := Lib.hid (C3.out w2 hb2 hd2)
  clear D2 C3 hd2
  go_wp2_with fail
  refine D3.out.mono ?_
  rintro e w3 ⟨v, rfl, hv, hb3⟩
  clear D3
  go_wp2_with fail
  go_ret2
  refine ⟨v, rfl, hv, ?_⟩
  rw [← HG.out]
  exact hb2.trans (hb3.mono (by have := hb2.size; have := HG.out; omega))

theorem sha_says (kf : Nat → Int) (m : List UInt8) (h0 : 0 < m.length) (h400 : m.length ≤ 400) : ∃ S, S.length = 32 ∧ ShaSays kf m S :=
  ⟨sumL kf (wr kf d0 m), by unfold sumL; rw [bytesF_len], fun v W hr hk => sumSha_any v m kf W hr h0 h400 hk⟩
end Go.Proofs.YtilngifollpoeaaGreatFmt

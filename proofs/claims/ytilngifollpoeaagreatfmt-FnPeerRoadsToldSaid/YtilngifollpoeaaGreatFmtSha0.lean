/- SHA-256: the rotation of 32 bits; what a step, a round and a block do, as numbers. -/
import Derived.Test.YtilngifollpoeaaGreatFmtProg
import Derived.Test.YtilngifollpoeaaGreatFmtBase
namespace Go.Proofs.YtilngifollpoeaaGreatFmt
open Go.RowKit

/-- A rotation to the left by s places, as the program reckons it. -/
def rotl (x : Int) (s : Nat) : Int := bits .or .u32 (x * 2 ^ s % 4294967296) (x / 2 ^ (32 - s))

set_option maxHeartbeats 1000000 in
set_option maxRecDepth 100000 in
theorem rot_any (x k : Int) (s : Nat) (w : World) (hs : s < 32) (hk : bits .and .u64 (IntKind.u64.wrap k) 31 = (s : Int)) :
    Calls Tryz.prog 251 #[.int .u32 x, .int .i64 k] w fun e w' => e = .returned (.int .u32 (rotl x s)) ∧ w' = w := by
  have hsI : (s : Int) < 32 := by omega
  go_enter Tryz.func251, Tryz.ntmps251
  go_wp2
  go_ret
  exact ⟨rfl, rfl⟩

/-- The cells 0 .. m - 1 of the block D hold the numbers F 0 .. F (m - 1) of the kind q and may be written. -/
def RowZ (q : IntKind) (w : World) (D m : Nat) (F : Nat → Int) : Prop := ∀ i, i < m → w.cell? ⟨D, i, none⟩ = some (.int q (F i)) ∧ w.frozen? ⟨D, i, none⟩ = false

/-- One place turned. -/
def updZ (F : Nat → Int) (i : Nat) (v : Int) (j : Nat) : Int := if j = i then v else F j

section
variable {q : IntKind} {w w' : World} {D m B : Nat} {F : Nat → Int}
theorem RowZ.cell (h : RowZ q w D m F) {i : Nat} (hi : i < m) : w.cell? ⟨D, i, none⟩ = some (.int q (F i)) := (h i hi).1
theorem RowZ.frozen (h : RowZ q w D m F) {i : Nat} (hi : i < m) : w.frozen? ⟨D, i, none⟩ = false := (h i hi).2
theorem RowZ.set_ (h : RowZ q w D m F) {i : Nat} (hi : i < m) (v : Int) : RowZ q (w.setCell ⟨D, i, none⟩ (.int q v)) D m (updZ F i v) := by
  intro j hj
  refine ⟨?_, by rw [World.frozen?_setCell]; exact h.frozen hj⟩
  unfold updZ
  by_cases e : j = i
  · subst e
    rw [if_pos rfl]
    exact World.cell?_setCell_same _ _ _ (h.cell hj)
  · rw [if_neg e]
    refine Eq.trans (World.cell?_setCell_other _ _ _ _ (fun e2 => e ?_)) (h.cell hj)
    injection e2 with e3 e4
    exact e4.symm
theorem RowZ.below (h : RowZ q w D m F) (hb : Below B w w') (hD : D < B) : RowZ q w' D m F := fun i hi => ⟨(hb.cell (p := ⟨D, i, none⟩) hD).trans (h.cell hi), (hb.frozen (p := ⟨D, i, none⟩) hD).trans (h.frozen hi)⟩
theorem RowZ.drew (h : RowZ q w D m F) : RowZ q w.drew D m F := h
end

/-- The eight numbers of a state. -/
structure St where
  a : Int
  b : Int
  c : Int
  d : Int
  e : Int
  f : Int
  g : Int
  h : Int
/-- The cells of a digest. -/
def digC (h x : Nat → Int) (nx len : Int) : Array Value := Array.ofFn (n := 75) fun i => if i.val < 8 then .int .u32 (h i.val) else if i.val < 72 then .int .u8 (x (i.val - 8)) else if i.val = 72 then .int .i64 nx else if i.val = 73 then .int .u64 len else .bool false

theorem digC_h (h x : Nat → Int) (nx len : Int) {i : Nat} (hi : i < 8) : (digC h x nx len)[i]? = some (.int .u32 (h i)) := by
  have hlt : i < (digC h x nx len).size := by simp [digC]; omega
  rw [Array.getElem?_eq_getElem hlt]
  simp [digC, hi]


theorem zero64 : (#[Value.int .u32 0, Value.int .u32 0, Value.int .u32 0, Value.int .u32 0, Value.int .u32 0, Value.int .u32 0, Value.int .u32 0, Value.int .u32 0, Value.int .u32 0, Value.int .u32 0, Value.int .u32 0, Value.int .u32 0, Value.int .u32 0, Value.int .u32 0, Value.int .u32 0, Value.int .u32 0, Value.int .u32 0, Value.int .u32 0, Value.int .u32 0, Value.int .u32 0, Value.int .u32 0, Value.int .u32 0, Value.int .u32 0, Value.int .u32 0, Value.int .u32 0, Value.int .u32 0, Value.int .u32 0, Value.int .u32 0, Value.int .u32 0, Value.int .u32 0, Value.int .u32 0, Value.int .u32 0, Value.int .u32 0, Value.int .u32 0, Value.int .u32 0, Value.int .u32 0, Value.int .u32 0, Value.int .u32 0, Value.int .u32 0, Value.int .u32 0, Value.int .u32 0, Value.int .u32 0, Value.int .u32 0, Value.int .u32 0, Value.int .u32 0, Value.int .u32 0, Value.int .u32 0, Value.int .u32 0, Value.int .u32 0, Value.int .u32 0, Value.int .u32 0, Value.int .u32 0, Value.int .u32 0, Value.int .u32 0, Value.int .u32 0, Value.int .u32 0, Value.int .u32 0, Value.int .u32 0, Value.int .u32 0, Value.int .u32 0, Value.int .u32 0, Value.int .u32 0, Value.int .u32 0, Value.int .u32 0] : Array Value) = Array.replicate 64 (Value.int .u32 0) := rfl

/-- Four bytes as a word. -/
def be4 (p0 p1 p2 p3 : Int) : Int := bits .or .u32 (bits .or .u32 (bits .or .u32 (p0 % 4294967296 * 16777216 % 4294967296) (p1 % 4294967296 * 65536 % 4294967296)) (p2 % 4294967296 * 256 % 4294967296)) (p3 % 4294967296)

/-- What a word further on is made of. -/
def wexp (v1 v2 w7 w16 : Int) : Int := (((bits .xor .u32 (bits .xor .u32 (rotl v1 15) (rotl v1 13)) (v1 / 1024) + w7) % 4294967296 + bits .xor .u32 (bits .xor .u32 (rotl v2 25) (rotl v2 14)) (v2 / 8)) % 4294967296 + w16) % 4294967296

/-- The words of a block, as far as they are written. -/
def wsch (p : Nat → Int) : Nat → Nat → Int
  | 0, _ => 0
  | i + 1, j => if j = i then (if i < 16 then be4 (p (4 * i)) (p (4 * i + 1)) (p (4 * i + 2)) (p (4 * i + 3)) else wexp (wsch p i (i - 2)) (wsch p i (i - 15)) (wsch p i (i - 7)) (wsch p i (i - 16))) else wsch p i j

def t1of (k w : Int) (s : St) : Int := (s.h + bits .xor .u32 (bits .xor .u32 (rotl s.e 26) (rotl s.e 21)) (rotl s.e 7) + bits .xor .u32 (bits .and .u32 s.e s.f) (bits .and .u32 (bits .xor .u32 IntKind.u32.max s.e) s.g) + k + w) % 4294967296
def t2of (s : St) : Int := (bits .xor .u32 (bits .xor .u32 (rotl s.a 30) (rotl s.a 19)) (rotl s.a 10) + bits .xor .u32 (bits .xor .u32 (bits .and .u32 s.a s.b) (bits .and .u32 s.a s.c)) (bits .and .u32 s.b s.c)) % 4294967296

/-- A step. -/
def stp (k w : Int) (s : St) : St := ⟨(t1of k w s + t2of s) % 4294967296, s.a, s.b, s.c, (s.d + t1of k w s) % 4294967296, s.e, s.f, s.g⟩

/-- The steps of a block. -/
def rnd (kf p : Nat → Int) : Nat → St → St
  | 0, s => s
  | i + 1, s => stp (kf i) (wsch p (i + 1) i) (rnd kf p i s)

def addS (s r : St) : St := ⟨(s.a + r.a) % 4294967296, (s.b + r.b) % 4294967296, (s.c + r.c) % 4294967296, (s.d + r.d) % 4294967296, (s.e + r.e) % 4294967296, (s.f + r.f) % 4294967296, (s.g + r.g) % 4294967296, (s.h + r.h) % 4294967296⟩

/-- The bytes of the block number k. -/
def pf (l : List UInt8) (k j : Nat) : Int := ((l.getD (64 * k + j) 0).toNat : Int)

/-- What the first k blocks make of a state. -/
def cmp (kf : Nat → Int) (l : List UInt8) : Nat → St → St
  | 0, s => s
  | k + 1, s => addS (cmp kf l k s) (rnd kf (pf l k) 64 (cmp kf l k s))

def ofH (h : Nat → Int) : St := ⟨h 0, h 1, h 2, h 3, h 4, h 5, h 6, h 7⟩
def toH (s : St) : Nat → Int
  | 0 => s.a
  | 1 => s.b
  | 2 => s.c
  | 3 => s.d
  | 4 => s.e
  | 5 => s.f
  | 6 => s.g
  | _ => s.h

theorem digC_set (h x : Nat → Int) (nx len : Int) {i : Nat} (hi : i < 8) (v : Int) : (digC h x nx len).setIfInBounds i (.int .u32 v) = digC (updZ h i v) x nx len := by
  apply Array.ext
  · simp [digC]
  · intro j h1 h2
    have hj : j < 75 := by simpa [digC] using h2
    rw [Array.getElem_setIfInBounds (by simpa [digC] using hj)]
    simp only [digC, Array.getElem_ofFn, updZ]
    by_cases e : i = j
    · subst e
      rw [if_pos rfl, if_pos hi, if_pos rfl]
    · have e2 : ¬ j = i := fun h => e h.symm
      simp only [if_neg e, if_neg e2]

theorem digC_ext {h h' x x' : Nat → Int} {nx len : Int} (e : ∀ i, i < 8 → h i = h' i) (e2 : ∀ i, i < 64 → x i = x' i) : digC h x nx len = digC h' x' nx len := by
  apply Array.ext
  · simp [digC]
  · intro j h1 h2
    simp only [digC, Array.getElem_ofFn]
    by_cases hj : j < 8
    · rw [if_pos hj, if_pos hj, e j hj]
    · rw [if_neg hj, if_neg hj]
      by_cases hj2 : j < 72
      · rw [if_pos hj2, if_pos hj2, e2 _ (by omega)]
      · rw [if_neg hj2, if_neg hj2]

/-- All blocks but g are as they were. -/
abbrev But (g : Nat) (w w' : World) : Prop := w.grownBy w' (some g)
theorem But.setCell {g : Nat} {w w' : World} (h : But g w w') (i : Nat) (u : Value) : But g w (w'.setCell ⟨g, i, none⟩ u) :=
  ⟨h.os, h.tape, h.output, by simpa using h.size, fun k hk hne => (Below.heap_setCell w' ⟨g, i, none⟩ u k (fun e => hne (by rw [e]))).trans (h.block k hk hne)⟩
theorem But.drew {g : Nat} {w w' : World} (h : But g w w') : But g w w'.drew := ⟨h.os, h.tape, h.output, h.size, h.block⟩
theorem But.ofBelow {g : Nat} {w w' : World} (h : Below w.heap.size w w') : But g w w' := ⟨h.os, h.tape, h.output, h.size, fun k hk _ => h.block k hk⟩
theorem But.below {g B : Nat} {w w' : World} (h : But g w w') (hB : B ≤ g) (hs : B ≤ w.heap.size) : Below B w w' := ⟨h.os, h.tape, h.output, h.size, fun k hk => h.block k (by omega) (fun e => by injection e with e; omega)⟩
theorem But.trans {g : Nat} {a b c : World} (h : But g a b) (k : But g b c) : But g a c :=
  ⟨k.os.trans h.os, k.tape.trans h.tape, k.output.trans h.output, Nat.le_trans h.size k.size, fun j hj hne => (k.block j (Nat.lt_of_lt_of_le hj h.size) hne).trans (h.block j hj hne)⟩

end Go.Proofs.YtilngifollpoeaaGreatFmt

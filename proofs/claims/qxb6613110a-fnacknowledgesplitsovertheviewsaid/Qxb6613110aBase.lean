import Derived.Test.Qxb6613110aRows
import Derived.WalkKit
import Derived.WalkSpells
import Derived.WalkLawsBesides
import Derived.BigQuiet
import Derived.Lib.QuietBelow
namespace Go.Proofs.Qxb6613110a
open Go.RowKit

theorem ret_int {k : IntKind} {a b : Int} (h : a = b) : Ending.returned (.int k a) = .returned (.int k b) := by rw [h]
theorem ret_bool {a b : Bool} (h : a = b) : Ending.returned (.bool a) = .returned (.bool b) := by rw [h]

/-- a slice of pairs (a Vector, a []VE) as it lies in memory -/
def VecAt (w : World) (a : Option Addr) (n : Nat) (B : Nat → ByteArray) (C : Nat → Int) : Prop :=
  ∃ b off, (n ≤ 0 ∨ a = some ⟨b, off, none⟩) ∧ (∀ i, i < n → w.cell? ⟨b, off + i * 2, none⟩ = some (.string (B i))) ∧
    (∀ i, i < n → w.cell? ⟨b, off + i * 2 + 1, none⟩ = some (.int .u64 (C i)))

theorem lt_of_cell {w : World} {a : Addr} {v : Value} (h : w.cell? a = some v) : a.block < w.heap.size := World.block_lt_of_cell? w a h

theorem VecAt.below {w w' : World} {a : Option Addr} {n : Nat} {B : Nat → ByteArray} {C : Nat → Int} (h : VecAt w a n B C) (hb : Below w.heap.size w w') : VecAt w' a n B C := by
  obtain ⟨b, off, ha, h0, h1⟩ := h
  exact ⟨b, off, ha, fun i hi => (hb.cell (lt_of_cell (h0 i hi))).trans (h0 i hi), fun i hi => (hb.cell (lt_of_cell (h1 i hi))).trans (h1 i hi)⟩

/-- a []VEntry -/
structure VRow where
  id : Nat → ByteArray
  st : Nat → ByteArray
  inc : Nat → Int
  su : Nat → Bool
  sd : Nat → Int
  gone : Nat → Int

def ViewAt (w : World) (a : Option Addr) (n : Nat) (V : VRow) : Prop :=
  ∃ b off, (n ≤ 0 ∨ a = some ⟨b, off, none⟩) ∧ (∀ i, i < n → w.cell? ⟨b, off + i * 6, none⟩ = some (.string (V.id i))) ∧
    (∀ i, i < n → w.cell? ⟨b, off + i * 6 + 1, none⟩ = some (.string (V.st i))) ∧ (∀ i, i < n → w.cell? ⟨b, off + i * 6 + 2, none⟩ = some (.int .u64 (V.inc i))) ∧
    (∀ i, i < n → w.cell? ⟨b, off + i * 6 + 3, none⟩ = some (.bool (V.su i))) ∧ (∀ i, i < n → w.cell? ⟨b, off + i * 6 + 4, none⟩ = some (.int .u64 (V.sd i))) ∧
    (∀ i, i < n → w.cell? ⟨b, off + i * 6 + 5, none⟩ = some (.int .u64 (V.gone i)))

theorem ViewAt.below {w w' : World} {a : Option Addr} {n : Nat} {V : VRow} (h : ViewAt w a n V) (hb : Below w.heap.size w w') : ViewAt w' a n V := by
  obtain ⟨b, off, ha, h0, h1, h2, h3, h4, h5⟩ := h
  exact ⟨b, off, ha, fun i hi => (hb.cell (lt_of_cell (h0 i hi))).trans (h0 i hi), fun i hi => (hb.cell (lt_of_cell (h1 i hi))).trans (h1 i hi), fun i hi => (hb.cell (lt_of_cell (h2 i hi))).trans (h2 i hi),
    fun i hi => (hb.cell (lt_of_cell (h3 i hi))).trans (h3 i hi), fun i hi => (hb.cell (lt_of_cell (h4 i hi))).trans (h4 i hi), fun i hi => (hb.cell (lt_of_cell (h5 i hi))).trans (h5 i hi)⟩

/-- a Bool is returned; where it is true, p holds -/
def OkRes (e : Ending) (p : Prop) : Prop := ∃ r : Bool, e = .returned (.bool r) ∧ (r = true → p)
theorem okRes_no {p : Prop} : OkRes (.returned (.bool false)) p := ⟨false, rfl, fun h => absurd h (by simp)⟩
theorem okRes_yes {p : Prop} (h : p) : OkRes (.returned (.bool true)) p := ⟨true, rfl, fun _ => h⟩

def VecOk (n : Nat) (B : Nat → ByteArray) : Prop := ∀ i, i + 1 < n → Op.bytesLess (B i).toList (B (i + 1)).toList = true
def ViewOk (n : Nat) (V : VRow) : Prop := (∀ i, i < n → (V.id i).toList.isEmpty = false) ∧ ∀ i, i + 1 < n → Op.bytesLess (V.id i).toList (V.id (i + 1)).toList = true

/-- the first entry's clock for m, from k on -/
def lookF (B : Nat → ByteArray) (C : Nat → Int) (m : ByteArray) : Nat → Nat → Int
  | _, 0 => 0
  | k, f + 1 => if ((B k).toList == m.toList) = true then C k else lookF B C m (k + 1) f

def cntB (st : ByteArray) (gone : Int) : Bool := st.toList == [109, 101, 109, 98, 101, 114] || (st.toList == [102, 97, 105, 108, 101, 100] && gone == 0)

def hasF (B : Nat → ByteArray) (m : ByteArray) : Nat → Nat → Bool
  | _, 0 => false
  | k, f + 1 => if ((B k).toList == m.toList) = true then true else hasF B m (k + 1) f

def entB (B : Nat → ByteArray) (C : Nat → Int) (n j : Nat) (m : ByteArray) (cl : Int) : Bool := decide (j < n) && ((B j).toList == m.toList) && (C j == cl)

/-- the least of m and of the clocks of the counted members, from k on -/
def ownF (V : VRow) (look : ByteArray → Int) : Nat → Nat → Int → Int
  | _, 0, m => m
  | k, f + 1, m => if cntB (V.st k) (V.gone k) = true then (if look (V.id k) < m then ownF V look (k + 1) f (look (V.id k)) else ownF V look (k + 1) f m) else ownF V look (k + 1) f m


theorem sz63 (wx : World) : (sizeOf 63).run Try.prog wx = .ok 2 wx := by simp [go_sem]
theorem sz66 (wx : World) : (sizeOf 66).run Try.prog wx = .ok 2 wx := by simp [go_sem]
theorem sz38 (wx : World) : (sizeOf 38).run Try.prog wx = .ok 6 wx := by simp [go_sem]
theorem sz79 (wx : World) : (sizeOf 79).run Try.prog wx = .ok 1 wx := by simp [go_sem]
/-- an element's address, whether the slice is nil or not (where it is, there is no element): an equation for the walk -/
theorem ixAt {t e : TypeId} {sz : Nat} (ht : Try.prog.underlying t = some (.slice e)) (hs : ∀ wx, (sizeOf e).run Try.prog wx = .ok sz wx) {a : Option Addr} {n c b off : Nat} (ha : n ≤ 0 ∨ a = some ⟨b, off, none⟩) (k : Nat) (hk : k < n) (wx : World) :
    (Instr.indexAt t (.slice a n c) (.int .i64 (k : Int))).run Try.prog wx = .ok (.pointer (some ⟨b, off + k * sz, none⟩)) wx := by
  rcases ha with ha | rfl
  · omega
  · have he : Try.prog.elem t = e := by simp [Program.elem, ht]
    have := run_indexAt_slice (P := Try.prog) (w := wx) t ⟨b, off, none⟩ n c .i64 k (by rw [he]; exact ht)
    rw [this, if_pos (by omega), he, hs]
    simp [Addr.add]
theorem ixAtI {t e : TypeId} {sz : Nat} (ht : Try.prog.underlying t = some (.slice e)) (hs : ∀ wx, (sizeOf e).run Try.prog wx = .ok sz wx) {a : Option Addr} {n c b off : Nat} (ha : n ≤ 0 ∨ a = some ⟨b, off, none⟩) (i : Int) (k : Nat) (hi : i = k) (hk : k < n) (wx : World) :
    (Instr.indexAt t (.slice a n c) (.int .i64 i)).run Try.prog wx = .ok (.pointer (some ⟨b, off + k * sz, none⟩)) wx := by
  subst hi; exact ixAt ht hs ha k hk wx

set_option maxHeartbeats 400000 in
theorem lookup_any (a : Option Addr) (n c : Nat) (B : Nat → ByteArray) (C : Nat → Int) (m : ByteArray) (w : World) (hm : n ≤ maxLen) (hv : VecAt w a n B C) :
    Calls Try.prog 16 #[.slice a n c, .string m] w fun e w' => e = .returned (.int .u64 (lookF B C m 0 n)) ∧ Below w.heap.size w w' := by
  unfold maxLen at hm
  obtain ⟨b, off, ha, h0, h1⟩ := hv
  go_enter Try.func16, Try.ntmps16
  go_wp2
  go_loop [5] (fun i => ∃ k : Nat, k ≤ n ∧ i = .int .i64 k ∧ Hid (lookF B C m 0 n = lookF B C m k (n - k))) (fun i => n - (intOf i).toNat)
  case atStart => exact ⟨0, Nat.zero_le _, rfl, rfl⟩
  case round =>
      obtain ⟨k, hk, rfl, HL⟩ := hrel
      by_cases hlt : k < n
      · have g0 := h0 k hlt
        have g1 := h1 k hlt
        have hix := ixAt (c := c) Try.underlying23 sz63 ha k hlt
        clear h0 h1 ha
        have HS : Hid (lookF B C m 0 n = if ((B k).toList == m.toList) = true then C k else lookF B C m (k + 1) (n - (k + 1))) := by
             have e : n - k = (n - (k + 1)) + 1 := by omega
             unfold Hid; rw [HL.out, e]; rfl
        clear HL
        go_wp2
        · go_ret
          exact ⟨ret_int (by rw [HS.out, if_pos ‹_›]), Below.refl _ _⟩
        · go_round
          case rel => exact ⟨k + 1, by omega, by go_num, by rw [HS.out, if_neg (by simp [*])]; rfl⟩
          case measure => simp [intOf]; omega
      · go_wp2
        go_ret
        exact ⟨ret_int (by rw [HL.out, show n - k = 0 from by omega]; rfl), Below.refl _ _⟩
end Go.Proofs.Qxb6613110a

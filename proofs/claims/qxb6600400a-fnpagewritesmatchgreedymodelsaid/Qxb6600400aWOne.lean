/-
  SEAT b6600400a: WALKS 1: 'zzBytes_..' (6, 11, 13), 'zzCloneBytes' (7), bytes.IndexByte (17).
-/
import Derived.Test.Qxb6600400aProg
import Derived.Test.Qxb6600400aPlain
import Derived.WalkKit
import Derived.WalkSpells
import Derived.WalkLawsBesides
import Derived.Lib.SliceRun
import Derived.Lib.BytesEntry
namespace Go.Proofs.Qxb6600400a
open Go.RowKit

theorem hideP {p : Prop} (h : p) : Hid p := h

/-- A slice of bytes as the walks see it: nothing, or cells at a plain address. -/
def Row (w : World) (a : Option Addr) (L : List UInt8) : Prop :=
  L = [] ∨ ∃ b off, a = some ⟨b, off, none⟩ ∧ b < w.heap.size ∧ ∀ i, i < L.length → w.cell? ⟨b, off + i, none⟩ = some (.int .u8 (L.getD i 0).toNat)

def byteV (l : List UInt8) : List Value := l.map fun b => Value.int .u8 b.toNat

def BP (w : World) (e : Ending) (w' : World) : Prop := ∃ b : Bool, e = .returned (.bool b) ∧ w' = w
theorem BP.mk (w : World) (b : Bool) : BP w (.returned (.bool b)) w := ⟨b, rfl, rfl⟩

theorem zz13_any (x y : Int) (a : Option Addr) (n cap : Nat) (w : World) (hn : n ≤ maxLen) : Calls Try.prog 13 #[.int .i64 x, .int .i64 y, .slice a n cap] w (BP w) := by
  unfold maxLen at hn
  by_cases h : 1048576 < (n : Int)
  · go_enter Try.func13, Try.ntmps13
    go_wp2
    go_ret
    exact BP.mk w false
  · go_enter Try.func13, Try.ntmps13
    go_wp2
    go_ret
    exact BP.mk w true
theorem zz11_any (x : Int) (a : Option Addr) (n cap : Nat) (w : World) (hn : n ≤ maxLen) : Calls Try.prog 11 #[.int .i64 x, .slice a n cap] w (BP w) := by
  unfold maxLen at hn
  by_cases h : 1048576 < (n : Int)
  · go_enter Try.func11, Try.ntmps11
    go_wp2
    go_ret
    exact BP.mk w false
  · go_enter Try.func11, Try.ntmps11
    go_wp2
    go_ret
    exact BP.mk w true
theorem zz6_any (x : Int) (a : Option Addr) (n cap : Nat) (w : World) (hn : n ≤ maxLen) : Calls Try.prog 6 #[.int .i64 x, .slice a n cap] w (BP w) := by
  unfold maxLen at hn
  by_cases h : 1048576 < (n : Int)
  · go_enter Try.func6, Try.ntmps6
    go_wp2
    go_ret
    exact BP.mk w false
  · go_enter Try.func6, Try.ntmps6
    go_wp2
    go_ret
    exact BP.mk w true

theorem Try.info5 : (Try.prog.info? 5).map (fun i => (i.zero, i.size, i.bytes)) = some (some (.int .u8 0), 1, 1) := by kernel_rfl

def ClP (L : List UInt8) (w : World) (e : Ending) (w' : World) : Prop :=
  ∃ (a : Option Addr) (cap : Nat), e = .returned (.slice a L.length cap) ∧ L.length ≤ cap ∧ cap ≤ maxLen ∧ Row w' a L ∧ Below w.heap.size w w'
theorem ClP.mk {L : List UInt8} {w w' : World} {a : Option Addr} {n cap : Nat} (hn : L.length = n) (h1 : n ≤ cap) (h2 : cap ≤ maxLen) (h3 : Row w' a L) (h4 : Below w.heap.size w w') : ClP L w (.returned (.slice a n cap)) w' :=
  ⟨a, cap, by rw [hn], by omega, h2, h3, h4⟩

/-- The new row after k rounds. -/
def clRow (L : List UInt8) (k : Nat) : List Value := byteV (L.take k) ++ List.replicate (L.length - k) (.int .u8 0)

theorem clRow_len (L : List UInt8) (k : Nat) (h : k ≤ L.length) : (clRow L k).length = L.length := by simp [clRow, byteV]; omega

theorem clRow_at (L : List UInt8) (k : Nat) (h : k < L.length) : (clRow L k)[k]? = some (.int .u8 0) := by
  unfold clRow byteV
  rw [List.getElem?_append_right (by simp; omega), List.getElem?_replicate, if_pos (by simp; omega)]

theorem clRow_succ (L : List UInt8) (k : Nat) (h : k < L.length) : (clRow L k).set k (.int .u8 (L.getD k 0).toNat) = clRow L (k + 1) := by
  apply List.ext_getElem?
  intro j
  have hl : (clRow L k).length = L.length := clRow_len L k (by omega)
  rw [List.getElem?_set]
  by_cases hj : k = j
  · subst hj
    rw [if_pos rfl, if_pos (by omega)]
    unfold clRow byteV
    rw [List.getElem?_append_left (by simp; omega), List.getElem?_map, List.getElem?_take, if_pos (by omega), List.getD_eq_getElem?_getD, List.getElem?_eq_getElem h]
    rfl
  · rw [if_neg hj]
    unfold clRow byteV
    by_cases hj2 : j < k
    · rw [List.getElem?_append_left (by simp; omega), List.getElem?_append_left (by simp; omega)]
      simp only [List.getElem?_map, List.getElem?_take, if_pos hj2, if_pos (show j < k + 1 by omega)]
    · rw [List.getElem?_append_right (by simp; omega), List.getElem?_append_right (by simp; omega)]
      simp only [List.getElem?_replicate, List.length_map, List.length_take]
      have e1 : min k L.length = k := by omega
      have e2 : min (k + 1) L.length = k + 1 := by omega
      rw [e1, e2]
      by_cases hj3 : j - k < L.length - k
      · rw [if_pos hj3, if_pos (by omega)]
      · rw [if_neg hj3, if_neg (by omega)]

theorem clRow_all (L : List UInt8) : clRow L L.length = byteV L := by simp [clRow]

theorem row_of {w : World} {base g n cap : Nat} {L : List UInt8} (hn : L.length = n) (h : w.ownsRow base 5 1 (.slice (some ⟨g, 0, none⟩) n cap) n (byteV L)) : Row w (some ⟨g, 0, none⟩) L := by
  refine .inr ⟨g, 0, rfl, (h.lt g rfl).2, fun i hi => ?_⟩
  have := h.cellAt i (by omega)
  rw [Nat.zero_add, this, byteV, List.getElem?_map, List.getD_eq_getElem?_getD, List.getElem?_eq_getElem hi]
  rfl

theorem row_below {w w' : World} {a : Option Addr} {L : List UInt8} (h : Row w a L) (hb : Below w.heap.size w w') : Row w' a L := by
  rcases h with h | ⟨b, off, h1, h2, h3⟩
  · exact .inl h
  · exact .inr ⟨b, off, h1, Nat.lt_of_lt_of_le h2 hb.size, fun i hi => (hb.cell (by exact h2)).trans (h3 i hi)⟩

set_option maxHeartbeats 1000000 in
theorem clone_any (a : Option Addr) (cap : Nat) (L : List UInt8) (w : World) (ha : a = none → L = []) (hl : L.length ≤ 1048576) (hc : Row w a L) :
    Calls Try.prog 7 #[.slice a L.length cap] w (ClP L w) := by
  have q22 : ∀ (w : World) (a : Option Addr) (n c n' c' : Nat), (binOp .eql 22 (.slice a n c) (.slice none n' c')).run Try.prog w = .ok (.bool a.isNone) w := fun w a n c n' c' => Lib.run_eql_slice_nil w _ _ a n c n' c' Try.underlying22
  cases a with
  | none =>
    obtain rfl := ha rfl
    go_enter Try.func7, Try.ntmps7
    go_wp2
    go_ret
    exact ClP.mk rfl (Nat.le_refl _) (by decide) (.inl rfl) (Below.refl _ _)
  | some x =>
    obtain ⟨i0, hi, hz0, hz1, hz2⟩ := info_parts Try.info5
    go_enter Try.func7, Try.ntmps7
    go_wp2_with (at_make; refine wpList_make_full _ rfl _ _ 22 rfl w.heap.size 5 i0 (.int .u8 0) 1 Try.underlying22 hi hz0 hz1 _ _ _ _ L.length rfl rfl rfl rfl (by rw [hz2]; omega) (by unfold maxLen; omega) (Nat.le_refl _) ?_; intro w1 hown hgrow)
    have hown0 : w1.ownsRow w.heap.size 5 1 (.slice (some ⟨w.heap.size, 0, none⟩) L.length L.length) L.length (clRow L 0) := by
      have e : (madeCells (Value.int .u8 0).cells (L.length * 1)).toList = clRow L 0 := by
        rw [Nat.mul_one]
        show (madeCells #[Value.int .u8 0] L.length).toList = _
        rw [toList_madeCells_one]
        simp [clRow, byteV]
      rw [e] at hown
      exact hown
    have hbel : Below w.heap.size w w1 := (Below.refl _ _).grown hgrow (Nat.le_refl _) (fun k hk => by cases hk)
    clear hown hgrow
    rcases hc with rfl | ⟨b, off, hx, hb, hc⟩
    · go_wp2
      refine wp_loop_rounds 1 ?_
      rw [rounds_succ]
      go_wp2
      go_ret
      exact ClP.mk rfl (Nat.le_refl _) (by decide) (.inl rfl) hbel
    · cases hx
      have HO := hideP hown0
      clear hown0
      go_wp2
      go_loopw [4] (fun i wr => ∃ k : Nat, k ≤ L.length ∧ i = .int .i64 k ∧ wr.ownsRow w.heap.size 5 1 (.slice (some ⟨w.heap.size, 0, none⟩) L.length L.length) L.length (clRow L k) ∧ Below w.heap.size w wr) (fun i _ => L.length - (intOf i).toNat)
      case atStart => exact ⟨0, Nat.zero_le _, rfl, HO.out, hbel⟩
      case round =>
        obtain ⟨k, hk, rfl, hown, hbr⟩ := hrel
        clear HO hbel
        by_cases hlt : k < L.length
        · obtain ⟨t, ht⟩ : ∃ t, t = L.getD k 0 := ⟨_, rfl⟩
          have hcx : wr.cell? ⟨b, off + k, none⟩ = some (.int .u8 t.toNat) := by rw [ht]; exact (hbr.cell (by exact hb)).trans (hc k hlt)
          have hcw : wr.cell? ⟨w.heap.size, k, none⟩ = some (.int .u8 0) := by rw [hown.cellAt k (by omega)]; exact clRow_at L k hlt
          have hfw : wr.frozen? ⟨w.heap.size, k, none⟩ = false := hown.frozenAt k
          have hst := hown.stored k (.int .u8 t.toNat)
          rw [ht, clRow_succ L k hlt, ← ht] at hst
          have HB : Hid (Below w.heap.size w (wr.setCell ⟨w.heap.size, k, none⟩ (.int .u8 t.toNat))) := hbr.setCell (by exact Nat.le_refl _) _
          have HO2 := hideP hst.1
          clear hst ht hown hc hbr
          go_wp2
          go_roundw
          case rel => exact ⟨k + 1, by omega, by go_num, HO2.out, HB.out⟩
          case measure => simp [intOf]; omega
        · have hke : k = L.length := by omega
          rw [hke, clRow_all] at hown
          have HO2 := hideP hown
          clear hke hown hc
          go_wp2
          go_ret
          exact ClP.mk rfl (Nat.le_refl _) (by unfold maxLen; omega) (row_of rfl HO2.out) hbr

theorem bytesOf_cast (L : List UInt8) : Lib.bytesOf (L.map fun b => (b.toNat : Int)) = L := by
  simp [Lib.bytesOf, Function.comp_def]

set_option maxHeartbeats 400000 in
theorem bidx_any (g off c : Nat) (L : List UInt8) (n : Nat) (w : World) (hn : L.length = n) (hc : ∀ i, i < L.length → w.cell? ⟨g, off + i, none⟩ = some (.int .u8 (L.getD i 0).toNat)) :
    Calls Try.prog 17 #[.slice (some ⟨g, off, none⟩) n c, .int .u8 10] w fun e w' => e = .returned (.int .i64 (Lib.indexByte L 10)) ∧ w' = w := by
  have hr := Lib.run_indexByteSlice (P := Try.prog) w g off n c (L.map fun b => (b.toNat : Int)) (by simpa using hn) (fun i hi => by
    rw [hc i (by omega)]
    simp [List.getD_eq_getElem?_getD, List.getElem?_eq_getElem (show i < L.length by omega)]) 10
  rw [bytesOf_cast] at hr
  have HR : Hid ((Extern.BytealgIndexByte.indexByte #[.slice (some ⟨g, off, none⟩) n c, .int .u8 10]).run Try.prog w = .ok (.int .i64 (Lib.indexByte L 10)) w) := hr
  clear hr hc
  go_enter Try.func17, Try.ntmps17
  go_wp2
  rw [run_callFunc_extern Try.func18 (by kernel_rfl) (by kernel_rfl) (by kernel_rfl) (e := Extern.BytealgIndexByte.indexByte) (by kernel_rfl), HR.out]
  simp only [Result.andThen]
  rw [Oper.upon_value]
  go_wp2
  go_ret
  exact ⟨rfl, rfl⟩

end Go.Proofs.Qxb6600400a

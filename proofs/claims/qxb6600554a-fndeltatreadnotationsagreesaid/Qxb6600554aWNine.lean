/-
  SEAT b6600554a: WALKS 9: 'next' (43), 'digits' (51) turn the reader's block and no other.
-/
import Derived.Test.Qxb6600554aWTwo
namespace Go.Proofs.Qxb6600554a
open Go.RowKit
set_option linter.unusedVariables false

/-- Block b alone may have turned. -/
structure Just (b : Nat) (w w' : World) : Prop where
  os : w'.os = w.os
  tape : w'.tape = w.tape
  output : w'.output = w.output
  size : w'.heap.size = w.heap.size
  block : ∀ k, k ≠ b → w'.heap[k]? = w.heap[k]?

theorem Just.refl (b : Nat) (w : World) : Just b w w := ⟨rfl, rfl, rfl, rfl, fun _ _ => rfl⟩
theorem Just.trans {b : Nat} {u v w : World} (h : Just b u v) (k : Just b v w) : Just b u w :=
  ⟨k.os.trans h.os, k.tape.trans h.tape, k.output.trans h.output, k.size.trans h.size, fun i hi => (k.block i hi).trans (h.block i hi)⟩
theorem just_drewN {b : Nat} {w wr : World} (h : Just b w wr) (n : Nat) : Just b w (wr.drewN n) := ⟨h.os, h.tape, h.output, h.size, h.block⟩
theorem Just.drew {b : Nat} {w wr : World} (h : Just b w wr) : Just b w wr.drew := ⟨h.os, h.tape, h.output, h.size, h.block⟩
theorem Just.setCell {b : Nat} {w wr : World} (h : Just b w wr) {j : Nat} (v : Value) : Just b w (wr.setCell ⟨b, j, none⟩ v) :=
  h.trans ⟨rfl, rfl, rfl, by simp [World.setCell], fun k hk => Below.heap_setCell _ _ _ _ hk⟩
theorem Just.below {b : Nat} {w w' : World} (h : Just b w w') : Below b w w' := ⟨h.os, h.tape, h.output, by rw [h.size]; exact Nat.le_refl _, fun k hk => h.block k (by omega)⟩

def RdJ (b : Nat) (s : ByteArray) (v : Value) (i : Nat) (w : World) (e : Ending) (w' : World) : Prop := e = .returned v ∧ DAt w' b s i ∧ Just b w w'

set_option maxHeartbeats 1000000 in
theorem next_endJ (b : Nat) (s : ByteArray) (w : World) (hs : s.size ≤ 1048576) (h : DAt w b s s.size) : Calls Try.prog 43 #[.pointer (some ⟨b, 0, none⟩)] w (RdJ b s (.int .u8 0) s.size w) := by
  obtain ⟨c0, c1, cf⟩ := h.at
  have HD := hideQ h
  clear h
  go_enter Try.func43, Try.ntmps43
  go_wp2
  go_quiet (fail)
  go_wp2
  go_ret
  exact ⟨rfl, HD.out.drewN _, just_drewN (Just.refl _ _) _⟩

set_option maxHeartbeats 1000000 in
theorem next_moreJ (b : Nat) (s : ByteArray) (i : Nat) (hi : i < s.size) (w : World) (hs : s.size ≤ 1048576) (h : DAt w b s i) : Calls Try.prog 43 #[.pointer (some ⟨b, 0, none⟩)] w (RdJ b s (.int .u8 (s[i]'hi).toNat) (i + 1) w) := by
  obtain ⟨c0, c1, cf⟩ := h.at
  have HD := hideQ h
  clear h
  have hii : (i : Int) < (s.size : Int) := by omega
  go_enter Try.func43, Try.ntmps43
  go_wp2
  go_quiet (fail)
  go_wp2
  have HD2 : Hid (DAt ((w.drewN nq).setCell ⟨b, 1, none⟩ (.int .i64 ((i : Int) + 1))) b s (i + 1)) := (HD.out.drewN nq).set (i + 1)
  have HB2 : Hid (Just b w ((w.drewN nq).setCell ⟨b, 1, none⟩ (.int .i64 ((i : Int) + 1)))) := (just_drewN (Just.refl _ _) nq).setCell _
  obtain ⟨e0, e1, ef⟩ := HD2.out.at
  generalize (w.drewN nq).setCell ⟨b, 1, none⟩ (.int .i64 ((i : Int) + 1)) = w2 at HD2 HB2 e0 e1 ef ⊢
  go_quiet (fail)
  go_wp2
  go_ret
  exact ⟨rfl, HD2.out.drewN _, just_drewN HB2.out _⟩

theorem rd_endJ {b i k p n : Nat} {s : ByteArray} {ds ds1 : List UInt8} {w w' : World} (h : ds1 = ds) (h2 : ds1.length = k) (hp : p = i + k) (hn : n = capF 0 ds1) (hD : DAt w' b s p) (hB : Just b w w') :
    RdJ b s (.tuple #[.int .i64 (capF 0 ds), .int .i64 ds.length]) (i + ds.length) w (.returned (.tuple #[.int .i64 n, .int .i64 ((p : Int) - (i : Int))])) w' := by
  subst h
  subst hn
  refine ⟨?_, by rw [h2, ← hp]; exact hD, hB⟩
  have e : (p : Int) - (i : Int) = (ds1.length : Nat) := by omega
  rw [e]

set_option maxHeartbeats 2000000 in
theorem digits_anyJ (b : Nat) (s : ByteArray) (i : Nat) (hi : i ≤ s.size) (w : World) (hs : s.size ≤ 1048576) (h : DAt w b s i) :
    Calls Try.prog 51 #[.pointer (some ⟨b, 0, none⟩)] w (RdJ b s (.tuple #[.int .i64 (capF 0 ((s.data.toList.drop i).takeWhile isDg)), .int .i64 ((s.data.toList.drop i).takeWhile isDg).length]) (i + ((s.data.toList.drop i).takeWhile isDg).length) w) := by
  obtain ⟨c0, c1, cf⟩ := h.at
  have HD := hideQ h
  clear h
  obtain ⟨ds, hds⟩ : ∃ ds, (s.data.toList.drop i).takeWhile isDg = ds := ⟨_, rfl⟩
  rw [hds]
  have HDS := hideQ hds
  clear hds
  go_enter Try.func51, Try.ntmps51
  go_wp2
  go_loopw [4] (fun nv wr => ∃ (k : Nat) (ds1 : List UInt8), ds1 ++ (s.data.toList.drop (i + k)).takeWhile isDg = ds ∧ ds1.length = k ∧ i + k ≤ s.size ∧ nv = .int .i64 (capF 0 ds1) ∧ DAt wr b s (i + k) ∧ Just b w wr) (fun _ wr => s.size - (match wr.cell? ⟨b, 1, none⟩ with | some (.int _ x) => x.toNat | _ => 0))
  case atStart => exact ⟨0, [], by simpa using HDS.out, rfl, by omega, rfl, HD.out, Just.refl _ _⟩
  case round =>
    obtain ⟨k, ds1, hk1, hk2, hk3, rfl, hk5, hk6⟩ := hrel
    obtain ⟨p, hp⟩ : ∃ p, p = i + k := ⟨_, rfl⟩
    rw [← hp] at hk1 hk3 hk5
    obtain ⟨n, hn⟩ : ∃ n, n = capF 0 ds1 := ⟨_, rfl⟩
    have hcap : capF 0 ds1 ≤ 2147483648 := capF_le ds1 0 (by omega)
    rw [← hn] at hcap ⊢
    obtain ⟨e0, e1, ef⟩ := hk5.at
    have HP := hideQ hp
    have HN := hideQ hn
    have H1 := hideQ hk1
    have H2 := hideQ hk2
    have H5 := hideQ hk5
    have H6 := hideQ hk6
    clear hp hn hk1 hk2 hk5 hk6 c0 c1 cf HD
    by_cases hlt : p < s.size
    · have hpp : (p : Int) < (s.size : Int) := by omega
      have hd1 : decide ((p : Int) < (s.size : Int)) = true := decide_eq_true hpp
      by_cases g1 : (48 : Int) ≤ ((s[p]'hlt).toNat : Int)
      · have hd2 : decide ((48 : Int) ≤ ((s[p]'hlt).toNat : Int)) = true := decide_eq_true g1
        by_cases g2 : ((s[p]'hlt).toNat : Int) ≤ 57
        · have hd3 : decide (((s[p]'hlt).toNat : Int) ≤ 57) = true := decide_eq_true g2
          go_wp2
          go_quiet (fail)
          go_wp2
          have f0 : (wr.drewN nq).cell? ⟨b, 0, none⟩ = some (.string s) := e0
          have f1 : (wr.drewN nq).cell? ⟨b, 1, none⟩ = some (.int .i64 p) := e1
          have ff : (wr.drewN nq).frozen? ⟨b, 1, none⟩ = false := ef
          have H7 : Hid (DAt (wr.drewN nq) b s p) := H5.out
          have H8 : Hid (Just b w (wr.drewN nq)) := just_drewN H6.out nq
          have E1 := hideQ e1
          clear e0 e1 ef H5 H6
          generalize wr.drewN nq = wx at f0 f1 ff H7 H8 ⊢
          go_region
          go_wp2
          have HD9 : Hid (DAt (wx.setCell ⟨b, 1, none⟩ (.int .i64 ((p : Int) + 1))) b s (p + 1)) := H7.out.set (p + 1)
          have HB9 : Hid (Just b w (wx.setCell ⟨b, 1, none⟩ (.int .i64 ((p : Int) + 1)))) := H8.out.setCell _
          go_roundw
          case rel =>
            refine ⟨k + 1, ds1 ++ [s[p]'hlt], ?_, by simp [H2.out], by have := HP.out; omega, ?_, ?_, ?_⟩
            · rw [← H1.out, drop_at s p hlt, List.takeWhile_cons, if_pos (dg_yes g1 g2), show i + (k + 1) = p + 1 by have := HP.out; omega]
              simp
            · congr 1
              rw [capF_snoc, ← HN.out]
              unfold dig
              split <;> omega
            · rw [show i + (k + 1) = p + 1 by have := HP.out; omega]
              exact HD9.out
            · exact HB9.out.drew
          case measure =>
            have a1 : (wx.setCell ⟨b, 1, none⟩ (.int .i64 ((p : Int) + 1))).drew.cell? ⟨b, 1, none⟩ = some (.int .i64 ((p + 1 : Nat) : Int)) := HD9.out.at.2.1
            rw [a1, E1.out]
            simp only [Int.toNat_natCast]
            omega
        · have hd3 : decide (((s[p]'hlt).toNat : Int) ≤ 57) = false := decide_eq_false g2
          go_wp2
          go_quiet (fail)
          go_wp2
          go_quiet (fail)
          go_wp2
          go_ret2
          have hds : ds1 = ds := by rw [← H1.out, drop_at s p hlt, List.takeWhile_cons, if_neg (by rw [dg_no2 g2]; simp)]; simp
          exact rd_endJ hds H2.out HP.out HN.out ((H5.out.drewN _).drewN _) (just_drewN (just_drewN H6.out _) _)
      · have hd2 : decide ((48 : Int) ≤ ((s[p]'hlt).toNat : Int)) = false := decide_eq_false g1
        go_wp2
        go_quiet (fail)
        go_wp2
        go_quiet (fail)
        go_wp2
        go_ret2
        have hds : ds1 = ds := by rw [← H1.out, drop_at s p hlt, List.takeWhile_cons, if_neg (by rw [dg_no1 g1]; simp)]; simp
        exact rd_endJ hds H2.out HP.out HN.out ((H5.out.drewN _).drewN _) (just_drewN (just_drewN H6.out _) _)
    · have hd1 : decide ((p : Int) < (s.size : Int)) = false := decide_eq_false (by omega)
      have hpe : ¬ (p : Int) < (s.size : Int) := by omega
      go_wp2
      go_quiet (fail)
      go_wp2
      go_quiet (fail)
      go_wp2
      go_ret2
      have hds : ds1 = ds := by
        rw [← H1.out, List.drop_of_length_le (by rw [size_toList]; omega)]; simp
      exact rd_endJ hds H2.out HP.out HN.out ((H5.out.drewN _).drewN _) (just_drewN (just_drewN H6.out _) _)

end Go.Proofs.Qxb6600554a

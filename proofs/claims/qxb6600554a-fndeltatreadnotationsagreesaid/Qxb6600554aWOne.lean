/-
  SEAT b6600554a: WALKS 1: strings.IndexByte (49), strings.ContainsRune (52) at two constant strings.
-/
import Derived.Test.Qxb6600554aProg
import Derived.WalkKit
import Derived.WalkSpells
import Derived.WalkLawsBesides
import Derived.Lib.Bytealg
import Derived.BigQuiet
import Derived.Deep.QuietTactic
import Derived.Below
import Derived.WalkMore
import Derived.Scope
namespace Go.Proofs.Qxb6600554a
open Go.RowKit
set_option linter.unusedVariables false

theorem hideR {p : Prop} (h : p) : Hid p := h

theorem idx53_any (s : ByteArray) (c : Int) (w : World) : Calls Try.prog 53 #[.string s, .int .u8 c] w fun e w' => e = .returned (.int .i64 (Lib.indexByte s.data.toList c.toNat.toUInt8)) ∧ w' = w := by
  go_enter Try.func53, Try.ntmps53
  go_wp2
  rw [run_callFunc_extern Try.func55 (by kernel_rfl) (by kernel_rfl) (by kernel_rfl) (e := Extern.BytealgIndexByte.indexByte) (by kernel_rfl), Lib.run_indexByteString]
  simp only [Result.andThen]
  rw [Oper.upon_value]
  go_wp2
  go_ret
  exact ⟨rfl, rfl⟩

theorem idx49_any (s : ByteArray) (c : Int) (w : World) : Calls Try.prog 49 #[.string s, .int .u8 c] w fun e w' => e = .returned (.int .i64 (Lib.indexByte s.data.toList c.toNat.toUInt8)) ∧ w' = w := by
  go_enter Try.func49, Try.ntmps49
  go_wp2_with (go_at_call 53; refine (idx53_any _ _ _).mono ?_; rintro e w' ⟨rfl, rfl⟩)
  go_ret
  exact ⟨rfl, rfl⟩

set_option maxRecDepth 1000000 in
set_option maxHeartbeats 8000000 in
theorem rune_low (s : ByteArray) (c : Nat) (hc : c < 128) (w : World) : Calls Try.prog 54 #[.string s, .int .i32 c] w fun e w' => e = .returned (.int .i64 (Lib.indexByte s.data.toList c.toUInt8)) ∧ w' = w := by
  have h0 : (0 : Int) ≤ (c : Int) := by omega
  have h1 : (c : Int) < 128 := by omega
  go_enter Try.func54, Try.ntmps54
  go_wp2_with (go_at_call 49; refine (idx49_any _ _ _).mono ?_; rintro e w' ⟨rfl, rfl⟩)
  go_ret
  exact ⟨rfl, rfl⟩

theorem valid_any (c : Nat) (hc2 : c < 256) (w : World) : Calls Try.prog 56 #[.int .i32 c] w fun e w' => e = .returned (.bool true) ∧ w' = w := by
  have h0 : (0 : Int) ≤ (c : Int) := by omega
  have h1 : (c : Int) < 55296 := by omega
  go_enter Try.func56, Try.ntmps56
  go_wp2
  go_ret
  exact ⟨rfl, rfl⟩

theorem enc_two (c : Nat) (hc : 128 ≤ c) (hc2 : c < 256) : ∃ a b : UInt8, Utf8.encode (c : Int) = ⟨#[a, b]⟩ ∧ 128 ≤ b.toNat := by
  have hv : Utf8.valid (c : Int) = true := by
    unfold Utf8.valid
    simp
    omega
  have h1 : ¬ (c : Int).toNat < 128 := by omega
  have h2 : (c : Int).toNat < 2048 := by omega
  refine ⟨UInt8.ofNat (192 + (c : Int).toNat / 64), UInt8.ofNat (128 + (c : Int).toNat % 64), ?_, by simp; omega⟩
  unfold Utf8.encode
  simp only [hv, if_true, h1, if_false, h2]

theorem idx_none : ∀ (l : List UInt8) (q : UInt8), (∀ x ∈ l, x ≠ q) → Lib.indexByte l q = -1
  | [], q, _ => rfl
  | x :: l, q, h => by
    have hx : (x == q) = false := by simpa using h x (by simp)
    rw [Lib.indexByte, hx, idx_none l q (fun y hy => h y (by simp [hy]))]
    rfl

theorem ext_mem (s : ByteArray) (a b : Nat) (x : UInt8) (h : x ∈ (s.extract a b).data.toList) : ∃ i, ∃ hi : i < s.size, s[i]'hi = x := by
  rw [ByteArray.data_extract, Array.toList_extract, List.extract_eq_take_drop] at h
  have h2 : x ∈ s.data.toList := List.mem_of_mem_drop (List.mem_of_mem_take h)
  obtain ⟨i, hi, e⟩ := List.getElem_of_mem h2
  exact ⟨i, by simpa using hi, by rw [← e]; rfl⟩

set_option maxRecDepth 1000000 in
set_option maxHeartbeats 8000000 in
theorem rune_high (s : ByteArray) (hs1 : (1 : Int) < (s.size : Int)) (hs2 : (2 : Int) ≤ (s.size : Int)) (hlow : ∀ i (h : i < s.size), (s[i]'h).toNat < 128) (c : Nat) (hc : 128 ≤ c) (hc2 : c < 256) (w : World) :
    Calls Try.prog 54 #[.string s, .int .i32 c] w fun e w' => e = .returned (.int .i64 (-1)) ∧ ∃ n, w' = w.drewN n := by
  have h0 : (0 : Int) ≤ (c : Int) := by omega
  have h1 : ¬ (c : Int) < 128 := by omega
  have h2 : ¬ (c : Int) = 65533 := by omega
  obtain ⟨a, b, henc, hb⟩ := enc_two c hc hc2
  obtain ⟨rs, hrs⟩ : ∃ rs : ByteArray, rs = ⟨#[a, b]⟩ := ⟨_, rfl⟩
  have hr2 : rs.size = 2 := by rw [hrs]; rfl
  have hn1 : 1 < s.size := by omega
  have hlt1 : 1 < rs.size := by omega
  have hrb : rs[1]'hlt1 = b := by subst hrs; rfl
  have hne : ((((s[1]'hn1).toNat : Nat) : Int) != (((rs[1]'hlt1).toNat : Nat) : Int)) = true := by
    have h5 := hlow 1 hn1
    rw [hrb]
    have : ¬ (((s[1]'hn1).toNat : Nat) : Int) = ((b.toNat : Nat) : Int) := by omega
    simpa using this
  have HI : ∀ wx : World, Calls Try.prog 49 #[.string (s.extract 2 s.size), .int .u8 (((rs[1]'hlt1).toNat : Nat) : Int)] wx fun e w' => e = .returned (.int .i64 (-1)) ∧ w' = wx := by
    intro wx
    refine (idx49_any _ _ _).mono ?_
    rintro e w' ⟨rfl, rfl⟩
    refine ⟨?_, rfl⟩
    rw [idx_none]
    intro x hx e
    obtain ⟨i, hi, rfl⟩ := ext_mem s _ _ x hx
    have h5 := hlow i hi
    rw [hrb] at e
    rw [e] at h5
    simp at h5
    omega
  rw [← hrs] at henc
  have HH := hideR HI
  have hw2 : IntKind.i64.wrap 2 = 2 := by rfl
  have hw2' : wrap64 2 = 2 := by unfold wrap64; omega
  clear hrs hlow HI hrb hb hc
  go_enter Try.func54, Try.ntmps54
  go_wp2_with (go_at_call 56; refine (valid_any c hc2 _).mono ?_; rintro e w' ⟨rfl, rfl⟩)
  go_step3
  go_wp2
  refine wp_loop_rounds 1 ?_
  rw [rounds_succ]
  go_wp2
  go_step3
  go_wp2
  go_quiet (fail)
  go_wp2
  obtain ⟨w1, hw1⟩ : ∃ w1, w1 = w'.drewN nq := ⟨_, rfl⟩
  rw [← hw1]
  have HW := hideR hw1
  clear hw1
  go_quiet ((go_at_call 49; exact Calls.quiet_of_same (HH.out _)))
  go_wp2
  first
    | (simp only [Exit.noGoto, Exit.inBlock, Exit.then]; go_ret)
    | (change bodyPost Try.prog Try.f54 _ Exit.ret _ _; go_ret)
  refine ⟨rfl, ?_⟩
  rw [HW.out, World.drewN_drewN]
  exact ⟨_, rfl⟩

end Go.Proofs.Qxb6600554a

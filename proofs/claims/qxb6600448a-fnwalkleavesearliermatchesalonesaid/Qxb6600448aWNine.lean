/-
  SEAT b6600448a: WALKS 9: the law (6).
-/
import Derived.Test.Qxb6600448aWEight
namespace Go.Proofs.Qxb6600448a
open Go.RowKit
set_option linter.unusedVariables false

def LawP (w : World) (e : Ending) (w' : World) : Prop := e = .returned (.bool true) ∧ Below w.heap.size w w'

/-- A slice of ints, as the law's loops read it. -/
def IntsR (w : World) (p : Option Addr) (ps : List Int) : Prop := ∀ i x, ps[i]? = some x → ∃ b off, p = some ⟨b, off, none⟩ ∧ b < w.heap.size ∧ w.cell? ⟨b, off + i, none⟩ = some (.int .i64 x)

theorem IntsAt.r {w : World} {v : Value} {ps : List Int} (h : IntsAt w v ps) : ∃ p c, v = .slice p ps.length c ∧ IntsR w p ps := by
  rcases h with ⟨rfl, rfl⟩ | ⟨b, off, cap, rfl, hb, hc⟩
  · exact ⟨none, 0, rfl, fun i x h => by simp at h⟩
  · exact ⟨_, cap, rfl, fun i x h => ⟨b, off, rfl, hb, hc i x h⟩⟩

theorem IntsAt.below {w w' : World} {v : Value} {ps : List Int} (h : IntsAt w v ps) (hb : Below w.heap.size w w') : IntsAt w' v ps := by
  rcases h with h | ⟨b, off, cap, h1, h2, h3⟩
  · exact .inl h
  · exact .inr ⟨b, off, cap, h1, Nat.lt_of_lt_of_le h2 hb.size, fun i x hx => (hb.cell (by exact h2)).trans (h3 i x hx)⟩

theorem IntsR.below {w w' : World} {p : Option Addr} {ps : List Int} (h : IntsR w p ps) (hb : Below w.heap.size w w') : IntsR w' p ps := fun i x hx => by
  obtain ⟨b, off, h1, h2, h3⟩ := h i x hx
  exact ⟨b, off, h1, Nat.lt_of_lt_of_le h2 hb.size, (hb.cell (by exact h2)).trans h3⟩

theorem drewN_below {B : Nat} {w wr : World} (h : Below B w wr) (n : Nat) : Below B w (wr.drewN n) := ⟨h.os, h.tape, h.output, h.size, h.block⟩

theorem maxPath (P : Nat → List Step) : ∀ N : List Nat, ∃ D, ∀ x ∈ N, (P x).length ≤ D
  | [] => ⟨0, fun x h => by cases h⟩
  | y :: l => by
    obtain ⟨D, hD⟩ := maxPath P l
    refine ⟨D + (P y).length, fun x hx => ?_⟩
    rcases List.mem_cons.1 hx with rfl | hx
    · omega
    · have := hD x hx; omega

theorem pre_law (ps : List Int) (path : ByteArray) (ys : List Int) : (addAll ps.length path (ps.map fun i => (i, (⟨#[]⟩ : ByteArray))) ys).map (·.1) = ps ++ (addAll 0 path [] ys).map (·.1) := by
  have h := addAll_pre (ps.map fun i => (i, (⟨#[]⟩ : ByteArray))) path ys []
  rw [List.length_map, List.append_nil] at h
  rw [h, List.map_append, List.map_map]
  congr 1
  exact List.map_id ps

set_option maxRecDepth 100000 in
set_option maxHeartbeats 2000000 in
theorem law6_any (a : Option Addr) (cap : Nat) (xs : List Seg) (path : ByteArray) (pa : Option Addr) (pc : Nat) (ps : List Int) (w : World) (hs : SegsAt w a xs) (ha : a = none → xs = []) (hz : Sized xs) (hl : xs.length ≤ 9223372036854775807) (hp : path.size ≤ 9223372036854775807) (hpn : ps.length ≤ 9223372036854775807)
    (hv : IntsAt w (.slice pa ps.length pc) ps ∨ (ps = [] ∧ ∃ x c, Value.slice pa ps.length pc = .slice (some x) 0 c)) :
    Calls Try.prog 6 #[.slice a xs.length cap, .string path, .slice pa ps.length pc] w (LawP w) := by
  have HS := hideP hs
  have HA := hideP ha
  have HZ := hideP hz
  have HV := hideP hv
  clear hs ha hz hv
  go_enter Try.func6, Try.ntmps6
  go_wp2_with fail
  refine (zz21_any a cap xs path pa ps.length pc w HS.out HZ.out hl hp hpn).mono ?_
  rintro e w' ⟨b1, rfl, rfl⟩
  cases b1 with
  | false =>
    go_wp2
    go_ret
    exact ⟨rfl, Below.refl _ _⟩
  | true =>
    by_cases h1 : 1048576 < (path.size : Int)
    · go_wp2
      go_ret
      exact ⟨rfl, Below.refl _ _⟩
    by_cases h2 : 65536 < (ps.length : Int)
    · go_wp2
      go_ret
      exact ⟨rfl, Below.refl _ _⟩
    go_wp2_with fail
    refine (big15_any a cap xs _ _ HS.out HZ.out hl (by omega) (by omega)).mono ?_
    rintro e w' ⟨b2, rfl, rfl, hb2⟩
    cases b2 with
    | true =>
      go_wp2
      go_ret
      exact ⟨rfl, Below.refl _ _⟩
    | false =>
      obtain ⟨hxl, hxm⟩ := hb2 rfl
      go_wp2_with fail
      refine (clone16_any a cap xs _ HA.out hxl hxm HS.out).mono ?_
      rintro e w2 ⟨a2, c2, ys, rfl, hyl, hym, hys, hB2⟩
      rw [← hyl] at hxl
      clear hxm hyl HS HA HZ hb2 hl
      have HB2 := hideP hB2
      have HY := hideP hys
      have HYM := hideP hym
      clear hB2 hys hym
      go_wp2_with fail
      refine (clone22_any _ ps w2 (by omega) (by
        rcases HV.out with h | h
        · exact .inl (h.below HB2.out)
        · exact .inr h)).mono ?_
      rintro e w3 ⟨v3, rfl, hi3, hB3⟩
      have HI3 := hideP hi3
      have HB3 := hideP hB3
      clear hi3 hB3 HV
      go_wp2_with fail
      refine (tree_any a2 c2 ys w3 hxl HYM.out (HY.out.below HB3.out)).mono ?_
      rintro e w4 ⟨rb, N, P, O, rfl, hinv, hrb, hB4, hsz4⟩
      obtain ⟨D, hD⟩ := maxPath P N
      obtain ⟨zs, hzs, hW⟩ := walk_any hinv hxl hxl D hD (D + 1) rb path false (by omega) hrb (by omega)
      have hcl := cnt_le hinv (P rb)
      generalize cnt w4 N P (P rb) = bd at hzs hW hcl
      have HW := hideP hW
      have HB4 := hideP hB4
      have HI4 := hideP (HI3.out.below HB4.out)
      clear hinv hrb hD hW hB4 HI3 HY HYM
      go_wp2_with fail
      refine (zzwalk_of w4 ys.length rb bd path zs HW.out hxl (by omega) hzs w4 (Below.refl _ _) (.slice none 0 0) [] (.inl ⟨rfl, rfl⟩) (by simp)).mono ?_
      rintro e w5 ⟨v5, rfl, hr5, hB5⟩
      have HB5 := hideP hB5
      have HR5 : Hid (w5.ownsRow w4.heap.size 3 1 v5 ((addAll 0 path [] zs).map (·.1)).length (((addAll 0 path [] zs).map (·.1)).map (.int .i64))) := hr5
      have HI5 := hideP (HI4.out.below HB5.out)
      clear hB5 hr5 HI4
      go_wp2_with fail
      refine (zzwalk_of w4 ys.length rb bd path zs HW.out hxl (by omega) hzs w5 HB5.out v3 ps HI5.out (by omega)).mono ?_
      rintro e w6 ⟨v6, rfl, hr6, hB6⟩
      rw [pre_law] at hr6
      have hLl : ((addAll 0 path [] zs).map (·.1)).length ≤ 65536 := by rw [List.length_map, addAll_length]; simp; omega
      generalize (addAll 0 path [] zs).map (·.1) = L at hr6 HR5 hLl
      obtain ⟨p5, c5, rfl, r5⟩ := (intsAt_of_row rfl HR5.out).r
      obtain ⟨p6, c6, rfl, r6⟩ := (intsAt_of_row rfl hr6).r
      obtain ⟨p3, c3, rfl, r3⟩ := HI5.out.r
      have R5 := hideP (r5.below hB6)
      have R6 := hideP r6
      have R3 := hideP (r3.below hB6)
      have HB6 : Hid (Below w'.heap.size w' w6) := by
        have h2 := HB2.out
        have h3 := h2.trans (HB3.out.mono h2.size)
        have h4 := h3.trans (HB4.out.mono h3.size)
        have h5 := h4.trans (HB5.out.mono h4.size)
        exact h5.trans (hB6.mono h5.size)
      have hapl : (ps ++ L).length = ps.length + L.length := List.length_append
      rw [hapl]
      clear r5 r6 r3 hr6 hB6 HB2 HB3 HB4 HB5 HI5 HR5 HW hapl
      go_wp2
      go_loopw [10] (fun i wr => ∃ k : Nat, k ≤ ps.length ∧ i = .int .i64 k ∧ Below w6.heap.size w6 wr) (fun i _ => ps.length - (intOf i).toNat)
      case atStart => exact ⟨0, Nat.zero_le _, rfl, Below.refl _ _⟩
      case round =>
        obtain ⟨k, hk, rfl, hbr⟩ := hrel
        by_cases hlt : k < ps.length
        · obtain ⟨x, hx⟩ : ∃ x, ps[k]? = some x := ⟨ps[k], List.getElem?_eq_getElem hlt⟩
          obtain ⟨g3, o3, rfl, _, d3⟩ := R3.out.below hbr k x hx
          obtain ⟨g6, o6, rfl, _, d6⟩ := R6.out.below hbr k x (by rw [List.getElem?_append_left hlt]; exact hx)
          have hkk : (k : Int) < (ps.length : Int) := by omega
          have hk6 : (k : Int) < (ps.length : Int) + (L.length : Int) := by omega
          have HBR := hideP hbr
          clear hbr hx
          go_wp2
          go_quiet (fail)
          go_wp2
          go_roundw
          case rel => exact ⟨k + 1, by omega, by go_num, drewN_below HBR.out _⟩
          case measure => simp [intOf]; omega
        · have HBR := hideP hbr
          clear hbr
          go_wp2
          go_loopw [11] (fun i wr => ∃ k : Nat, k ≤ L.length ∧ i = .int .i64 k ∧ Below w6.heap.size w6 wr) (fun i _ => L.length - (intOf i).toNat)
          case atStart => exact ⟨0, Nat.zero_le _, rfl, HBR.out⟩
          case round =>
            obtain ⟨k, hk, rfl, hbr⟩ := hrel
            clear HBR
            by_cases hlt : k < L.length
            · obtain ⟨x, hx⟩ : ∃ x, L[k]? = some x := ⟨L[k], List.getElem?_eq_getElem hlt⟩
              obtain ⟨g5, o5, rfl, _, d5⟩ := R5.out.below hbr k x hx
              obtain ⟨g6, o6, rfl, _, d6⟩ := R6.out.below hbr (ps.length + k) x (by rw [List.getElem?_append_right (by omega), Nat.add_sub_cancel_left]; exact hx)
              have hkk : (k : Int) < (L.length : Int) := by omega
              have hk6 : (ps.length : Int) + (k : Int) < (ps.length : Int) + (L.length : Int) := by omega
              have HBR := hideP hbr
              clear hbr hx
              go_wp2
              go_quiet (fail)
              go_wp2
              go_roundw
              case rel => exact ⟨k + 1, by omega, by go_num, drewN_below HBR.out _⟩
              case measure => simp [intOf]; omega
            · go_wp2
              go_ret
              exact ⟨rfl, HB6.out.trans (hbr.mono HB6.out.size)⟩

end Go.Proofs.Qxb6600448a

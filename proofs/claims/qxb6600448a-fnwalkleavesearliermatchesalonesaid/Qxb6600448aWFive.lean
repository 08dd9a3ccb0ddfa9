/-
  SEAT b6600448a: WALKS 5: 'walk' (29).
-/
import Derived.Test.Qxb6600448aCount
namespace Go.Proofs.Qxb6600448a
open Go.RowKit
set_option linter.unusedVariables false
set_option linter.unusedSimpArgs false

def WkC (W0 : World) (n c : Nat) (rest : ByteArray) (done : Bool) (bd : Nat) (ys : List Int) : Prop :=
  ∀ (W : World) (lb sb tb frm : Nat) (seg : ByteArray), Below W0.heap.size W0 W → LkAt W lb sb tb frm seg n → ∀ (F : List M) (v : Value) (w : World), Below W.heap.size W w → w.ownsRow W.heap.size 65 3 v F.length (rowOf F) → frm ≤ F.length → F.length + bd ≤ 1048576 →
    Calls Try.prog 29 #[.pointer (some ⟨lb, 0, none⟩), v, .pointer (some ⟨c, 0, none⟩), .string rest, .bool done] w (AdP W (addAll frm seg F ys))

theorem below_base {W0 W w : World} (h0 : Below W0.heap.size W0 W) (h : Below W.heap.size W w) : Below W0.heap.size W0 w := h0.trans (h.mono h0.size)


set_option maxRecDepth 100000 in
set_option maxHeartbeats 1000000 in
/-- no segment is left. -/
theorem walk_done (W0 : World) (n : Nat) (N : List Nat) (P : Nat → List Step) (b : Nat) (mv : Option Nat) (lk : ByteArray → Option Addr) (p1 p2 : Option Addr) (v0 : Value) (E : List Int) (hV : View W0 n N P b mv lk p1 p2 v0 E) (hn : n ≤ 65536) (rest : ByteArray) (bd : Nat) (yd : List Int) (hE : E.length + bd ≤ 65536)
    (hD : (p2 = none ∧ yd = []) ∨ ∃ c, p2 = some ⟨c, 0, none⟩ ∧ WkC W0 n c ⟨#[]⟩ true bd yd) : WkC W0 n b rest true (E.length + bd) (E ++ yd) := by
  intro W lb sb tb frm seg h0 hL F v w hb hown hfrm hbd
  have HV := hideP hV
  have HL := hideP hL
  have H0 := hideP h0
  have HB := hideP hb
  have HO := hideP hown
  have HD := hideP hD
  have d2 := hV.c2 w (below_base h0 hb)
  have d3 := hV.c3 w (below_base h0 hb)
  clear hV hL h0 hb hown hD
  rcases HV.out.row with ⟨rfl, rfl⟩ | ⟨g, cp, rfl, hcell⟩
  · rcases HD.out with ⟨rfl, rfl⟩ | ⟨c, rfl, hC⟩
    · go_enter Try.func29, Try.ntmps29
      go_wp2
      refine wp_loop_rounds 1 ?_
      rw [rounds_succ]
      go_wp2
      go_ret
      exact ⟨_, rfl, HO.out, HB.out⟩
    · have HC := hideP hC
      clear hC
      go_enter Try.func29, Try.ntmps29
      go_wp2
      refine wp_loop_rounds 1 ?_
      rw [rounds_succ]
      go_wp2_with (go_at_call 29; refine (HC.out W lb sb tb frm seg H0.out HL.out F v w HB.out HO.out hfrm (by simpa using hbd)).mono ?_; rintro e w' ⟨v', rfl, k1, k2⟩)
      have HK1 := hideP k1
      have HK2 := hideP k2
      clear k1 k2
      go_wp2
      go_ret
      exact ⟨_, rfl, HK1.out, HK2.out⟩
  · have HCe := hideP hcell
    clear hcell
    rcases HD.out with ⟨rfl, rfl⟩ | ⟨c, rfl, hC⟩
    · go_enter Try.func29, Try.ntmps29
      go_wp2
      go_loopw [1, 12, 23] (fun fv _ jv wr => ∃ j : Nat, j ≤ E.length ∧ jv = .int .i64 j ∧ wr.ownsRow W.heap.size 65 3 fv (addAll frm seg F (E.take j)).length (rowOf (addAll frm seg F (E.take j))) ∧ Below W.heap.size W wr) (fun _ _ jv _ => E.length - (intOf jv).toNat)
      case atStart => exact ⟨0, Nat.zero_le _, rfl, HO.out, HB.out⟩
      case round =>
        obtain ⟨j, hj, rfl, hw1, hw2⟩ := hrel
        have HW1 := hideP hw1
        have HW2 := hideP hw2
        have q2 := HV.out.c2 wr (below_base H0.out hw2)
        clear hw1 hw2 d2 d3
        by_cases hjl : j < E.length
        · obtain ⟨x, hx⟩ : ∃ x, E[j]? = some x := ⟨E[j], List.getElem?_eq_getElem hjl⟩
          have q3 := HCe.out wr (below_base H0.out HW2.out) j x hx
          have hxr := HV.out.ends x (List.mem_of_getElem? hx)
          obtain ⟨xi, rfl⟩ : ∃ xi : Nat, x = xi := ⟨x.toNat, by omega⟩
          have hjj : (j : Int) < (E.length : Int) := by omega
          have hxi : xi < n := by omega
          have HX := hideP hx
          have hlen : (addAll frm seg F (E.take j)).length = F.length + j := by rw [addAll_length, List.length_take, Nat.min_eq_left hj]
          have HLN := hideP hlen
          clear hx hlen hxr
          go_wp2_with (go_at_call 31; refine (add_any W lb sb tb frm seg n HL.out (addAll frm seg F (E.take j)) _ xi _ HW2.out HW2.out.size HW1.out (by rw [HLN.out]; omega) hxi hn (by rw [HLN.out]; omega)).mono ?_; rintro e w' ⟨v', rfl, k1, k2⟩)
          have e1 : add1 frm (addAll frm seg F (E.take j)) ((xi : Int), seg) = addAll frm seg F (E.take (j + 1)) := by
            rw [List.take_add_one, HX.out, addAll_append]; rfl
          rw [e1] at k1
          have HK1 := hideP k1
          have HK2 := hideP k2
          clear k1 k2 e1
          go_wp2
          go_roundw
          case rel => exact ⟨j + 1, by omega, by go_num, HK1.out, HK2.out⟩
          case measure => simp [intOf]; omega
        · have hje : j = E.length := by omega
          subst hje
          have e1 : E.take E.length = E := List.take_length
          rw [e1] at HW1
          go_wp2
          go_ret
          refine ⟨_, rfl, ?_, HW2.out⟩
          rw [List.append_nil]
          exact HW1.out
    · have HC := hideP hC
      clear hC
      go_enter Try.func29, Try.ntmps29
      go_wp2
      go_loopw [1, 12, 23] (fun fv _ jv wr => ∃ j : Nat, j ≤ E.length ∧ jv = .int .i64 j ∧ wr.ownsRow W.heap.size 65 3 fv (addAll frm seg F (E.take j)).length (rowOf (addAll frm seg F (E.take j))) ∧ Below W.heap.size W wr) (fun _ _ jv _ => E.length - (intOf jv).toNat)
      case atStart => exact ⟨0, Nat.zero_le _, rfl, HO.out, HB.out⟩
      case round =>
        obtain ⟨j, hj, rfl, hw1, hw2⟩ := hrel
        have HW1 := hideP hw1
        have HW2 := hideP hw2
        have q2 := HV.out.c2 wr (below_base H0.out hw2)
        clear hw1 hw2 d2 d3
        by_cases hjl : j < E.length
        · obtain ⟨x, hx⟩ : ∃ x, E[j]? = some x := ⟨E[j], List.getElem?_eq_getElem hjl⟩
          have q3 := HCe.out wr (below_base H0.out HW2.out) j x hx
          have hxr := HV.out.ends x (List.mem_of_getElem? hx)
          obtain ⟨xi, rfl⟩ : ∃ xi : Nat, x = xi := ⟨x.toNat, by omega⟩
          have hjj : (j : Int) < (E.length : Int) := by omega
          have hxi : xi < n := by omega
          have HX := hideP hx
          have hlen : (addAll frm seg F (E.take j)).length = F.length + j := by rw [addAll_length, List.length_take, Nat.min_eq_left hj]
          have HLN := hideP hlen
          clear hx hlen hxr
          go_wp2_with (go_at_call 31; refine (add_any W lb sb tb frm seg n HL.out (addAll frm seg F (E.take j)) _ xi _ HW2.out HW2.out.size HW1.out (by rw [HLN.out]; omega) hxi hn (by rw [HLN.out]; omega)).mono ?_; rintro e w' ⟨v', rfl, k1, k2⟩)
          have e1 : add1 frm (addAll frm seg F (E.take j)) ((xi : Int), seg) = addAll frm seg F (E.take (j + 1)) := by
            rw [List.take_add_one, HX.out, addAll_append]; rfl
          rw [e1] at k1
          have HK1 := hideP k1
          have HK2 := hideP k2
          clear k1 k2 e1
          go_wp2
          go_roundw
          case rel => exact ⟨j + 1, by omega, by go_num, HK1.out, HK2.out⟩
          case measure => simp [intOf]; omega
        · have hje : j = E.length := by omega
          subst hje
          have e1 : E.take E.length = E := List.take_length
          rw [e1] at HW1
          go_wp2_with (go_at_call 29; refine (HC.out W lb sb tb frm seg H0.out HL.out (addAll frm seg F E) _ _ HW2.out HW1.out (by rw [addAll_length]; omega) (by rw [addAll_length]; omega)).mono ?_; rintro e w' ⟨v', rfl, k1, k2⟩)
          rw [← addAll_append] at k1
          have HK1 := hideP k1
          have HK2 := hideP k2
          clear k1 k2
          go_wp2
          go_ret
          exact ⟨_, rfl, HK1.out, HK2.out⟩


set_option maxRecDepth 100000 in
set_option maxHeartbeats 2000000 in
/-- a segment is left. -/
theorem walk_more (W0 : World) (n : Nat) (N : List Nat) (P : Nat → List Step) (b : Nat) (mv : Option Nat) (lk : ByteArray → Option Addr) (p1 p2 : Option Addr) (v0 : Value) (E : List Int) (hV : View W0 n N P b mv lk p1 p2 v0 E) (hn : n ≤ 65536) (rest sg af : ByteArray) (mo : Bool)
    (hcut : ∀ w, Calls Try.prog 32 #[.string rest, .string ⟨#[47]⟩] w fun e w' => e = .returned (.tuple #[.string sg, .string af, .bool mo]) ∧ ∃ n, w' = w.drewN n)
    (b1 b2 b3 : Nat) (y1 y2 y3 : List Int)
    (hC1 : (lk sg = none ∧ y1 = []) ∨ ∃ c, lk sg = some ⟨c, 0, none⟩ ∧ WkC W0 n c af (!mo) b1 y1)
    (hC2 : (p1 = none ∧ y2 = []) ∨ (sg.toList.isEmpty = true ∧ (∃ a, p1 = some a) ∧ y2 = []) ∨ (sg.toList.isEmpty = false ∧ ∃ c, p1 = some ⟨c, 0, none⟩ ∧ WkC W0 n c af (!mo) b2 y2))
    (hC3 : (p2 = none ∧ y3 = []) ∨ ∃ c, p2 = some ⟨c, 0, none⟩ ∧ WkC W0 n c ⟨#[]⟩ true b3 y3)
    (h1 : y1.length ≤ b1) (h2 : y2.length ≤ b2) (h3 : y3.length ≤ b3) : WkC W0 n b rest false (b1 + b2 + b3) (y1 ++ (y2 ++ y3)) := by
  intro W lb sb tb frm seg h0 hL F v w hb hown hfrm hbd
  have HV := hideP hV
  have HL := hideP hL
  have H0 := hideP h0
  have HB := hideP hb
  have HO := hideP hown
  have HCut := hideP hcut
  have HH1 := hideP hC1
  have HH2 := hideP hC2
  have HH3 := hideP hC3
  clear hV hL h0 hb hown hcut hC1 hC2 hC3
  go_enter Try.func29, Try.ntmps29
  go_wp2_with fail
  refine (HCut.out w).mono ?_
  rintro e wc ⟨rfl, nq, rfl⟩
  have HBd : Hid (Below W.heap.size W (w.drewN nq)) := by
    have := HB.out
    exact ⟨this.os, this.tape, this.output, this.size, this.block⟩
  have HOd : Hid ((w.drewN nq).ownsRow W.heap.size 65 3 v F.length (rowOf F)) := HO.out
  clear HB HO
  generalize w.drewN nq = wd at HBd HOd ⊢
  have hlk := HV.out.look wd (below_base H0.out HBd.out) sg
  have d0 := HV.out.c0 wd (below_base H0.out HBd.out)
  have d1 := HV.out.c1 wd (below_base H0.out HBd.out)
  have d2 := HV.out.c2 wd (below_base H0.out HBd.out)
  have HLk := hideP hlk
  rcases HH1.out with ⟨g1, rfl⟩ | ⟨c1, g1, f1⟩
  · rw [g1] at hlk
    clear g1
    rcases HH3.out with ⟨rfl, rfl⟩ | ⟨c3, rfl, f3⟩
    · rcases HH2.out with ⟨rfl, rfl⟩ | ⟨gs, ⟨a2, rfl⟩, rfl⟩ | ⟨gs, c2, rfl, f2⟩
      · clear HH1 HH2 HH3 HLk
        go_wp2
        go_ret
        refine ⟨_, rfl, ?_, HBd.out⟩
        simp only [List.append_nil, List.nil_append, addAll_append]
        exact HOd.out
      · clear HH1 HH2 HH3 HLk
        go_wp2
        go_ret
        refine ⟨_, rfl, ?_, HBd.out⟩
        simp only [List.append_nil, List.nil_append, addAll_append]
        exact HOd.out
      · clear HH1 HH2 HH3 HLk
        have HF2 := hideP f2
        clear f2
        go_wp2_with fail
        refine (HF2.out W lb sb tb frm seg H0.out HL.out (F) _ _ HBd.out HOd.out (by (try simp only [addAll_length]); omega) (by (try simp only [addAll_length]); omega)).mono ?_; rintro e w0 ⟨v0, rfl, k1, k2⟩; have q10 := HV.out.c1 w0 (below_base H0.out k2); have q20 := HV.out.c2 w0 (below_base H0.out k2); have HO0 := hideP k1; have HB0 := hideP k2; clear k1 k2
        go_wp2
        go_ret
        refine ⟨_, rfl, ?_, HB0.out⟩
        simp only [List.append_nil, List.nil_append, addAll_append]
        exact HO0.out
    · rcases HH2.out with ⟨rfl, rfl⟩ | ⟨gs, ⟨a2, rfl⟩, rfl⟩ | ⟨gs, c2, rfl, f2⟩
      · clear HH1 HH2 HH3 HLk
        have HF3 := hideP f3
        clear f3
        go_wp2_with fail
        refine (HF3.out W lb sb tb frm seg H0.out HL.out (F) _ _ HBd.out HOd.out (by (try simp only [addAll_length]); omega) (by (try simp only [addAll_length]); omega)).mono ?_; rintro e w0 ⟨v0, rfl, k1, k2⟩; have q10 := HV.out.c1 w0 (below_base H0.out k2); have q20 := HV.out.c2 w0 (below_base H0.out k2); have HO0 := hideP k1; have HB0 := hideP k2; clear k1 k2
        go_wp2
        go_ret
        refine ⟨_, rfl, ?_, HB0.out⟩
        simp only [List.append_nil, List.nil_append, addAll_append]
        exact HO0.out
      · clear HH1 HH2 HH3 HLk
        have HF3 := hideP f3
        clear f3
        go_wp2_with fail
        refine (HF3.out W lb sb tb frm seg H0.out HL.out (F) _ _ HBd.out HOd.out (by (try simp only [addAll_length]); omega) (by (try simp only [addAll_length]); omega)).mono ?_; rintro e w0 ⟨v0, rfl, k1, k2⟩; have q10 := HV.out.c1 w0 (below_base H0.out k2); have q20 := HV.out.c2 w0 (below_base H0.out k2); have HO0 := hideP k1; have HB0 := hideP k2; clear k1 k2
        go_wp2
        go_ret
        refine ⟨_, rfl, ?_, HB0.out⟩
        simp only [List.append_nil, List.nil_append, addAll_append]
        exact HO0.out
      · clear HH1 HH2 HH3 HLk
        have HF2 := hideP f2
        clear f2
        have HF3 := hideP f3
        clear f3
        go_wp2_with fail
        refine (HF2.out W lb sb tb frm seg H0.out HL.out (F) _ _ HBd.out HOd.out (by (try simp only [addAll_length]); omega) (by (try simp only [addAll_length]); omega)).mono ?_; rintro e w0 ⟨v0, rfl, k1, k2⟩; have q10 := HV.out.c1 w0 (below_base H0.out k2); have q20 := HV.out.c2 w0 (below_base H0.out k2); have HO0 := hideP k1; have HB0 := hideP k2; clear k1 k2
        go_wp2_with fail
        refine (HF3.out W lb sb tb frm seg H0.out HL.out (addAll frm seg (F) y2) _ _ HB0.out HO0.out (by (try simp only [addAll_length]); omega) (by (try simp only [addAll_length]); omega)).mono ?_; rintro e w1 ⟨v1, rfl, k1, k2⟩; have q11 := HV.out.c1 w1 (below_base H0.out k2); have q21 := HV.out.c2 w1 (below_base H0.out k2); have HO1 := hideP k1; have HB1 := hideP k2; clear k1 k2
        go_wp2
        go_ret
        refine ⟨_, rfl, ?_, HB1.out⟩
        simp only [List.append_nil, List.nil_append, addAll_append]
        exact HO1.out
  · rw [g1] at hlk
    clear g1
    rcases HH3.out with ⟨rfl, rfl⟩ | ⟨c3, rfl, f3⟩
    · rcases HH2.out with ⟨rfl, rfl⟩ | ⟨gs, ⟨a2, rfl⟩, rfl⟩ | ⟨gs, c2, rfl, f2⟩
      · clear HH1 HH2 HH3 HLk
        have HF1 := hideP f1
        clear f1
        go_wp2_with fail
        refine (HF1.out W lb sb tb frm seg H0.out HL.out (F) _ _ HBd.out HOd.out (by (try simp only [addAll_length]); omega) (by (try simp only [addAll_length]); omega)).mono ?_; rintro e w0 ⟨v0, rfl, k1, k2⟩; have q10 := HV.out.c1 w0 (below_base H0.out k2); have q20 := HV.out.c2 w0 (below_base H0.out k2); have HO0 := hideP k1; have HB0 := hideP k2; clear k1 k2
        go_wp2
        go_ret
        refine ⟨_, rfl, ?_, HB0.out⟩
        simp only [List.append_nil, List.nil_append, addAll_append]
        exact HO0.out
      · clear HH1 HH2 HH3 HLk
        have HF1 := hideP f1
        clear f1
        go_wp2_with fail
        refine (HF1.out W lb sb tb frm seg H0.out HL.out (F) _ _ HBd.out HOd.out (by (try simp only [addAll_length]); omega) (by (try simp only [addAll_length]); omega)).mono ?_; rintro e w0 ⟨v0, rfl, k1, k2⟩; have q10 := HV.out.c1 w0 (below_base H0.out k2); have q20 := HV.out.c2 w0 (below_base H0.out k2); have HO0 := hideP k1; have HB0 := hideP k2; clear k1 k2
        go_wp2
        go_ret
        refine ⟨_, rfl, ?_, HB0.out⟩
        simp only [List.append_nil, List.nil_append, addAll_append]
        exact HO0.out
      · clear HH1 HH2 HH3 HLk
        have HF1 := hideP f1
        clear f1
        have HF2 := hideP f2
        clear f2
        go_wp2_with fail
        refine (HF1.out W lb sb tb frm seg H0.out HL.out (F) _ _ HBd.out HOd.out (by (try simp only [addAll_length]); omega) (by (try simp only [addAll_length]); omega)).mono ?_; rintro e w0 ⟨v0, rfl, k1, k2⟩; have q10 := HV.out.c1 w0 (below_base H0.out k2); have q20 := HV.out.c2 w0 (below_base H0.out k2); have HO0 := hideP k1; have HB0 := hideP k2; clear k1 k2
        go_wp2_with fail
        refine (HF2.out W lb sb tb frm seg H0.out HL.out (addAll frm seg (F) y1) _ _ HB0.out HO0.out (by (try simp only [addAll_length]); omega) (by (try simp only [addAll_length]); omega)).mono ?_; rintro e w1 ⟨v1, rfl, k1, k2⟩; have q11 := HV.out.c1 w1 (below_base H0.out k2); have q21 := HV.out.c2 w1 (below_base H0.out k2); have HO1 := hideP k1; have HB1 := hideP k2; clear k1 k2
        go_wp2
        go_ret
        refine ⟨_, rfl, ?_, HB1.out⟩
        simp only [List.append_nil, List.nil_append, addAll_append]
        exact HO1.out
    · rcases HH2.out with ⟨rfl, rfl⟩ | ⟨gs, ⟨a2, rfl⟩, rfl⟩ | ⟨gs, c2, rfl, f2⟩
      · clear HH1 HH2 HH3 HLk
        have HF1 := hideP f1
        clear f1
        have HF3 := hideP f3
        clear f3
        go_wp2_with fail
        refine (HF1.out W lb sb tb frm seg H0.out HL.out (F) _ _ HBd.out HOd.out (by (try simp only [addAll_length]); omega) (by (try simp only [addAll_length]); omega)).mono ?_; rintro e w0 ⟨v0, rfl, k1, k2⟩; have q10 := HV.out.c1 w0 (below_base H0.out k2); have q20 := HV.out.c2 w0 (below_base H0.out k2); have HO0 := hideP k1; have HB0 := hideP k2; clear k1 k2
        go_wp2_with fail
        refine (HF3.out W lb sb tb frm seg H0.out HL.out (addAll frm seg (F) y1) _ _ HB0.out HO0.out (by (try simp only [addAll_length]); omega) (by (try simp only [addAll_length]); omega)).mono ?_; rintro e w1 ⟨v1, rfl, k1, k2⟩; have q11 := HV.out.c1 w1 (below_base H0.out k2); have q21 := HV.out.c2 w1 (below_base H0.out k2); have HO1 := hideP k1; have HB1 := hideP k2; clear k1 k2
        go_wp2
        go_ret
        refine ⟨_, rfl, ?_, HB1.out⟩
        simp only [List.append_nil, List.nil_append, addAll_append]
        exact HO1.out
      · clear HH1 HH2 HH3 HLk
        have HF1 := hideP f1
        clear f1
        have HF3 := hideP f3
        clear f3
        go_wp2_with fail
        refine (HF1.out W lb sb tb frm seg H0.out HL.out (F) _ _ HBd.out HOd.out (by (try simp only [addAll_length]); omega) (by (try simp only [addAll_length]); omega)).mono ?_; rintro e w0 ⟨v0, rfl, k1, k2⟩; have q10 := HV.out.c1 w0 (below_base H0.out k2); have q20 := HV.out.c2 w0 (below_base H0.out k2); have HO0 := hideP k1; have HB0 := hideP k2; clear k1 k2
        go_wp2_with fail
        refine (HF3.out W lb sb tb frm seg H0.out HL.out (addAll frm seg (F) y1) _ _ HB0.out HO0.out (by (try simp only [addAll_length]); omega) (by (try simp only [addAll_length]); omega)).mono ?_; rintro e w1 ⟨v1, rfl, k1, k2⟩; have q11 := HV.out.c1 w1 (below_base H0.out k2); have q21 := HV.out.c2 w1 (below_base H0.out k2); have HO1 := hideP k1; have HB1 := hideP k2; clear k1 k2
        go_wp2
        go_ret
        refine ⟨_, rfl, ?_, HB1.out⟩
        simp only [List.append_nil, List.nil_append, addAll_append]
        exact HO1.out
      · clear HH1 HH2 HH3 HLk
        have HF1 := hideP f1
        clear f1
        have HF2 := hideP f2
        clear f2
        have HF3 := hideP f3
        clear f3
        go_wp2_with fail
        refine (HF1.out W lb sb tb frm seg H0.out HL.out (F) _ _ HBd.out HOd.out (by (try simp only [addAll_length]); omega) (by (try simp only [addAll_length]); omega)).mono ?_; rintro e w0 ⟨v0, rfl, k1, k2⟩; have q10 := HV.out.c1 w0 (below_base H0.out k2); have q20 := HV.out.c2 w0 (below_base H0.out k2); have HO0 := hideP k1; have HB0 := hideP k2; clear k1 k2
        go_wp2_with fail
        refine (HF2.out W lb sb tb frm seg H0.out HL.out (addAll frm seg (F) y1) _ _ HB0.out HO0.out (by (try simp only [addAll_length]); omega) (by (try simp only [addAll_length]); omega)).mono ?_; rintro e w1 ⟨v1, rfl, k1, k2⟩; have q11 := HV.out.c1 w1 (below_base H0.out k2); have q21 := HV.out.c2 w1 (below_base H0.out k2); have HO1 := hideP k1; have HB1 := hideP k2; clear k1 k2
        go_wp2_with fail
        refine (HF3.out W lb sb tb frm seg H0.out HL.out (addAll frm seg (addAll frm seg (F) y1) y2) _ _ HB1.out HO1.out (by (try simp only [addAll_length]); omega) (by (try simp only [addAll_length]); omega)).mono ?_; rintro e w2 ⟨v2, rfl, k1, k2⟩; have q12 := HV.out.c1 w2 (below_base H0.out k2); have q22 := HV.out.c2 w2 (below_base H0.out k2); have HO2 := hideP k1; have HB2 := hideP k2; clear k1 k2
        go_wp2
        go_ret
        refine ⟨_, rfl, ?_, HB2.out⟩
        simp only [List.append_nil, List.nil_append, addAll_append]
        exact HO2.out

theorem WkC.mono {W0 : World} {n c : Nat} {rest : ByteArray} {done : Bool} {bd bd' : Nat} {ys : List Int} (h : WkC W0 n c rest done bd ys) (hb : bd ≤ bd') : WkC W0 n c rest done bd' ys :=
  fun W lb sb tb frm seg h0 hL F v w hB hO hf hl => h W lb sb tb frm seg h0 hL F v w hB hO hf (by omega)

theorem walk_any {B n k : Nat} {W0 : World} {N : List Nat} {P : Nat → List Step} {O : Nat → Nat} (hI : Inv B n k W0 N P O) (hn : n ≤ 65536) (hk : k ≤ 65536) (D : Nat) (hD : ∀ x ∈ N, (P x).length ≤ D) :
    ∀ (f b : Nat) (rest : ByteArray) (done : Bool), rest.size ≤ 1048576 → b ∈ N → D < (P b).length + f → ∃ ys, ys.length ≤ cnt W0 N P (P b) ∧ WkC W0 n b rest done (cnt W0 N P (P b)) ys
  | 0, b, rest, done, hr, hb, hf => absurd (hD b hb) (by omega)
  | f + 1, b, rest, done, hr, hb, hf => by
    obtain ⟨mv, lk, p1, p2, v, E, hV⟩ := view_of hI hb
    have opt : ∀ (p : Option Addr) (s : Step) (r : ByteArray) (dn : Bool), r.size ≤ 1048576 → Edge N P (P b ++ [s]) p → ∃ ys, ys.length ≤ cnt W0 N P (P b ++ [s]) ∧ ((p = none ∧ ys = []) ∨ ∃ c, p = some ⟨c, 0, none⟩ ∧ WkC W0 n c r dn (cnt W0 N P (P b ++ [s])) ys) := by
      intro p s r dn hr2 hE
      cases p with
      | none => exact ⟨[], Nat.zero_le _, .inl ⟨rfl, rfl⟩⟩
      | some a =>
        obtain ⟨c, hc, rfl, hPc⟩ := hE a rfl
        obtain ⟨ys, h1, h2⟩ := walk_any hI hn hk D hD f c r dn hr2 hc (by rw [hPc]; simp; omega)
        rw [hPc] at h1 h2
        exact ⟨ys, h1, .inr ⟨c, rfl, h2⟩⟩
    obtain ⟨y3, hy3, hC3⟩ := opt p2 (2, []) ⟨#[]⟩ true (Nat.zero_le _) hV.deep
    have hsplit := fun s : ByteArray => cnt_split W0 N P hb (s1 := (0, s.data.toList)) (s2 := (1, [])) (s3 := (2, [])) (by simp) (by simp) (by simp)
    have hle := cnt_le hI (P b)
    cases done with
    | true =>
      have hs := hsplit ⟨#[]⟩
      rw [hV.el] at hs
      have h := walk_done W0 n N P b mv lk p1 p2 v E hV hn rest _ y3 (by omega) hC3
      exact ⟨E ++ y3, by rw [List.length_append]; omega, h.mono (by omega)⟩
    | false =>
      obtain ⟨sg, af, mo, haf, hcut⟩ := cut_any rest hr
      have hs := hsplit sg
      rw [hV.el] at hs
      obtain ⟨y1, hy1, hC1⟩ := opt (lk sg) (0, sg.data.toList) af (!mo) (Nat.le_trans haf hr) (hV.lits sg)
      obtain ⟨y2, hy2, hC2⟩ := opt p1 (1, []) af (!mo) (Nat.le_trans haf hr) hV.wild
      have hC2' : ∃ y2, y2.length ≤ cnt W0 N P (P b ++ [(1, [])]) ∧ ((p1 = none ∧ y2 = []) ∨ (sg.toList.isEmpty = true ∧ (∃ a, p1 = some a) ∧ y2 = []) ∨ (sg.toList.isEmpty = false ∧ ∃ c, p1 = some ⟨c, 0, none⟩ ∧ WkC W0 n c af (!mo) (cnt W0 N P (P b ++ [(1, [])])) y2)) := by
        rcases hC2 with h | ⟨c, h1, h2⟩
        · exact ⟨y2, hy2, .inl h⟩
        · cases he : sg.toList.isEmpty with
          | true => exact ⟨[], Nat.zero_le _, .inr (.inl ⟨rfl, ⟨_, h1⟩, rfl⟩)⟩
          | false => exact ⟨y2, hy2, .inr (.inr ⟨rfl, c, h1, h2⟩)⟩
      obtain ⟨y2, hy2, hC2⟩ := hC2'
      have h := walk_more W0 n N P b mv lk p1 p2 v E hV hn rest sg af mo hcut _ _ _ y1 y2 y3 hC1 hC2 hC3 hy1 hy2 hy3
      exact ⟨y1 ++ (y2 ++ y3), by rw [List.length_append, List.length_append]; omega, h.mono (by omega)⟩

end Go.Proofs.Qxb6600448a

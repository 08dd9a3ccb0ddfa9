/-
  SEAT b6600062a: WALKS 4: 'quotedSize' (36), 'ZZQuotedSize' (30).
-/
import Derived.Test.Qxb6600062aWThree
import Derived.Test.Qxb6600062aPlain
import Derived.Lib.Bytealg
import Derived.BigQuiet
import Derived.Deep.QuietTactic
namespace Go.Proofs.Qxb6600062a
open Go.RowKit

set_option maxHeartbeats 400000 in
theorem idx_any (s : ByteArray) (c : Int) (w : World) : Calls Try.prog 43 #[.string s, .int .u8 c] w fun e w' => e = .returned (.int .i64 (Lib.indexByte s.data.toList c.toNat.toUInt8)) ∧ w' = w := by
  go_enter Try.func43, Try.ntmps43
  go_wp2
  rw [run_callFunc_extern Try.func49 (by kernel_rfl) (by kernel_rfl) (by kernel_rfl) (e := Extern.BytealgIndexByte.indexByte) (by kernel_rfl), Lib.run_indexByteString]
  simp only [Result.andThen]
  rw [Oper.upon_value]
  go_wp2
  go_ret
  exact ⟨rfl, rfl⟩

/-- The outer loop's measure: pieces left, and one where 'after' is not empty. -/
def msr (af p : Value) : Nat := (match p with | .slice _ n _ => n | _ => 0) + (match af with | .string s => min 1 s.size | _ => 0)
theorem msr_eq (s : ByteArray) (a : Option Addr) (n c : Nat) : msr (.string s) (.slice a n c) = n + min 1 s.size := rfl

/-- What the rest of the statement holds: af, then the pieces from the k-th on. -/
def restFrom (af : ByteArray) (ss : List ByteArray) (k : Nat) : List UInt8 := af.data.toList ++ (ss.drop k).flatMap (·.data.toList)

def QP (R : Int) (w : World) (e : Ending) (w' : World) : Prop := e = .returned (.int .i64 R) ∧ Below w.heap.size w w'
theorem QP.mk {R x : Int} {w w' : World} (h : x = R) (hb : Below w.heap.size w w') : QP R w (.returned (.int .i64 x)) w' := ⟨by rw [h], hb⟩

/-- The outer loop's relation. -/
def ORel (q : UInt8) (R : Int) (ss : List ByteArray) (w : World) (sz cl nxv afv pv : Value) (wr : World) : Prop :=
  ∃ (n : Nat) (c : Bool) (nx af : ByteArray) (k : Nat) (ao : Option Addr) (cp : Nat), sz = .int .i64 n ∧ cl = .bool c ∧ nxv = .string nx ∧ afv = .string af ∧ pv = .slice ao (ss.length - k) cp ∧
    k ≤ ss.length ∧ ss.length - k ≤ cp ∧ cp ≤ maxLen ∧ StrSl w ao (ss.drop k) ∧ Below w.heap.size w wr ∧ Plain.scan q (nx.data.toList ++ restFrom af ss k) c n = R ∧ n + nx.size + (restFrom af ss k).length ≤ 1048577

theorem restFrom_start (s : ByteArray) (i : Nat) (after : ByteArray) (ss : List ByteArray) (t : Nat) (hi : i < s.size) :
    restTo s i after ss t (ss.length - t) = s[i] :: ((s.extract (i + 1) s.size).data.toList ++ restFrom after ss t) := by
  unfold restTo restFrom
  have e1 : (s.extract (i + 1) s.size).data.toList = s.data.toList.drop (i + 1) := by
    rw [Lib.extract_data, List.take_of_length_le]; rw [List.length_drop, ← Lib.size_eq]; exact Nat.le_refl _
  have e2 : s.data.toList.drop i = s[i] :: s.data.toList.drop (i + 1) := by
    rw [List.drop_eq_getElem_cons (by rw [size_toList]; exact hi)]; rfl
  have e3 : (ss.drop t).take (ss.length - t) = ss.drop t := List.take_of_length_le (by simp)
  rw [e1, e2, e3]
  simp

theorem strSl_drop {w : World} {b off : Nat} {ss : List ByteArray} (hb : b < w.heap.size) (hc : ∀ i, i < ss.length → w.cell? ⟨b, off + i, none⟩ = some (.string (ss.getD i ByteArray.empty))) (t : Nat) :
    StrSl w (some ⟨b, off + t, none⟩) (ss.drop t) :=
  .inr ⟨b, off + t, rfl, hb, fun i hi => by
    have := hc (t + i) (by simp at hi; omega)
    rw [Nat.add_assoc, this]
    simp [List.getD_eq_getElem?_getD]⟩

theorem strSl_end {w : World} {ss : List ByteArray} {ao : Option Addr} : StrSl w ao (ss.drop ss.length) := .inl (by simp)

theorem ORel.ofAfter {q : UInt8} {R : Int} {ss : List ByteArray} {w wr : World} {z : Int} {m k : Nat} {d : Bool} {af : ByteArray} {ao : Option Addr} {cp : Nat} {rest : List UInt8} (hz : z = (m : Int))
    (hk : k ≤ ss.length) (hkc : ss.length - k ≤ cp) (hcp : cp ≤ maxLen) (hsl : StrSl w ao (ss.drop k)) (hb : Below w.heap.size w wr) (hr : restFrom af ss k = rest) (hs : Plain.scan q rest d m = R) (hbd : m + rest.length ≤ 1048577) :
    ORel q R ss w (.int .i64 z) (.bool d) (.string af) (.string ⟨#[]⟩) (.slice ao (ss.length - k) cp) wr := by
  subst hz
  refine ⟨m, d, af, ⟨#[]⟩, k, ao, cp, rfl, rfl, rfl, rfl, rfl, hk, hkc, hcp, hsl, hb, ?_, ?_⟩
  · rw [← hs, ← hr]; simp [restFrom]
  · rw [← hr] at hbd
    simp [restFrom] at hbd ⊢
    omega

theorem ORel.ofPiece {q : UInt8} {R : Int} {ss : List ByteArray} {w wr : World} {z : Int} {m k n : Nat} {d : Bool} {af x : ByteArray} {ao : Option Addr} {cp : Nat} {rest : List UInt8} (hz : z = (m : Int)) (hx : x = ss.getD k ByteArray.empty) (haf : af.size = 0)
    (hk : k < ss.length) (hn : n = ss.length - (k + 1)) (hkc : n ≤ cp) (hcp : cp ≤ maxLen) (hsl : StrSl w ao (ss.drop (k + 1))) (hb : Below w.heap.size w wr) (hr : restFrom af ss k = rest) (hs : Plain.scan q rest d m = R) (hbd : m + rest.length ≤ 1048577) :
    ORel q R ss w (.int .i64 z) (.bool d) (.string x) (.string af) (.slice ao n cp) wr := by
  subst hz hn
  have h0 : af.data.toList = [] := List.eq_nil_of_length_eq_zero (by rw [size_toList]; exact haf)
  have hd : ss.drop k = x :: ss.drop (k + 1) := by
    rw [List.drop_eq_getElem_cons hk, hx, List.getD_eq_getElem?_getD, List.getElem?_eq_getElem hk]; rfl
  have e : restFrom af ss k = x.data.toList ++ restFrom af ss (k + 1) := by simp [restFrom, h0, hd]
  refine ⟨m, d, x, af, k + 1, ao, cp, rfl, rfl, rfl, rfl, rfl, hk, hkc, hcp, hsl, hb, ?_, ?_⟩
  · rw [← hs, ← hr, e]
  · rw [← hr, e] at hbd
    simp at hbd ⊢
    omega

theorem rest_end {ss : List ByteArray} {k : Nat} {af : ByteArray} (haf : af.size = 0) (hk : ss.length ≤ k) : restFrom af ss k = [] := by
  have h0 : af.data.toList = [] := List.eq_nil_of_length_eq_zero (by rw [size_toList]; exact haf)
  simp [restFrom, h0, List.drop_eq_nil_of_le hk]

theorem isEmpty_of_size (af : ByteArray) : af.toList.isEmpty = (af.size == 0) := by
  rw [ByteArray.toList_eq, ← size_toList]
  cases af.data.toList <;> simp

set_option maxHeartbeats 4000000 in
theorem quoted_any (s : ByteArray) (i : Nat) (after : ByteArray) (a : Option Addr) (cap : Nat) (ss : List ByteArray) (t : Nat) (g : Nat) (w : World)
    (hi : i < s.size) (ht : t ≤ ss.length) (hcap : ss.length ≤ cap) (hcm : cap ≤ maxLen) (htot : s.size + after.size + 16 * ss.length + sumSz ss ≤ 1048576) (hc : StrSl w a ss)
    (c1 : w.cell? ⟨g, 1, none⟩ = some (.slice a ss.length cap)) (c2 : w.cell? ⟨g, 2, none⟩ = some (.string s)) (c5 : w.cell? ⟨g, 5, none⟩ = some (.string after)) (c6 : w.cell? ⟨g, 6, none⟩ = some (.int .i64 t)) :
    Calls Try.prog 36 #[.pointer (some ⟨g, 0, none⟩), .int .i64 i] w (QP (Plain.scan s[i] ((s.extract (i + 1) s.size).data.toList ++ restFrom after ss t) false 1) w) := by
  have hB1 : 1 + (s.extract (i + 1) s.size).size + (restFrom after ss t).length ≤ 1048577 := by
    have h1 := restTo_len s i after ss t (ss.length - t)
    rw [restFrom_start s i after ss t hi] at h1
    simp at h1 ⊢
    omega
  obtain ⟨q, hq⟩ : ∃ q, s[i] = q := ⟨_, rfl⟩
  obtain ⟨R, hR⟩ : ∃ R, Plain.scan s[i] ((s.extract (i + 1) s.size).data.toList ++ restFrom after ss t) false 1 = R := ⟨_, rfl⟩
  rw [hR]
  have HB1 := hideP hB1
  have HR : Hid (Plain.scan q ((s.extract (i + 1) s.size).data.toList ++ restFrom after ss t) false 1 = R) := by rw [hq] at hR; exact hR
  have HC := hideP hc
  clear hB1 hR hc
  have hstart : ∀ (ao : Option Addr) (cp : Nat) (nq : Nat), ss.length - t ≤ cp → cp ≤ maxLen → StrSl w ao (ss.drop t) →
      ORel q R ss w (.int .i64 1) (.bool false) (.string (s.extract (i + 1) s.size)) (.string after) (.slice ao (ss.length - t) cp) (w.drewN nq) := by
    intro ao cp nq h1 h2 h3
    exact ⟨1, false, _, after, t, ao, cp, rfl, rfl, rfl, rfl, rfl, ht, h1, h2, h3, below_drewN (Below.refl _ _) _, HR.out, HB1.out⟩
  have HS := hideP hstart
  clear hstart HR HB1
  have key : (∃ b off, a = some ⟨b, off, none⟩ ∧ t < ss.length ∧ StrSl w (some ⟨b, off + t, none⟩) (ss.drop t)) ∨ (t = ss.length ∧ cap = ss.length) ∨ (t = ss.length ∧ cap ≠ ss.length) := by
    rcases Nat.lt_or_ge t ss.length with hB | hA
    · rcases HC.out with rfl | ⟨b, off, rfl, hb, hc⟩
      · simp at hB
      · exact .inl ⟨b, off, rfl, hB, strSl_drop hb hc t⟩
    · by_cases h : cap = ss.length
      · exact .inr (.inl ⟨by omega, h⟩)
      · exact .inr (.inr ⟨by omega, h⟩)
  have HSA : Hid (t = ss.length → ∀ (ao : Option Addr) (cp : Nat) (nq : Nat), cp ≤ maxLen → ORel q R ss w (.int .i64 1) (.bool false) (.string (s.extract (i + 1) s.size)) (.string after) (.slice ao 0 cp) (w.drewN nq)) := by
    intro h ao cp nq h2
    have := HS.out ao cp nq (by omega) h2 (by rw [h]; exact strSl_end)
    rw [show ss.length - t = 0 by omega] at this
    exact this
  rcases key with ⟨b, off, rfl, hB, hD⟩ | ⟨hA, hA2⟩ | ⟨hA, hA2⟩
  · have HD := hideP hD
    clear hD
    go_enter Try.func36, Try.ntmps36
    go_wp2_with fail
    go_quiet (fail)
    go_wp2_with fail
    go_loopw [6, 7, 8, 9, 10] (fun sz cl nx af p wr => ORel q R ss w sz cl nx af p wr) (fun _ _ _ af p _ => msr af p)
    case atStart => exact HS.out _ _ _ (by omega) (Nat.le_trans (Nat.sub_le _ _) hcm) HD.out
    case round =>
      obtain ⟨n, c, nx, af, k, ao, cp, rfl, rfl, rfl, rfl, rfl, hk, hkc, hcpm, hsl, hbr, hscan, hbd⟩ := hrel
      clear HS HSA HD c1 c2 c5 c6 HC hq hi ht hcap hcm htot hB
      obtain ⟨rest, hrest⟩ : ∃ rest, restFrom af ss k = rest := ⟨_, rfl⟩
      rw [hrest] at hscan hbd
      have HR := hideP hrest
      have HSL := hideP hsl
      have HBr := hideP hbr
      have HSc := hideP hscan
      have hnx : nx.size ≤ 1048577 := by omega
      clear hrest hsl hbr hscan
      go_wp2_with fail
      go_loop [6, 7, 11] (fun sz cl jv => ∃ (m : Nat) (d : Bool) (j : Nat), sz = .int .i64 m ∧ cl = .bool d ∧ jv = .int .i64 j ∧ j ≤ nx.size ∧ Plain.scan q (nx.data.toList.drop j ++ rest) d m = R ∧ m + (nx.size - j) + rest.length ≤ 1048577) (fun _ _ jv => nx.size - (intOf jv).toNat)
      case atStart => exact ⟨n, c, 0, rfl, rfl, rfl, Nat.zero_le _, by simpa using HSc.out, by omega⟩
      case round =>
        obtain ⟨m, d, j, rfl, rfl, rfl, hj, hsc, hbd2⟩ := hrel
        clear HSc hbd
        have HSc := hideP hsc
        clear hsc
        by_cases hlt : j < nx.size
        · cases d with
          | true =>
            obtain ⟨y, hy⟩ : ∃ y, nx[j] = y := ⟨_, rfl⟩
            have hdrop : nx.data.toList.drop j = y :: nx.data.toList.drop (j + 1) := by
              rw [← hy, List.drop_eq_getElem_cons (by rw [size_toList]; exact hlt)]; rfl
            have HSc2 : Hid (Plain.scan q (y :: (nx.data.toList.drop (j + 1) ++ rest)) true m = R) := by have := HSc.out; rw [hdrop] at this; exact this
            clear HSc hdrop
            by_cases hyq : y = q
            · subst hyq
              have hne : ((y.toNat : Int) != (y.toNat : Int)) = false := by simp
              have HSc3 : Hid (Plain.scan y (nx.data.toList.drop (j + 1) ++ rest) false (m + 1) = R) := by have := HSc2.out; rw [Plain.scan, if_pos (by simp)] at this; exact this
              clear HSc2
              go_wp2
              go_round
              case rel => exact ⟨m + 1, false, j + 1, by go_num, rfl, by go_num, by omega, HSc3.out, by omega⟩
              case measure => simp [intOf]; omega
            · have hne : ((y.toNat : Int) != (q.toNat : Int)) = true := by
                rw [bne_iff_ne]; intro h; exact hyq (UInt8.toNat_inj.1 (by omega))
              have HSc3 : Hid ((m : Int) = R) := by have := HSc2.out; rw [Plain.scan, if_neg (by simpa using hyq)] at this; exact this
              clear HSc2
              go_wp2
              go_ret
              exact QP.mk HSc3.out HBr.out
          | false =>
            have hge := Lib.indexByte_ge (nx.data.toList.drop j) q
            have hl0 : (nx.data.toList.drop j).length = nx.size - j := by rw [List.length_drop, size_toList]
            by_cases hix : Lib.indexByte (nx.data.toList.drop j) q = -1
            · have hs1 := Plain.scan_none q (nx.data.toList.drop j) rest m hix
              rw [HSc.out, hl0] at hs1
              have HS1 := hideP hs1
              have hix2 : Lib.indexByte (List.take (nx.size - j) (List.drop j nx.data.toList)) q = -1 := by rw [List.take_of_length_le (by omega)]; exact hix
              clear hs1 hix hge HSc hl0
              by_cases haf : af.size = 0
              · have hae : af.toList.isEmpty = true := by rw [isEmpty_of_size]; simp [haf]
                by_cases hkl : k < ss.length
                · have hpos : 0 < ss.length - k := by omega
                  rcases HSL.out with hnil | ⟨b', off', rfl, hb', hc'⟩
                  · exact absurd hnil (by simp; omega)
                  obtain ⟨x, hx⟩ : ∃ x, x = ss.getD k ByteArray.empty := ⟨_, rfl⟩
                  have HX := hideP hx
                  have hcx : wr.cell? ⟨b', off', none⟩ = some (.string x) := by
                    have := hc' 0 (by simp; omega)
                    rw [hx, Nat.add_zero] at *
                    rw [HBr.out.cell (by exact hb'), this]
                    simp [List.getD_eq_getElem?_getD]
                  have HN : Hid (∀ ao', (k + 1 < ss.length → ao' = some ⟨b', off' + 1, none⟩) → StrSl w ao' (ss.drop (k + 1))) := fun ao' h => by
                    by_cases h2 : k + 1 < ss.length
                    · rw [h h2]
                      refine .inr ⟨b', off' + 1, rfl, hb', fun i hi => ?_⟩
                      have := hc' (i + 1) (by simp at hi ⊢; omega)
                      rw [show off' + 1 + i = off' + (i + 1) by omega, this]
                      simp [List.getD_eq_getElem?_getD, Nat.add_assoc, Nat.add_comm 1 i]
                    · exact .inl (List.drop_eq_nil_of_le (by omega))
                  clear hx hc'
                  go_wp2_with (go_at_call 43; refine (idx_any _ _ _).mono ?_; rintro e w' ⟨rfl, rfl⟩)
                  by_cases hcp1 : cp = 1
                  · go_quiet (fail)
                    go_wp2
                    go_roundw
                    case rel => exact ORel.ofPiece (m := m + (nx.size - j)) (by omega) HX.out haf hkl (by omega) (by omega) (Nat.zero_le _) (HN.out _ (fun h => absurd h (by omega))) (below_drewN HBr.out _) HR.out HS1.out.symm (by omega)
                    case measure => rw [msr_eq, msr_eq]; omega
                  · go_quiet (fail)
                    go_wp2
                    go_roundw
                    case rel => exact ORel.ofPiece (m := m + (nx.size - j)) (by omega) HX.out haf hkl (by omega) (by omega) (Nat.le_trans (Nat.sub_le _ _) hcpm) (HN.out _ (fun h => rfl)) (below_drewN HBr.out _) HR.out HS1.out.symm (by omega)
                    case measure => rw [msr_eq, msr_eq]; omega
                · have HE : Hid (-1 = R) := by
                    have h1 := rest_end haf (Nat.le_of_not_lt hkl)
                    rw [HR.out] at h1
                    have h2 := HS1.out
                    rw [h1] at h2
                    rw [h2]; rfl
                  go_wp2_with (go_at_call 43; refine (idx_any _ _ _).mono ?_; rintro e w' ⟨rfl, rfl⟩)
                  go_ret
                  exact QP.mk HE.out HBr.out
              · have hae : af.toList.isEmpty = false := by rw [isEmpty_of_size]; simpa using haf
                go_wp2_with (go_at_call 43; refine (idx_any _ _ _).mono ?_; rintro e w' ⟨rfl, rfl⟩)
                go_roundw
                case rel => exact ORel.ofAfter (m := m + (nx.size - j)) (by omega) hk hkc hcpm HSL.out HBr.out HR.out HS1.out.symm (by omega)
                case measure => rw [msr_eq, msr_eq, show (⟨#[]⟩ : ByteArray).size = 0 from rfl]; omega
            · obtain ⟨x, hx⟩ : ∃ x : Nat, Lib.indexByte (nx.data.toList.drop j) q = (x : Int) := ⟨(Lib.indexByte (nx.data.toList.drop j) q).toNat, by omega⟩
              obtain ⟨hxl, hs1⟩ := Plain.scan_some q (nx.data.toList.drop j) rest m x hx
              rw [HSc.out, List.drop_drop] at hs1
              rw [hl0] at hxl
              have HS1 := hideP hs1
              have hix2 : Lib.indexByte (List.take (nx.size - j) (List.drop j nx.data.toList)) q = (x : Int) := by rw [List.take_of_length_le (by omega)]; exact hx
              clear hs1 hix hge HSc hl0 hx
              go_wp2_with (go_at_call 43; refine (idx_any _ _ _).mono ?_; rintro e w' ⟨rfl, rfl⟩)
              go_round
              case rel => exact ⟨m + x + 1, true, j + (x + 1), by go_num, rfl, by go_num, by omega, HS1.out.symm, by omega⟩
              case measure => simp [intOf]; omega
        · have hs1 := HSc.out
          rw [List.drop_eq_nil_of_le (by rw [size_toList]; omega), List.nil_append] at hs1
          have HS1 := hideP hs1
          clear hs1 HSc
          by_cases haf : af.size = 0
          · have hae : af.toList.isEmpty = true := by rw [isEmpty_of_size]; simp [haf]
            by_cases hkl : k < ss.length
            · have hpos : 0 < ss.length - k := by omega
              rcases HSL.out with hnil | ⟨b', off', rfl, hb', hc'⟩
              · exact absurd hnil (by simp; omega)
              obtain ⟨x, hx⟩ : ∃ x, x = ss.getD k ByteArray.empty := ⟨_, rfl⟩
              have HX := hideP hx
              have hcx : wr.cell? ⟨b', off', none⟩ = some (.string x) := by
                have := hc' 0 (by simp; omega)
                rw [hx, Nat.add_zero] at *
                rw [HBr.out.cell (by exact hb'), this]
                simp [List.getD_eq_getElem?_getD]
              have HN : Hid (∀ ao', (k + 1 < ss.length → ao' = some ⟨b', off' + 1, none⟩) → StrSl w ao' (ss.drop (k + 1))) := fun ao' h => by
                by_cases h2 : k + 1 < ss.length
                · rw [h h2]
                  refine .inr ⟨b', off' + 1, rfl, hb', fun i hi => ?_⟩
                  have := hc' (i + 1) (by simp at hi ⊢; omega)
                  rw [show off' + 1 + i = off' + (i + 1) by omega, this]
                  simp [List.getD_eq_getElem?_getD, Nat.add_assoc, Nat.add_comm 1 i]
                · exact .inl (List.drop_eq_nil_of_le (by omega))
              clear hx hc'
              go_wp2
              by_cases hcp1 : cp = 1
              · go_quiet (fail)
                go_wp2
                go_roundw
                case rel => exact ORel.ofPiece rfl HX.out haf hkl (by omega) (by omega) (Nat.zero_le _) (HN.out _ (fun h => absurd h (by omega))) (below_drewN HBr.out _) HR.out HS1.out (by omega)
                case measure => rw [msr_eq, msr_eq]; omega
              · go_quiet (fail)
                go_wp2
                go_roundw
                case rel => exact ORel.ofPiece rfl HX.out haf hkl (by omega) (by omega) (Nat.le_trans (Nat.sub_le _ _) hcpm) (HN.out _ (fun h => rfl)) (below_drewN HBr.out _) HR.out HS1.out (by omega)
                case measure => rw [msr_eq, msr_eq]; omega
            · have HE : Hid (Plain.scan q [] d m = R) := by
                have h1 := rest_end haf (Nat.le_of_not_lt hkl)
                rw [HR.out] at h1
                have h2 := HS1.out
                rw [h1] at h2
                exact h2
              cases d with
              | true =>
                go_wp2
                go_ret
                exact QP.mk HE.out HBr.out
              | false =>
                go_wp2
                go_ret
                exact QP.mk HE.out HBr.out
          · have hae : af.toList.isEmpty = false := by rw [isEmpty_of_size]; simpa using haf
            go_wp2
            go_roundw
            case rel => exact ORel.ofAfter rfl hk hkc hcpm HSL.out HBr.out HR.out HS1.out (by omega)
            case measure => rw [msr_eq, msr_eq, show (⟨#[]⟩ : ByteArray).size = 0 from rfl]; omega
  · have HA := hideP hA
    subst hA2
    clear HS HC ht
    rw [hA] at c6
    clear hA
    go_enter Try.func36, Try.ntmps36
    go_wp2_with fail
    go_quiet (fail)
    go_wp2_with fail
    go_loopw [6, 7, 8, 9, 10] (fun sz cl nx af p wr => ORel q R ss w sz cl nx af p wr) (fun _ _ _ af p _ => msr af p)
    case atStart => exact HSA.out HA.out _ _ _ (Nat.zero_le _)
    case round =>
      obtain ⟨n, c, nx, af, k, ao, cp, rfl, rfl, rfl, rfl, rfl, hk, hkc, hcpm, hsl, hbr, hscan, hbd⟩ := hrel
      clear HSA c1 c2 c5 c6 hq hi hcap hcm htot HA
      obtain ⟨rest, hrest⟩ : ∃ rest, restFrom af ss k = rest := ⟨_, rfl⟩
      rw [hrest] at hscan hbd
      have HR := hideP hrest
      have HSL := hideP hsl
      have HBr := hideP hbr
      have HSc := hideP hscan
      have hnx : nx.size ≤ 1048577 := by omega
      clear hrest hsl hbr hscan
      go_wp2_with fail
      go_loop [6, 7, 11] (fun sz cl jv => ∃ (m : Nat) (d : Bool) (j : Nat), sz = .int .i64 m ∧ cl = .bool d ∧ jv = .int .i64 j ∧ j ≤ nx.size ∧ Plain.scan q (nx.data.toList.drop j ++ rest) d m = R ∧ m + (nx.size - j) + rest.length ≤ 1048577) (fun _ _ jv => nx.size - (intOf jv).toNat)
      case atStart => exact ⟨n, c, 0, rfl, rfl, rfl, Nat.zero_le _, by simpa using HSc.out, by omega⟩
      case round =>
        obtain ⟨m, d, j, rfl, rfl, rfl, hj, hsc, hbd2⟩ := hrel
        clear HSc hbd
        have HSc := hideP hsc
        clear hsc
        by_cases hlt : j < nx.size
        · cases d with
          | true =>
            obtain ⟨y, hy⟩ : ∃ y, nx[j] = y := ⟨_, rfl⟩
            have hdrop : nx.data.toList.drop j = y :: nx.data.toList.drop (j + 1) := by
              rw [← hy, List.drop_eq_getElem_cons (by rw [size_toList]; exact hlt)]; rfl
            have HSc2 : Hid (Plain.scan q (y :: (nx.data.toList.drop (j + 1) ++ rest)) true m = R) := by have := HSc.out; rw [hdrop] at this; exact this
            clear HSc hdrop
            by_cases hyq : y = q
            · subst hyq
              have hne : ((y.toNat : Int) != (y.toNat : Int)) = false := by simp
              have HSc3 : Hid (Plain.scan y (nx.data.toList.drop (j + 1) ++ rest) false (m + 1) = R) := by have := HSc2.out; rw [Plain.scan, if_pos (by simp)] at this; exact this
              clear HSc2
              go_wp2
              go_round
              case rel => exact ⟨m + 1, false, j + 1, by go_num, rfl, by go_num, by omega, HSc3.out, by omega⟩
              case measure => simp [intOf]; omega
            · have hne : ((y.toNat : Int) != (q.toNat : Int)) = true := by
                rw [bne_iff_ne]; intro h; exact hyq (UInt8.toNat_inj.1 (by omega))
              have HSc3 : Hid ((m : Int) = R) := by have := HSc2.out; rw [Plain.scan, if_neg (by simpa using hyq)] at this; exact this
              clear HSc2
              go_wp2
              go_ret
              exact QP.mk HSc3.out HBr.out
          | false =>
            have hge := Lib.indexByte_ge (nx.data.toList.drop j) q
            have hl0 : (nx.data.toList.drop j).length = nx.size - j := by rw [List.length_drop, size_toList]
            by_cases hix : Lib.indexByte (nx.data.toList.drop j) q = -1
            · have hs1 := Plain.scan_none q (nx.data.toList.drop j) rest m hix
              rw [HSc.out, hl0] at hs1
              have HS1 := hideP hs1
              have hix2 : Lib.indexByte (List.take (nx.size - j) (List.drop j nx.data.toList)) q = -1 := by rw [List.take_of_length_le (by omega)]; exact hix
              clear hs1 hix hge HSc hl0
              by_cases haf : af.size = 0
              · have hae : af.toList.isEmpty = true := by rw [isEmpty_of_size]; simp [haf]
                by_cases hkl : k < ss.length
                · have hpos : 0 < ss.length - k := by omega
                  rcases HSL.out with hnil | ⟨b', off', rfl, hb', hc'⟩
                  · exact absurd hnil (by simp; omega)
                  obtain ⟨x, hx⟩ : ∃ x, x = ss.getD k ByteArray.empty := ⟨_, rfl⟩
                  have HX := hideP hx
                  have hcx : wr.cell? ⟨b', off', none⟩ = some (.string x) := by
                    have := hc' 0 (by simp; omega)
                    rw [hx, Nat.add_zero] at *
                    rw [HBr.out.cell (by exact hb'), this]
                    simp [List.getD_eq_getElem?_getD]
                  have HN : Hid (∀ ao', (k + 1 < ss.length → ao' = some ⟨b', off' + 1, none⟩) → StrSl w ao' (ss.drop (k + 1))) := fun ao' h => by
                    by_cases h2 : k + 1 < ss.length
                    · rw [h h2]
                      refine .inr ⟨b', off' + 1, rfl, hb', fun i hi => ?_⟩
                      have := hc' (i + 1) (by simp at hi ⊢; omega)
                      rw [show off' + 1 + i = off' + (i + 1) by omega, this]
                      simp [List.getD_eq_getElem?_getD, Nat.add_assoc, Nat.add_comm 1 i]
                    · exact .inl (List.drop_eq_nil_of_le (by omega))
                  clear hx hc'
                  go_wp2_with (go_at_call 43; refine (idx_any _ _ _).mono ?_; rintro e w' ⟨rfl, rfl⟩)
                  by_cases hcp1 : cp = 1
                  · go_quiet (fail)
                    go_wp2
                    go_roundw
                    case rel => exact ORel.ofPiece (m := m + (nx.size - j)) (by omega) HX.out haf hkl (by omega) (by omega) (Nat.zero_le _) (HN.out _ (fun h => absurd h (by omega))) (below_drewN HBr.out _) HR.out HS1.out.symm (by omega)
                    case measure => rw [msr_eq, msr_eq]; omega
                  · go_quiet (fail)
                    go_wp2
                    go_roundw
                    case rel => exact ORel.ofPiece (m := m + (nx.size - j)) (by omega) HX.out haf hkl (by omega) (by omega) (Nat.le_trans (Nat.sub_le _ _) hcpm) (HN.out _ (fun h => rfl)) (below_drewN HBr.out _) HR.out HS1.out.symm (by omega)
                    case measure => rw [msr_eq, msr_eq]; omega
                · have HE : Hid (-1 = R) := by
                    have h1 := rest_end haf (Nat.le_of_not_lt hkl)
                    rw [HR.out] at h1
                    have h2 := HS1.out
                    rw [h1] at h2
                    rw [h2]; rfl
                  go_wp2_with (go_at_call 43; refine (idx_any _ _ _).mono ?_; rintro e w' ⟨rfl, rfl⟩)
                  go_ret
                  exact QP.mk HE.out HBr.out
              · have hae : af.toList.isEmpty = false := by rw [isEmpty_of_size]; simpa using haf
                go_wp2_with (go_at_call 43; refine (idx_any _ _ _).mono ?_; rintro e w' ⟨rfl, rfl⟩)
                go_roundw
                case rel => exact ORel.ofAfter (m := m + (nx.size - j)) (by omega) hk hkc hcpm HSL.out HBr.out HR.out HS1.out.symm (by omega)
                case measure => rw [msr_eq, msr_eq, show (⟨#[]⟩ : ByteArray).size = 0 from rfl]; omega
            · obtain ⟨x, hx⟩ : ∃ x : Nat, Lib.indexByte (nx.data.toList.drop j) q = (x : Int) := ⟨(Lib.indexByte (nx.data.toList.drop j) q).toNat, by omega⟩
              obtain ⟨hxl, hs1⟩ := Plain.scan_some q (nx.data.toList.drop j) rest m x hx
              rw [HSc.out, List.drop_drop] at hs1
              rw [hl0] at hxl
              have HS1 := hideP hs1
              have hix2 : Lib.indexByte (List.take (nx.size - j) (List.drop j nx.data.toList)) q = (x : Int) := by rw [List.take_of_length_le (by omega)]; exact hx
              clear hs1 hix hge HSc hl0 hx
              go_wp2_with (go_at_call 43; refine (idx_any _ _ _).mono ?_; rintro e w' ⟨rfl, rfl⟩)
              go_round
              case rel => exact ⟨m + x + 1, true, j + (x + 1), by go_num, rfl, by go_num, by omega, HS1.out.symm, by omega⟩
              case measure => simp [intOf]; omega
        · have hs1 := HSc.out
          rw [List.drop_eq_nil_of_le (by rw [size_toList]; omega), List.nil_append] at hs1
          have HS1 := hideP hs1
          clear hs1 HSc
          by_cases haf : af.size = 0
          · have hae : af.toList.isEmpty = true := by rw [isEmpty_of_size]; simp [haf]
            by_cases hkl : k < ss.length
            · have hpos : 0 < ss.length - k := by omega
              rcases HSL.out with hnil | ⟨b', off', rfl, hb', hc'⟩
              · exact absurd hnil (by simp; omega)
              obtain ⟨x, hx⟩ : ∃ x, x = ss.getD k ByteArray.empty := ⟨_, rfl⟩
              have HX := hideP hx
              have hcx : wr.cell? ⟨b', off', none⟩ = some (.string x) := by
                have := hc' 0 (by simp; omega)
                rw [hx, Nat.add_zero] at *
                rw [HBr.out.cell (by exact hb'), this]
                simp [List.getD_eq_getElem?_getD]
              have HN : Hid (∀ ao', (k + 1 < ss.length → ao' = some ⟨b', off' + 1, none⟩) → StrSl w ao' (ss.drop (k + 1))) := fun ao' h => by
                by_cases h2 : k + 1 < ss.length
                · rw [h h2]
                  refine .inr ⟨b', off' + 1, rfl, hb', fun i hi => ?_⟩
                  have := hc' (i + 1) (by simp at hi ⊢; omega)
                  rw [show off' + 1 + i = off' + (i + 1) by omega, this]
                  simp [List.getD_eq_getElem?_getD, Nat.add_assoc, Nat.add_comm 1 i]
                · exact .inl (List.drop_eq_nil_of_le (by omega))
              clear hx hc'
              go_wp2
              by_cases hcp1 : cp = 1
              · go_quiet (fail)
                go_wp2
                go_roundw
                case rel => exact ORel.ofPiece rfl HX.out haf hkl (by omega) (by omega) (Nat.zero_le _) (HN.out _ (fun h => absurd h (by omega))) (below_drewN HBr.out _) HR.out HS1.out (by omega)
                case measure => rw [msr_eq, msr_eq]; omega
              · go_quiet (fail)
                go_wp2
                go_roundw
                case rel => exact ORel.ofPiece rfl HX.out haf hkl (by omega) (by omega) (Nat.le_trans (Nat.sub_le _ _) hcpm) (HN.out _ (fun h => rfl)) (below_drewN HBr.out _) HR.out HS1.out (by omega)
                case measure => rw [msr_eq, msr_eq]; omega
            · have HE : Hid (Plain.scan q [] d m = R) := by
                have h1 := rest_end haf (Nat.le_of_not_lt hkl)
                rw [HR.out] at h1
                have h2 := HS1.out
                rw [h1] at h2
                exact h2
              cases d with
              | true =>
                go_wp2
                go_ret
                exact QP.mk HE.out HBr.out
              | false =>
                go_wp2
                go_ret
                exact QP.mk HE.out HBr.out
          · have hae : af.toList.isEmpty = false := by rw [isEmpty_of_size]; simpa using haf
            go_wp2
            go_roundw
            case rel => exact ORel.ofAfter rfl hk hkc hcpm HSL.out HBr.out HR.out HS1.out (by omega)
            case measure => rw [msr_eq, msr_eq, show (⟨#[]⟩ : ByteArray).size = 0 from rfl]; omega
  · have HA := hideP hA
    clear HS HC ht
    rw [hA] at c6
    clear hA
    go_enter Try.func36, Try.ntmps36
    go_wp2_with fail
    go_quiet (fail)
    go_wp2_with fail
    go_loopw [6, 7, 8, 9, 10] (fun sz cl nx af p wr => ORel q R ss w sz cl nx af p wr) (fun _ _ _ af p _ => msr af p)
    case atStart => exact HSA.out HA.out _ _ _ (Nat.le_trans (Nat.sub_le _ _) hcm)
    case round =>
      obtain ⟨n, c, nx, af, k, ao, cp, rfl, rfl, rfl, rfl, rfl, hk, hkc, hcpm, hsl, hbr, hscan, hbd⟩ := hrel
      clear HSA c1 c2 c5 c6 hq hi hcap hcm htot HA
      obtain ⟨rest, hrest⟩ : ∃ rest, restFrom af ss k = rest := ⟨_, rfl⟩
      rw [hrest] at hscan hbd
      have HR := hideP hrest
      have HSL := hideP hsl
      have HBr := hideP hbr
      have HSc := hideP hscan
      have hnx : nx.size ≤ 1048577 := by omega
      clear hrest hsl hbr hscan
      go_wp2_with fail
      go_loop [6, 7, 11] (fun sz cl jv => ∃ (m : Nat) (d : Bool) (j : Nat), sz = .int .i64 m ∧ cl = .bool d ∧ jv = .int .i64 j ∧ j ≤ nx.size ∧ Plain.scan q (nx.data.toList.drop j ++ rest) d m = R ∧ m + (nx.size - j) + rest.length ≤ 1048577) (fun _ _ jv => nx.size - (intOf jv).toNat)
      case atStart => exact ⟨n, c, 0, rfl, rfl, rfl, Nat.zero_le _, by simpa using HSc.out, by omega⟩
      case round =>
        obtain ⟨m, d, j, rfl, rfl, rfl, hj, hsc, hbd2⟩ := hrel
        clear HSc hbd
        have HSc := hideP hsc
        clear hsc
        by_cases hlt : j < nx.size
        · cases d with
          | true =>
            obtain ⟨y, hy⟩ : ∃ y, nx[j] = y := ⟨_, rfl⟩
            have hdrop : nx.data.toList.drop j = y :: nx.data.toList.drop (j + 1) := by
              rw [← hy, List.drop_eq_getElem_cons (by rw [size_toList]; exact hlt)]; rfl
            have HSc2 : Hid (Plain.scan q (y :: (nx.data.toList.drop (j + 1) ++ rest)) true m = R) := by have := HSc.out; rw [hdrop] at this; exact this
            clear HSc hdrop
            by_cases hyq : y = q
            · subst hyq
              have hne : ((y.toNat : Int) != (y.toNat : Int)) = false := by simp
              have HSc3 : Hid (Plain.scan y (nx.data.toList.drop (j + 1) ++ rest) false (m + 1) = R) := by have := HSc2.out; rw [Plain.scan, if_pos (by simp)] at this; exact this
              clear HSc2
              go_wp2
              go_round
              case rel => exact ⟨m + 1, false, j + 1, by go_num, rfl, by go_num, by omega, HSc3.out, by omega⟩
              case measure => simp [intOf]; omega
            · have hne : ((y.toNat : Int) != (q.toNat : Int)) = true := by
                rw [bne_iff_ne]; intro h; exact hyq (UInt8.toNat_inj.1 (by omega))
              have HSc3 : Hid ((m : Int) = R) := by have := HSc2.out; rw [Plain.scan, if_neg (by simpa using hyq)] at this; exact this
              clear HSc2
              go_wp2
              go_ret
              exact QP.mk HSc3.out HBr.out
          | false =>
            have hge := Lib.indexByte_ge (nx.data.toList.drop j) q
            have hl0 : (nx.data.toList.drop j).length = nx.size - j := by rw [List.length_drop, size_toList]
            by_cases hix : Lib.indexByte (nx.data.toList.drop j) q = -1
            · have hs1 := Plain.scan_none q (nx.data.toList.drop j) rest m hix
              rw [HSc.out, hl0] at hs1
              have HS1 := hideP hs1
              have hix2 : Lib.indexByte (List.take (nx.size - j) (List.drop j nx.data.toList)) q = -1 := by rw [List.take_of_length_le (by omega)]; exact hix
              clear hs1 hix hge HSc hl0
              by_cases haf : af.size = 0
              · have hae : af.toList.isEmpty = true := by rw [isEmpty_of_size]; simp [haf]
                by_cases hkl : k < ss.length
                · have hpos : 0 < ss.length - k := by omega
                  rcases HSL.out with hnil | ⟨b', off', rfl, hb', hc'⟩
                  · exact absurd hnil (by simp; omega)
                  obtain ⟨x, hx⟩ : ∃ x, x = ss.getD k ByteArray.empty := ⟨_, rfl⟩
                  have HX := hideP hx
                  have hcx : wr.cell? ⟨b', off', none⟩ = some (.string x) := by
                    have := hc' 0 (by simp; omega)
                    rw [hx, Nat.add_zero] at *
                    rw [HBr.out.cell (by exact hb'), this]
                    simp [List.getD_eq_getElem?_getD]
                  have HN : Hid (∀ ao', (k + 1 < ss.length → ao' = some ⟨b', off' + 1, none⟩) → StrSl w ao' (ss.drop (k + 1))) := fun ao' h => by
                    by_cases h2 : k + 1 < ss.length
                    · rw [h h2]
                      refine .inr ⟨b', off' + 1, rfl, hb', fun i hi => ?_⟩
                      have := hc' (i + 1) (by simp at hi ⊢; omega)
                      rw [show off' + 1 + i = off' + (i + 1) by omega, this]
                      simp [List.getD_eq_getElem?_getD, Nat.add_assoc, Nat.add_comm 1 i]
                    · exact .inl (List.drop_eq_nil_of_le (by omega))
                  clear hx hc'
                  go_wp2_with (go_at_call 43; refine (idx_any _ _ _).mono ?_; rintro e w' ⟨rfl, rfl⟩)
                  by_cases hcp1 : cp = 1
                  · go_quiet (fail)
                    go_wp2
                    go_roundw
                    case rel => exact ORel.ofPiece (m := m + (nx.size - j)) (by omega) HX.out haf hkl (by omega) (by omega) (Nat.zero_le _) (HN.out _ (fun h => absurd h (by omega))) (below_drewN HBr.out _) HR.out HS1.out.symm (by omega)
                    case measure => rw [msr_eq, msr_eq]; omega
                  · go_quiet (fail)
                    go_wp2
                    go_roundw
                    case rel => exact ORel.ofPiece (m := m + (nx.size - j)) (by omega) HX.out haf hkl (by omega) (by omega) (Nat.le_trans (Nat.sub_le _ _) hcpm) (HN.out _ (fun h => rfl)) (below_drewN HBr.out _) HR.out HS1.out.symm (by omega)
                    case measure => rw [msr_eq, msr_eq]; omega
                · have HE : Hid (-1 = R) := by
                    have h1 := rest_end haf (Nat.le_of_not_lt hkl)
                    rw [HR.out] at h1
                    have h2 := HS1.out
                    rw [h1] at h2
                    rw [h2]; rfl
                  go_wp2_with (go_at_call 43; refine (idx_any _ _ _).mono ?_; rintro e w' ⟨rfl, rfl⟩)
                  go_ret
                  exact QP.mk HE.out HBr.out
              · have hae : af.toList.isEmpty = false := by rw [isEmpty_of_size]; simpa using haf
                go_wp2_with (go_at_call 43; refine (idx_any _ _ _).mono ?_; rintro e w' ⟨rfl, rfl⟩)
                go_roundw
                case rel => exact ORel.ofAfter (m := m + (nx.size - j)) (by omega) hk hkc hcpm HSL.out HBr.out HR.out HS1.out.symm (by omega)
                case measure => rw [msr_eq, msr_eq, show (⟨#[]⟩ : ByteArray).size = 0 from rfl]; omega
            · obtain ⟨x, hx⟩ : ∃ x : Nat, Lib.indexByte (nx.data.toList.drop j) q = (x : Int) := ⟨(Lib.indexByte (nx.data.toList.drop j) q).toNat, by omega⟩
              obtain ⟨hxl, hs1⟩ := Plain.scan_some q (nx.data.toList.drop j) rest m x hx
              rw [HSc.out, List.drop_drop] at hs1
              rw [hl0] at hxl
              have HS1 := hideP hs1
              have hix2 : Lib.indexByte (List.take (nx.size - j) (List.drop j nx.data.toList)) q = (x : Int) := by rw [List.take_of_length_le (by omega)]; exact hx
              clear hs1 hix hge HSc hl0 hx
              go_wp2_with (go_at_call 43; refine (idx_any _ _ _).mono ?_; rintro e w' ⟨rfl, rfl⟩)
              go_round
              case rel => exact ⟨m + x + 1, true, j + (x + 1), by go_num, rfl, by go_num, by omega, HS1.out.symm, by omega⟩
              case measure => simp [intOf]; omega
        · have hs1 := HSc.out
          rw [List.drop_eq_nil_of_le (by rw [size_toList]; omega), List.nil_append] at hs1
          have HS1 := hideP hs1
          clear hs1 HSc
          by_cases haf : af.size = 0
          · have hae : af.toList.isEmpty = true := by rw [isEmpty_of_size]; simp [haf]
            by_cases hkl : k < ss.length
            · have hpos : 0 < ss.length - k := by omega
              rcases HSL.out with hnil | ⟨b', off', rfl, hb', hc'⟩
              · exact absurd hnil (by simp; omega)
              obtain ⟨x, hx⟩ : ∃ x, x = ss.getD k ByteArray.empty := ⟨_, rfl⟩
              have HX := hideP hx
              have hcx : wr.cell? ⟨b', off', none⟩ = some (.string x) := by
                have := hc' 0 (by simp; omega)
                rw [hx, Nat.add_zero] at *
                rw [HBr.out.cell (by exact hb'), this]
                simp [List.getD_eq_getElem?_getD]
              have HN : Hid (∀ ao', (k + 1 < ss.length → ao' = some ⟨b', off' + 1, none⟩) → StrSl w ao' (ss.drop (k + 1))) := fun ao' h => by
                by_cases h2 : k + 1 < ss.length
                · rw [h h2]
                  refine .inr ⟨b', off' + 1, rfl, hb', fun i hi => ?_⟩
                  have := hc' (i + 1) (by simp at hi ⊢; omega)
                  rw [show off' + 1 + i = off' + (i + 1) by omega, this]
                  simp [List.getD_eq_getElem?_getD, Nat.add_assoc, Nat.add_comm 1 i]
                · exact .inl (List.drop_eq_nil_of_le (by omega))
              clear hx hc'
              go_wp2
              by_cases hcp1 : cp = 1
              · go_quiet (fail)
                go_wp2
                go_roundw
                case rel => exact ORel.ofPiece rfl HX.out haf hkl (by omega) (by omega) (Nat.zero_le _) (HN.out _ (fun h => absurd h (by omega))) (below_drewN HBr.out _) HR.out HS1.out (by omega)
                case measure => rw [msr_eq, msr_eq]; omega
              · go_quiet (fail)
                go_wp2
                go_roundw
                case rel => exact ORel.ofPiece rfl HX.out haf hkl (by omega) (by omega) (Nat.le_trans (Nat.sub_le _ _) hcpm) (HN.out _ (fun h => rfl)) (below_drewN HBr.out _) HR.out HS1.out (by omega)
                case measure => rw [msr_eq, msr_eq]; omega
            · have HE : Hid (Plain.scan q [] d m = R) := by
                have h1 := rest_end haf (Nat.le_of_not_lt hkl)
                rw [HR.out] at h1
                have h2 := HS1.out
                rw [h1] at h2
                exact h2
              cases d with
              | true =>
                go_wp2
                go_ret
                exact QP.mk HE.out HBr.out
              | false =>
                go_wp2
                go_ret
                exact QP.mk HE.out HBr.out
          · have hae : af.toList.isEmpty = false := by rw [isEmpty_of_size]; simpa using haf
            go_wp2
            go_roundw
            case rel => exact ORel.ofAfter rfl hk hkc hcpm HSL.out HBr.out HR.out HS1.out (by omega)
            case measure => rw [msr_eq, msr_eq, show (⟨#[]⟩ : ByteArray).size = 0 from rfl]; omega

end Go.Proofs.Qxb6600062a

/-
  SEAT b6600554a: WALKS 13: ZZDeltatRead (11) at each notation.
-/
import Derived.Test.Qxb6600554aNote
namespace Go.Proofs.Qxb6600554a
open Go.RowKit
set_option linter.unusedVariables false

theorem zz11 (s : ByteArray) (R : Int × Bool) (hread : ∀ (b : Nat) (w : World), DAt w b s 0 → Calls Try.prog 31 #[.pointer (some ⟨b, 0, none⟩)] w (UnP b R w)) (w : World) :
    Calls Try.prog 11 #[.string s] w (UnP w.heap.size R w) := by
  have hD : DAt (w.alloc (.cells #[.string s, .int .i64 0] 48)) w.heap.size s 0 := heap_alloc_new w _
  have HC := hideQ (hread w.heap.size _ hD)
  have HB : Hid (Below w.heap.size w (w.alloc (.cells #[.string s, .int .i64 0] 48))) := (Below.refl _ _).alloc (Nat.le_refl _) _
  clear hD hread
  go_enter Try.func11, Try.ntmps11
  go_wp2_with fail
  refine HC.out.mono ?_
  rintro e w2 ⟨rfl, hB2⟩
  have HB2 := hideQ (HB.out.trans hB2)
  clear HC HB hB2
  go_wp2
  go_ret2
  exact ⟨rfl, HB2.out⟩

section
variable {d h m s : Int} {H M S : List UInt8} (hH : Numl h H) (hM : Numl m M) (hS : Numl s S) (d1 : -2147483647 ≤ d) (d2 : d ≤ 2147483647) (h1 : 0 ≤ h) (h2 : h ≤ 99) (m1 : 0 ≤ m) (m2 : m ≤ 99) (s1 : 0 ≤ s) (s2 : s ≤ 99)
include hH hM hS d1 d2 h1 h2 m1 m2 s1 s2

theorem zz_units (t : ByteArray) (ht : t.size ≤ 1048576) (tl : List UInt8) (hN : num t.data.toList = some (d, 100 :: (H ++ 104 :: (M ++ 109 :: (S ++ 115 :: tl))))) (b : Bool) (hb : ∀ f x, U wrap64 (f + 1) 3 115 x tl = (x, b)) (w : World) :
    Calls Try.prog 11 #[.string t] w (UnP w.heap.size (d * 86400 + h * 3600 + m * 60 + s, b) w) := by
  have hl := num_len hN
  rw [size_toList] at hl
  simp only [List.length_cons, List.length_append] at hl
  obtain ⟨f, hf⟩ : ∃ f, t.size + 1 = f + 4 := ⟨t.size - 3, by omega⟩
  have hU := U_hms hH hM hS h1 h2 m1 m2 s1 s2 (d * 86400) (by omega) (by omega) f tl
  rw [hb] at hU
  refine zz11 t _ (fun b w hD => ?_) w
  have := read_d b t d _ hN w ht hD
  rw [hf, hU] at this
  exact this
end

section
variable {d m s : Int} {M S : List UInt8} (hM : Numl m M) (hS : Numl s S) (d1 : -2147483647 ≤ d) (d2 : d ≤ 2147483647) (m1 : 0 ≤ m) (m2 : m ≤ 99) (s1 : 0 ≤ s) (s2 : s ≤ 99)
include hM hS d1 d2 m1 m2 s1 s2

theorem zz_ms (t : ByteArray) (ht : t.size ≤ 1048576) (hN : num t.data.toList = some (d, 104 :: (M ++ 109 :: (S ++ [115])))) (w : World) :
    Calls Try.prog 11 #[.string t] w (UnP w.heap.size (d * 3600 + m * 60 + s, true) w) := by
  have hl := num_len hN
  rw [size_toList] at hl
  simp only [List.length_cons, List.length_append] at hl
  obtain ⟨f, hf⟩ : ∃ f, t.size + 1 = f + 3 := ⟨t.size - 2, by omega⟩
  have hU := U_ms hM hS m1 m2 s1 s2 (d * 3600) (by omega) (by omega) f []
  rw [U_nil] at hU
  refine zz11 t _ (fun b w hD => ?_) w
  have := read_h b t d _ hN w ht hD
  rw [hf, hU] at this
  exact this
end

section
variable {d h m : Int} {H M : List UInt8} (hH : Numl h H) (hM : Numl m M) (d1 : -2147483647 ≤ d) (d2 : d ≤ 2147483647) (h1 : 0 ≤ h) (h2 : h ≤ 99) (m1 : 0 ≤ m) (m2 : m ≤ 99)
include hH hM d1 d2 h1 h2 m1 m2

theorem zz_hm (t : ByteArray) (ht : t.size ≤ 1048576) (hN : num t.data.toList = some (d, 100 :: 32 :: (H ++ 104 :: 9 :: (M ++ [109, 32])))) (w : World) :
    Calls Try.prog 11 #[.string t] w (UnP w.heap.size (d * 86400 + h * 3600 + m * 60, true) w) := by
  have hl := num_len hN
  rw [size_toList] at hl
  simp only [List.length_cons, List.length_append] at hl
  obtain ⟨f, hf⟩ : ∃ f, t.size + 1 = f + 3 := ⟨t.size - 2, by omega⟩
  have hU := U_hm hH hM h1 h2 m1 m2 (d * 86400) (by omega) (by omega) f
  refine zz11 t _ (fun b w hD => ?_) w
  have := read_d b t d _ hN w ht hD
  rw [hf, hU] at this
  exact this
end

theorem zz_dash {d x y z : Int} {X Y Z : List UInt8} (hX : Dig2 x X) (hY : Dig2 y Y) (hZ : Dig2 z Z) (x1 : 0 ≤ x) (x2 : x ≤ 99) (y1 : 0 ≤ y) (y2 : y ≤ 99) (z1 : 0 ≤ z) (z2 : z ≤ 99) (t : ByteArray) (ht : t.size ≤ 1048576)
    (hN : num t.data.toList = some (d, 45 :: (X ++ 58 :: (Y ++ 58 :: Z)))) (w : World) : Calls Try.prog 11 #[.string t] w (UnP w.heap.size (d * 86400 + x * 3600 + y * 60 + z, true) w) :=
  zz11 t _ (fun b w hD => read_dash b t d _ hN 3 x y z (clk3 hX hY hZ) x1 x2 y1 y2 z1 z2 w ht hD) w

theorem zz_two {d x y : Int} {X Y : List UInt8} (hX : Dig2 x X) (hY : Dig2 y Y) (x1 : 0 ≤ x) (x2 : x ≤ 99) (y1 : 0 ≤ y) (y2 : y ≤ 99) (t : ByteArray) (ht : t.size ≤ 1048576)
    (hN : num t.data.toList = some (d, 58 :: (X ++ 58 :: Y))) (w : World) : Calls Try.prog 11 #[.string t] w (UnP w.heap.size (d * 3600 + x * 60 + y, true) w) :=
  zz11 t _ (fun b w hD => read_two b t d _ hN 3 x y (clk2 hX hY) x1 x2 y1 y2 w ht hD) w

theorem zz_one {d x : Int} {X : List UInt8} (hX : Dig2 x X) (x1 : 0 ≤ x) (x2 : x ≤ 99) (t : ByteArray) (ht : t.size ≤ 1048576)
    (hN : num t.data.toList = some (d, 58 :: X)) (w : World) : Calls Try.prog 11 #[.string t] w (UnP w.heap.size (d * 3600 + x * 60, true) w) :=
  zz11 t _ (fun b w hD => read_one b t d _ hN 3 x (clk_last hX 2) x1 x2 w ht hD) w

end Go.Proofs.Qxb6600554a

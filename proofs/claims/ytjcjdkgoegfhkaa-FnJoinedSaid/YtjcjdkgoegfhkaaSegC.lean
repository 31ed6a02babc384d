/- The walk of spec.NextPart: the next part of a pattern as segOf tells it, and false where it is refused. Conditions: at most 2147483647 bytes. -/
import Derived.Test.YtjcjdkgoegfhkaaSegB
import Derived.WalkSmall
import Derived.WalkLawsBesides
import Derived.BigRegion
namespace Go.Proofs.Ytjcjdkgoegfhkaa.Seg
open Go.RowKit

/-- A part as Go holds it. -/
def Part.val (p : Part) : Value := .agg #[.int .i64 p.kind, .string p.key, .string p.expr, .int .u8 p.tail, .int .i64 p.frm, .int .i64 p.til]
def part0 : Part := ⟨0, ⟨#[]⟩, ⟨#[]⟩, 0, 0, 0⟩

def NpPost (p : Part) (ok : Bool) (w : World) (e : Ending) (w' : World) : Prop := e = .returned (.tuple #[p.val, .bool ok]) ∧ Below w.heap.size w w'

set_option maxRecDepth 100000 in
set_option maxHeartbeats 2000000 in
theorem np_A (s : ByteArray) (w : World) (hs : s.size ≤ 2147483647) (h1 : Hid (ix s 123 = none)) (h2 : Hid (ix s 42 = none)) :
    Calls Try.prog 9 #[.string s] w (NpPost ⟨0, ⟨#[]⟩, ⟨#[]⟩, 0, 0, s.size⟩ true w) := by
  go_enter Try.func9, Try.ntmps9
  go_wp2_with fail
  refine (index_any s 123 123 rfl _ (by omega)).mono ?_
  rintro e w' ⟨rfl, rfl⟩
  rw [h1.out]
  simp only [oi]
  go_wp2_with fail
  refine (index_any s 42 42 rfl _ (by omega)).mono ?_
  rintro e w' ⟨rfl, rfl⟩
  rw [h2.out]
  simp only [oi]
  go_wp2_with fail
  exact bodyPost_ret (v := .tuple #[Part.val ⟨0, ⟨#[]⟩, ⟨#[]⟩, 0, 0, s.size⟩, .bool true]) (by simp [results, Try.results9, go_sem, Part.val]) rfl ⟨rfl, ((Below.refl _ w).alloc (Nat.le_refl _) _)⟩

set_option maxRecDepth 100000 in
set_option maxHeartbeats 2000000 in
theorem np_B (s : ByteArray) (w : World) (t : Nat) (hs : s.size ≤ 2147483647) (h1 : Hid (ix s 123 = none)) (h2 : Hid (ix s 42 = some t)) :
    Calls Try.prog 9 #[.string s] w (NpPost ⟨3, ⟨#[42]⟩, ⟨#[]⟩, 0, t, s.size⟩ (decide (t + 1 = s.size)) w) := by
  by_cases h3 : t + 1 = s.size
  · have H3 := Lib.hid h3
    have t1 : ((t : Int) == (s.size : Int) - 1) = true := beq_iff_eq.2 (by omega)
    have t2 : (0 : Int) ≤ (t : Int) := by omega
    clear h3
    go_enter Try.func9, Try.ntmps9
    go_wp2_with fail
    refine (index_any s 123 123 rfl _ (by omega)).mono ?_
    rintro e w' ⟨rfl, rfl⟩
    rw [h1.out]
    simp only [oi]
    go_wp2_with fail
    refine (index_any s 42 42 rfl _ (by omega)).mono ?_
    rintro e w' ⟨rfl, rfl⟩
    rw [h2.out]
    simp only [oi]
    go_wp2_with fail
    exact bodyPost_ret (v := .tuple #[Part.val ⟨3, ⟨#[42]⟩, ⟨#[]⟩, 0, t, s.size⟩, .bool true]) (by simp [results, Try.results9, go_sem, Part.val]) rfl ⟨by rw [decide_eq_true H3.out], ((Below.refl _ w).alloc (Nat.le_refl _) _)⟩
  · have H3 := Lib.hid h3
    have t1 : ((t : Int) == (s.size : Int) - 1) = false := beq_eq_false_iff_ne.2 (by omega)
    have t2 : (0 : Int) ≤ (t : Int) := by omega
    clear h3
    go_enter Try.func9, Try.ntmps9
    go_wp2_with fail
    refine (index_any s 123 123 rfl _ (by omega)).mono ?_
    rintro e w' ⟨rfl, rfl⟩
    rw [h1.out]
    simp only [oi]
    go_wp2_with fail
    refine (index_any s 42 42 rfl _ (by omega)).mono ?_
    rintro e w' ⟨rfl, rfl⟩
    rw [h2.out]
    simp only [oi]
    go_wp2_with fail
    exact bodyPost_ret (v := .tuple #[Part.val ⟨3, ⟨#[42]⟩, ⟨#[]⟩, 0, t, s.size⟩, .bool false]) (by simp [results, Try.results9, go_sem, Part.val]) rfl ⟨by rw [decide_eq_false H3.out], ((Below.refl _ w).alloc (Nat.le_refl _) _)⟩

set_option maxRecDepth 100000 in
set_option maxHeartbeats 2000000 in
theorem np_C (s : ByteArray) (w : World) (o t : Nat) (hs : s.size ≤ 2147483647) (h1 : Hid (ix s 123 = some o)) (h2 : Hid (ix s 42 = some t)) (h3 : t < o) :
    Calls Try.prog 9 #[.string s] w (NpPost part0 false w) := by
  go_enter Try.func9, Try.ntmps9
  go_wp2_with fail
  refine (index_any s 123 123 rfl _ (by omega)).mono ?_
  rintro e w' ⟨rfl, rfl⟩
  rw [h1.out]
  simp only [oi]
  go_wp2_with fail
  refine (index_any s 42 42 rfl _ (by omega)).mono ?_
  rintro e w' ⟨rfl, rfl⟩
  rw [h2.out]
  simp only [oi]
  go_wp2_with fail
  exact bodyPost_ret (v := .tuple #[Part.val ⟨0, ⟨#[]⟩, ⟨#[]⟩, 0, 0, 0⟩, .bool false]) (by simp [results, Try.results9, go_sem, Part.val]) rfl ⟨rfl, ((Below.refl _ w).alloc (Nat.le_refl _) _)⟩

end Go.Proofs.Ytjcjdkgoegfhkaa.Seg

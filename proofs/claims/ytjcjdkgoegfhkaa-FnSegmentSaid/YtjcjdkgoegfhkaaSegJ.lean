/- The law FnSegment walked: it returns true. Conditions: none. -/
import Derived.Test.YtjcjdkgoegfhkaaSegI
import Derived.Laws.StructEq
namespace Go.Proofs.Ytjcjdkgoegfhkaa.Seg
open Go.RowKit

def TruePost (w : World) (e : Ending) (w' : World) : Prop := e = .returned (.bool true) ∧ Below w.heap.size w w'

theorem cell_old {w : World} {b j : Nat} {v : Value} (o : Obj) (h : w.cell? ⟨b, j, none⟩ = some v) : (w.alloc o).cell? ⟨b, j, none⟩ = some v :=
  (((Below.refl _ w).alloc (Nat.le_refl _) o).cell (p := ⟨b, j, none⟩) (World.block_lt_of_cell? w _ h)).trans h

theorem law_below {w w1 w2 : World} {a b : Obj} (h1 : Below w.heap.size w w1) (h2 : Below (w1.alloc a).heap.size (w1.alloc a) w2) : Below w.heap.size w (w2.alloc b) := by
  have hs := h1.size
  have hs2 := h2.size
  rw [World.size_alloc] at hs2
  exact ((h1.alloc hs _).trans (h2.mono (by rw [World.size_alloc]; omega))).alloc (by omega) _

set_option maxRecDepth 100000 in
set_option maxHeartbeats 4000000 in
theorem law_any (s : ByteArray) (w : World) : Calls Try.prog 4 #[.string s] w (TruePost w) := by
  by_cases h1 : 2147483647 < s.size
  · go_enter Try.func4, Try.ntmps4
    go_wp2_with fail
    go_ret
    exact ⟨rfl, Below.refl _ _⟩
  · by_cases h2 : 100 < s.size
    · go_enter Try.func4, Try.ntmps4
      go_wp2_with fail
      go_ret
      exact ⟨rfl, Below.refl _ _⟩
    · cases hg : segOf s with
      | none =>
        obtain ⟨p, hp⟩ := np_none s w (by omega) hg
        have HC := fun w => Lib.hid (segment_none s w (by omega) hg)
        have HP := Lib.hid hp
        clear hg hp
        obtain ⟨pk, pkey, px, pt, pf, pto⟩ := p
        go_enter Try.func4, Try.ntmps4
        go_wp2_with fail
        refine HP.out.mono ?_
        rintro e w1 ⟨rfl, hB1⟩
        dsimp only [Part.val]
        go_wp2_with fail
        refine (HC _).out.mono ?_
        rintro e w2 ⟨rfl, hB2⟩
        dsimp only [Part.val, part0]
        go_wp2_with fail
        go_ret
        exact ⟨rfl, law_below hB1 hB2⟩
      | some p =>
        have HC := fun w => Lib.hid (segment_some s w (by omega) p hg)
        have HP := Lib.hid (np_some s w (by omega) p hg)
        clear hg
        obtain ⟨pk, pkey, px, pt, pf, pto⟩ := p
        go_enter Try.func4, Try.ntmps4
        go_wp2_with fail
        refine HP.out.mono ?_
        rintro e w1 ⟨rfl, hB1⟩
        dsimp only [Part.val]
        go_wp2_with fail
        refine (HC _).out.mono ?_
        rintro e w2 ⟨rfl, hB2⟩
        dsimp only [Part.val]
        have c0 := hB2.cell (p := ⟨w1.heap.size, 0, none⟩) (by simp)
        have c1 := hB2.cell (p := ⟨w1.heap.size, 1, none⟩) (by simp)
        have c2 := hB2.cell (p := ⟨w1.heap.size, 2, none⟩) (by simp)
        have c3 := hB2.cell (p := ⟨w1.heap.size, 3, none⟩) (by simp)
        have c4 := hB2.cell (p := ⟨w1.heap.size, 4, none⟩) (by simp)
        have c5 := hB2.cell (p := ⟨w1.heap.size, 5, none⟩) (by simp)
        simp at c0 c1 c2 c3 c4 c5
        have e0 := cell_old (.cells #[.int .i64 pk, .string pkey, .string px, .int .u8 pt, .int .i64 pf, .int .i64 pto] 27) c0
        have e1 := cell_old (.cells #[.int .i64 pk, .string pkey, .string px, .int .u8 pt, .int .i64 pf, .int .i64 pto] 27) c1
        have e2 := cell_old (.cells #[.int .i64 pk, .string pkey, .string px, .int .u8 pt, .int .i64 pf, .int .i64 pto] 27) c2
        have e3 := cell_old (.cells #[.int .i64 pk, .string pkey, .string px, .int .u8 pt, .int .i64 pf, .int .i64 pto] 27) c3
        have e4 := cell_old (.cells #[.int .i64 pk, .string pkey, .string px, .int .u8 pt, .int .i64 pf, .int .i64 pto] 27) c4
        have e5 := cell_old (.cells #[.int .i64 pk, .string pkey, .string px, .int .u8 pt, .int .i64 pf, .int .i64 pto] 27) c5
        clear c0 c1 c2 c3 c4 c5
        have hz := hB2.size
        simp at hz
        go_wp2_with fail
        go_ret
        exact ⟨rfl, law_below hB1 hB2⟩

/-- The law's walk, in the form of its row. -/
theorem law_walk (w : World) (s : ByteArray) (_hs : s.size ≤ 140737488351232) : Calls Try.prog 4 #[.string s] w (fun e w' => e = .returned (.bool true) ∧ Below w.heap.size w w') := law_any s w

end Go.Proofs.Ytjcjdkgoegfhkaa.Seg

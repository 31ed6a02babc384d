/- The walk of impl.Joined over RoutePattern: the texts one behind the other, the wildcards replaced, and what stands at the end cut off. Conditions: one to ten texts. -/
import Derived.Test.YtjcjdkgoegfhkaaJoiD
import Derived.Test.YtjcjdkgoegfhkaaShelf
import Derived.Test.YtjcjdkgoegfhkaaKeyC
import Derived.Test.YtjcjdkgoegfhkaaParA
namespace Go.Proofs.Ytjcjdkgoegfhkaa.Joi
open Go.RowKit Seg Lib

def cat (K : List ByteArray) : ByteArray := ⟨(Lib.join (K.map (·.data.toList)) []).toArray⟩
def cut (s p : ByteArray) : ByteArray := ⟨(Lib.trimSuffix s.data.toList p.data.toList).toArray⟩
/-- What RoutePattern cuts off at the end. -/
def ended (s : ByteArray) : ByteArray := if (s.toList == (⟨#[47]⟩ : ByteArray).toList) = true then s else cut (cut s ⟨#[47, 47]⟩) ⟨#[47]⟩

theorem own_cap {w : World} {base : Nat} {v : Value} {K : List ByteArray} (h : w.ownsRow base 9 1 v K.length (K.map Value.string)) (h0 : 0 < K.length) : ∃ g c, v = .slice (some ⟨g, 0, none⟩) K.length c ∧ K.length ≤ c ∧ g < w.heap.size ∧ base ≤ g ∧ (∀ (j : Nat) x, K[j]? = some x → w.cell? ⟨g, 0 + j, none⟩ = some (.string x)) := by
  rcases h.2 with ⟨_, e0⟩ | ⟨g, cap, cur, rfl, hb, hrest⟩
  · omega
  · refine ⟨g, cap, rfl, ?_, (h.lt g rfl).2, hb, fun j x hj => ?_⟩
    · exact hrest.2.1
    · have := h.cells (g := g) rfl j (.string x) (by simp [hj])
      rw [Go.WideShapes.add_plain] at this; exact this

set_option maxRecDepth 100000 in
set_option maxHeartbeats 2000000 in
theorem route_any (b g cc : Nat) (K : List ByteArray) (w : World) (hc : w.cell? ⟨b, 8, none⟩ = some (.slice (some ⟨g, 0, none⟩) K.length cc)) (hcells : ∀ (j : Nat) x, K[j]? = some x → w.cell? ⟨g, 0 + j, none⟩ = some (.string x)) (hg : g < w.heap.size) (hcap : K.length ≤ cc) (hK : K.length ≤ 10) (hJ : (cat K).size ≤ 140737488355328) (S : ByteArray) (hS : S.size ≤ 140737488355328)
    (hW : ∀ w, Calls Try.prog 42 #[.string (cat K)] w fun e w' => e = .returned (.string S) ∧ Below w.heap.size w w') :
    Calls Try.prog 36 #[.pointer (some ⟨b, 0, none⟩)] w fun e w' => e = .returned (.string (ended S)) ∧ Below w.heap.size w w' := by
  have HJ := Lib.hid (Try.strings_Join g 0 cc K ⟨#[]⟩ w hcells hg (by omega) hcap hJ)
  have HW := Lib.hid hW
  have HT1 := fun w => Lib.hid (Try.strings_TrimSuffix S ⟨#[47, 47]⟩ w (by omega))
  have hcs : (cut S ⟨#[47, 47]⟩).size ≤ S.size := by
    show (Lib.trimSuffix S.data.toList _).length ≤ S.data.toList.length
    unfold Lib.trimSuffix
    split
    · rw [List.length_take]; omega
    · exact Nat.le_refl _
  have HT2 := fun w => Lib.hid (Try.strings_TrimSuffix (cut S ⟨#[47, 47]⟩) ⟨#[47]⟩ w (by omega))
  clear hcells hW
  change ∀ w, Hid (Calls Try.prog 43 _ w fun e w' => e = .returned (.string (cut S ⟨#[47, 47]⟩)) ∧ w' = w) at HT1
  change ∀ w, Hid (Calls Try.prog 43 _ w fun e w' => e = .returned (.string (cut (cut S ⟨#[47, 47]⟩) ⟨#[47]⟩)) ∧ w' = w) at HT2
  change Hid (Calls Try.prog 41 _ w fun e w' => e = .returned (.string (cat K)) ∧ Below w.heap.size w w') at HJ
  cases h : (S.toList == (⟨#[47]⟩ : ByteArray).toList) with
  | true =>
    have HR := Lib.hid (show ended S = S from if_pos h)
    rw [Lib.toList_data ⟨#[47]⟩] at h
    go_enter Try.func36, Try.ntmps36
    go_wp2_with fail
    refine HJ.out.mono ?_
    rintro e w1 ⟨rfl, hB1⟩
    go_wp2_with fail
    refine (HW.out _).mono ?_
    rintro e w2 ⟨rfl, hB2⟩
    go_wp2_with fail
    go_ret
    exact ⟨by rw [HR.out]; rfl, hB1.trans (hB2.mono hB1.size)⟩
  | false =>
    have HR := Lib.hid (show ended S = cut (cut S ⟨#[47, 47]⟩) ⟨#[47]⟩ from if_neg (by rw [h]; decide))
    rw [Lib.toList_data ⟨#[47]⟩] at h
    go_enter Try.func36, Try.ntmps36
    go_wp2_with fail
    refine HJ.out.mono ?_
    rintro e w1 ⟨rfl, hB1⟩
    go_wp2_with fail
    refine (HW.out _).mono ?_
    rintro e w2 ⟨rfl, hB2⟩
    go_wp2_with fail
    refine (HT1 _).out.mono ?_
    rintro e w3 ⟨rfl, rfl⟩
    go_wp2_with fail
    refine (HT2 _).out.mono ?_
    rintro e w3 ⟨rfl, rfl⟩
    go_wp2_with fail
    go_ret
    exact ⟨by rw [HR.out]; rfl, hB1.trans (hB2.mono hB1.size)⟩

set_option maxRecDepth 100000 in
set_option maxHeartbeats 2000000 in
theorem joined_any (K : List ByteArray) (a : Option Addr) (c : Nat) (w : World) (hr : Rd w a K) (h0 : 0 < K.length) (hK : K.length ≤ 10) (hJ : (cat K).size ≤ 140737488355328) (S : ByteArray) (hS : S.size ≤ 140737488355328)
    (hW : ∀ w, Calls Try.prog 42 #[.string (cat K)] w fun e w' => e = .returned (.string S) ∧ Below w.heap.size w w') :
    Calls Try.prog 17 #[.slice a K.length c] w fun e w' => e = .returned (.string (ended S)) ∧ Below w.heap.size w w' := by
  have HN := Lib.hid (Par.new_ctx w)
  go_enter Try.func17, Try.ntmps17
  go_wp2_with fail
  refine HN.out.mono ?_
  rintro e w1 ⟨rfl, hw1⟩
  have hblk : w1.heap[w.heap.size]? = some (.cells (Par.ctxCells (.slice none 0 0) (.slice none 0 0)) 49 (0, 0)) := by rw [hw1]; exact heap_alloc_new _ _
  have hs1 : w1.heap.size = w.heap.size + 1 := by rw [hw1, World.size_alloc]
  have hr1 : Rd w1 a K := fun j hj => by
    obtain ⟨b, off, e, h2, h3⟩ := hr j hj
    exact ⟨b, off, e, by omega, by rw [hw1]; exact cell_old _ h3⟩
  have hB1 : Below w.heap.size w w1 := by rw [hw1]; exact (Below.refl _ w).alloc (Nat.le_refl _) _
  have HC := Lib.hid (copied_any a c K w1 hr1 (by omega))
  clear hw1 hr1 hr HN
  go_wp2_with fail
  refine HC.out.mono ?_
  rintro e w2 ⟨v, rfl, hown, hB2⟩
  obtain ⟨g, cc, rfl, hcap, hg, hbg, hcells⟩ := own_cap hown h0
  have hblk2 : w2.heap[w.heap.size]? = some (.cells (Par.ctxCells (.slice none 0 0) (.slice none 0 0)) 49 (0, 0)) := (hB2.block _ (by omega)).trans hblk
  have c8 : w2.cell? ⟨w.heap.size, 8, none⟩ = some (.slice none 0 0) := by rw [cell_of_row w2 _ 8 _ 49 (0, 0) hblk2]; rfl
  have f8 : w2.frozen? ⟨w.heap.size, 8, none⟩ = false := Par.free_at hblk2 8
  have hc3 : (w2.setCell ⟨w.heap.size, 8, none⟩ (.slice (some ⟨g, 0, none⟩) K.length cc)).cell? ⟨w.heap.size, 8, none⟩ = some (.slice (some ⟨g, 0, none⟩) K.length cc) := World.cell?_setCell_same' _ _ _ (by rw [c8]; rfl)
  have hcells3 : ∀ (j : Nat) x, K[j]? = some x → (w2.setCell ⟨w.heap.size, 8, none⟩ (.slice (some ⟨g, 0, none⟩) K.length cc)).cell? ⟨g, 0 + j, none⟩ = some (.string x) := fun j x hj => (World.cell?_setCell_far w2 _ _ _ (by show w.heap.size ≠ g; omega)).trans (hcells j x hj)
  have HP := Lib.hid (route_any w.heap.size g cc K (w2.setCell ⟨w.heap.size, 8, none⟩ (.slice (some ⟨g, 0, none⟩) K.length cc)) hc3 hcells3 (by simpa [World.setCell] using hg) hcap hK hJ S hS hW)
  have hB3 := (hB1.trans (hB2.mono hB1.size)).setCell (p := ⟨w.heap.size, 8, none⟩) (Nat.le_refl _) (.slice (some ⟨g, 0, none⟩) K.length cc)
  clear hcells hcells3 hW
  go_wp2_with fail
  refine HP.out.mono ?_
  rintro e w4 ⟨rfl, hB4⟩
  go_wp2_with fail
  go_ret
  exact ⟨rfl, hB3.trans (hB4.mono hB3.size)⟩

end Go.Proofs.Ytjcjdkgoegfhkaa.Joi

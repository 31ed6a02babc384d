/- The routing context of impl.Param: NewRouteContext lays it, RouteParams.Add appends a key and a value. Conditions: none but sizes. -/
import Derived.Test.YtjcjdkgoegfhkaaProg
import Derived.WalkKit
import Derived.WalkSmall
import Derived.WalkLawsBesides
import Derived.Deep.AppendLies
import Derived.OneCell
import Derived.Outline
namespace Go.Proofs.Ytjcjdkgoegfhkaa.Par
open Go.RowKit

theorem info9 : (Try.prog.info? 9).map (fun i => (i.zero, i.size, i.bytes)) = some (some (.string ⟨#[]⟩), 1, 16) := by kernel_rfl

/-- The cells of a routing context whose keys and values are the slices vK and vV. -/
def ctxCells (vK vV : Value) : Array Value := #[.nilIface, .string ⟨#[]⟩, .string ⟨#[]⟩, vK, vV, .slice none 0 0, .slice none 0 0, .string ⟨#[]⟩, .slice none 0 0, .slice none 0 0, .bool false]

theorem new_ctx (w : World) : Calls Try.prog 19 #[] w fun e w' => e = .returned (.pointer (some ⟨w.heap.size, 0, none⟩)) ∧ w' = w.alloc (.cells (ctxCells (.slice none 0 0) (.slice none 0 0)) 49) := by
  go_enter Try.func19, Try.ntmps19
  go_wp2
  go_ret
  exact ⟨rfl, rfl⟩


/-- Block b holds a routing context whose keys and values are the call's own rows ks and vs, in blocks behind b, apart from each other. -/
structure Ctx (b : Nat) (w : World) (vK vV : Value) (ks vs : List ByteArray) : Prop where
  blk : w.heap[b]? = some (.cells (ctxCells vK vV) 49 (0, 0))
  own : w.ownsRow (b + 1) 9 1 vK ks.length (ks.map Value.string)
  ownV : w.ownsRow (b + 1) 9 1 vV vs.length (vs.map Value.string)
  ne : ∀ g, vK.ownBlock = some g → vV.ownBlock = some g → False

theorem cell_at {w : World} {b : Nat} {cs : Array Value} {t : TypeId} (h : w.heap[b]? = some (.cells cs t (0, 0))) (j : Nat) (v : Value) (hj : cs[j]? = some v) : w.cell? ⟨b, j, none⟩ = some v := by
  rw [cell_of_row w b j cs t (0, 0) h]; exact hj
theorem free_at {w : World} {b : Nat} {cs : Array Value} {t : TypeId} (h : w.heap[b]? = some (.cells cs t (0, 0))) (j : Nat) : w.frozen? ⟨b, j, none⟩ = false := by
  simp [World.frozen?, h]

theorem setCell_heap_other (w : World) (a : Addr) (u : Value) (k : Nat) (h : k ≠ a.block) : (w.setCell a u).heap[k]? = w.heap[k]? := by
  simp [World.setCell, Array.getElem?_modify, Ne.symm h]
theorem setCell_heap_same {w : World} {b : Nat} {cs : Array Value} {t : TypeId} (h : w.heap[b]? = some (.cells cs t (0, 0))) (j : Nat) (u : Value) :
    (w.setCell ⟨b, j, none⟩ u).heap[b]? = some (.cells (cs.setIfInBounds j u) t (0, 0)) := by
  simp [World.setCell, Array.getElem?_modify, h]
theorem grown_setCell (w : World) (a : Addr) (u : Value) : w.grownBy (w.setCell a u) (some a.block) :=
  ⟨rfl, rfl, rfl, by simp [World.setCell], fun k _ hne => setCell_heap_other w a u k (fun e => hne (by rw [e]))⟩

theorem Ctx.alloc {b : Nat} {w : World} {vK vV : Value} {ks vs : List ByteArray} (h : Ctx b w vK vV ks vs) (o : Obj) : Ctx b (w.alloc o) vK vV ks vs := by
  have hlt : b < w.heap.size := (Array.getElem?_eq_some_iff.1 h.blk).1
  exact ⟨by rw [Below.heap_alloc _ _ _ hlt]; exact h.blk, h.own.alloc o, h.ownV.alloc o, h.ne⟩

theorem Ctx.lt {b : Nat} {w : World} {vK vV : Value} {ks vs : List ByteArray} (h : Ctx b w vK vV ks vs) : b < w.heap.size := (Array.getElem?_eq_some_iff.1 h.blk).1

theorem Ctx.addK {b : Nat} {w w1 : World} {vK vV : Value} {ks vs : List ByteArray} (h : Ctx b w vK vV ks vs) {g cap : Nat} {k : ByteArray}
    (ho : w1.ownsRow (b + 1) 9 1 (.slice (some ⟨g, 0, none⟩) (ks.length + 1) cap) (ks.length + 1) (ks.map Value.string ++ [.string k])) (hg : w.grownBy w1 vK.ownBlock) (hat : vK.ownBlock = some g ∨ g = w.heap.size) :
    Ctx b (w1.setCell ⟨b, 3, none⟩ (.slice (some ⟨g, 0, none⟩) (ks.length + 1) cap)) (.slice (some ⟨g, 0, none⟩) (ks.length + 1) cap) vV (ks ++ [k]) vs := by
  have hgb : b + 1 ≤ g := (ho.lt g rfl).1
  have hb1 : w1.heap[b]? = some (.cells (ctxCells vK vV) 49 (0, 0)) := (hg.block b h.lt (fun e => by have := (h.own.lt b e.symm).1; omega)).trans h.blk
  refine ⟨setCell_heap_same hb1 3 _, ?_, ?_, ?_⟩
  · have := ho.kept (grown_setCell w1 ⟨b, 3, none⟩ (.slice (some ⟨g, 0, none⟩) (ks.length + 1) cap)) (.inr (by simp [Value.ownBlock]; omega))
    simpa using this
  · refine (h.ownV.kept hg ?_).kept (grown_setCell w1 ⟨b, 3, none⟩ _) ?_
    · cases hv : vV.ownBlock with
      | none => exact .inl rfl
      | some q => exact .inr (fun e => h.ne q e.symm hv)
    · cases hv : vV.ownBlock with
      | none => exact .inl rfl
      | some q => exact .inr (fun e => by have := (h.ownV.lt q hv).1; simp at e; omega)
  · intro q e1 e2
    simp [Value.ownBlock] at e1
    subst e1
    rcases hat with hat | hat
    · exact h.ne _ hat e2
    · have := (h.ownV.lt _ e2).2; omega

theorem Ctx.addV {b : Nat} {w w1 : World} {vK vV : Value} {ks vs : List ByteArray} (h : Ctx b w vK vV ks vs) {g cap : Nat} {k : ByteArray}
    (ho : w1.ownsRow (b + 1) 9 1 (.slice (some ⟨g, 0, none⟩) (vs.length + 1) cap) (vs.length + 1) (vs.map Value.string ++ [.string k])) (hg : w.grownBy w1 vV.ownBlock) (hat : vV.ownBlock = some g ∨ g = w.heap.size) :
    Ctx b (w1.setCell ⟨b, 4, none⟩ (.slice (some ⟨g, 0, none⟩) (vs.length + 1) cap)) vK (.slice (some ⟨g, 0, none⟩) (vs.length + 1) cap) ks (vs ++ [k]) := by
  have hgb : b + 1 ≤ g := (ho.lt g rfl).1
  have hb1 : w1.heap[b]? = some (.cells (ctxCells vK vV) 49 (0, 0)) := (hg.block b h.lt (fun e => by have := (h.ownV.lt b e.symm).1; omega)).trans h.blk
  refine ⟨setCell_heap_same hb1 4 _, ?_, ?_, ?_⟩
  · refine (h.own.kept hg ?_).kept (grown_setCell w1 ⟨b, 4, none⟩ _) ?_
    · cases hv : vK.ownBlock with
      | none => exact .inl rfl
      | some q => exact .inr (fun e => h.ne q hv e.symm)
    · cases hv : vK.ownBlock with
      | none => exact .inl rfl
      | some q => exact .inr (fun e => by have := (h.own.lt q hv).1; simp at e; omega)
  · have := ho.kept (grown_setCell w1 ⟨b, 4, none⟩ (.slice (some ⟨g, 0, none⟩) (vs.length + 1) cap)) (.inr (by simp [Value.ownBlock]; omega))
    simpa using this
  · intro q e1 e2
    simp [Value.ownBlock] at e2
    subst e2
    rcases hat with hat | hat
    · exact h.ne _ e1 hat
    · have := (h.own.lt _ e1).2; omega

theorem news_one (W : World) (n : Nat) (hn : W.heap.size = n) (v : Value) (t : TypeId) : ∀ j u, [v][j]? = some u → (W.alloc (.cells #[v] t)).cell? ((⟨n, 0, none⟩ : Addr).add j) = some u := by subst hn; exact cell_one_new _ _ _

theorem below_one {b : Nat} {w w1 : World} {row : Option Nat} {o : Obj} {j : Nat} {u : Value} (hlt : b < w.heap.size) (hg : (w.alloc o).grownBy w1 row) (hr : ∀ q, row = some q → b ≤ q) : Below b w (w1.setCell ⟨b, j, none⟩ u) ∧ b < w1.heap.size := by
  have hs := hg.size
  rw [World.size_alloc] at hs
  have h1 : Below b w (w.alloc o) := (Below.refl b w).alloc (by omega) _
  have h2 : Below b w w1 := Below.grown h1 hg (by rw [World.size_alloc]; omega) (fun q e => hr q e)
  exact ⟨h2.setCell (p := ⟨b, j, none⟩) (Nat.le_refl _) _, by omega⟩

theorem below_two {b : Nat} {w0 w w1 : World} {row : Option Nat} {o : Obj} {j : Nat} {u : Value} (hb : Below b w0 w) (hlt : b < w.heap.size) (hg : (w.alloc o).grownBy w1 row) (hr : ∀ q, row = some q → b ≤ q) : Below b w0 (w1.setCell ⟨b, j, none⟩ u) ∧ b < w1.heap.size :=
  ⟨hb.trans (below_one hlt hg hr).1, (below_one (j := j) (u := u) hlt hg hr).2⟩

theorem Ctx.blk1 {b : Nat} {w w1 : World} {vK vV : Value} {ks vs : List ByteArray} (h : Ctx b w vK vV ks vs) {row : Option Nat} (hg : w.grownBy w1 row) (hr : ∀ q, row = some q → b + 1 ≤ q) : w1.heap[b]? = some (.cells (ctxCells vK vV) 49 (0, 0)) :=
  (hg.block b h.lt (fun e => by have := hr b e.symm; omega)).trans h.blk

set_option maxRecDepth 100000 in
set_option maxHeartbeats 1000000 in
theorem add_any (b : Nat) (w : World) (vK vV : Value) (ks vs : List ByteArray) (k v : ByteArray) (h : Ctx b w vK vV ks vs) (hk : ks.length ≤ 1000) (hv : vs.length ≤ 1000) :
    Calls Try.prog 20 #[.pointer (some ⟨b, 3, none⟩), .string k, .string v] w fun e w' => e = .returned (.tuple #[]) ∧ (∃ vK' vV', Ctx b w' vK' vV' (ks ++ [k]) (vs ++ [v])) ∧ Below b w w' := by
  obtain ⟨i0, hi, hz0, hz1, hz2⟩ := info_parts info9
  have hc3 : w.cell? ⟨b, 3, none⟩ = some vK := cell_at h.blk 3 vK rfl
  go_enter Try.func20, Try.ntmps20
  have hown := h.own
  have hlt : b < w.heap.size := h.lt
  have h1000 : ks.length + 1 ≤ maxLen := by unfold maxLen; omega
  have h1000v : vs.length + 1 ≤ maxLen := by unfold maxLen; omega
  go_wp2_with (first | (at_builtin; refine wpList_append_lies _ rfl (.tmp 10) (.tmp 12) 22 rfl (b + 1) 9 i0 (.string ⟨#[]⟩) 1 16 Try.underlying22 hi hz0 hz1 hz2 rfl (by decide) vK ks.length (ks.map Value.string) rfl (hown.alloc _) ⟨w.heap.size, 0, none⟩ 1 1 [.string k] rfl rfl (cell_one_new _ _ _) (by simp [Value.oneCell']) (by omega) h1000 (by omega) (by rw [World.size_alloc]; omega) _ rfl ?_; intro g cap w1 hown1 hgrow hat hlt1; have C1 := (h.alloc _).addK hown1 hgrow hat; have hb1 := (h.alloc _).blk1 hgrow (fun q e => (hown.lt q e).1); have hf1 : w1.frozen? ⟨b, 3, none⟩ = false := free_at hb1 3; have hd1 := cell_at hb1 3 vK rfl; have hd2 := cell_at hb1 4 vV rfl; have hB1 := below_one (j := 3) (u := .slice (some ⟨g, 0, none⟩) (ks.length + 1) cap) hlt hgrow (fun q e => Nat.le_of_succ_le (hown.lt q e).1); have hlt2 := hB1.2; clear hown1 hgrow hat hb1 hc3 hown) | (at_builtin; refine wpList_append_lies _ rfl (.tmp 20) (.tmp 22) 22 rfl (b + 1) 9 i0 (.string ⟨#[]⟩) 1 16 Try.underlying22 hi hz0 hz1 hz2 rfl (by decide) vV vs.length (vs.map Value.string) rfl (C1.ownV.alloc _) ⟨w1.heap.size, 0, none⟩ 1 1 [.string v] rfl rfl (news_one _ _ (by simp [World.setCell]) _ _) (by simp [Value.oneCell']) (by omega) h1000v (by omega) (by rw [World.size_alloc]; have := C1.lt; omega) _ rfl ?_; intro g2 cap2 w2 hown2 hgrow2 hat2 hlt3; have C2 := (C1.alloc _).addV hown2 hgrow2 hat2; have hb2 := (C1.alloc _).blk1 hgrow2 (fun q e => (C1.ownV.lt q e).1); have hf2 : w2.frozen? ⟨b, 4, none⟩ = false := free_at hb2 4; have hd3 := cell_at hb2 4 vV rfl; have hB2 := below_two (j := 4) (u := .slice (some ⟨g2, 0, none⟩) (vs.length + 1) cap2) hB1.1 C1.lt hgrow2 (fun q e => Nat.le_of_succ_le (C1.ownV.lt q e).1); clear hown2 hgrow2 hat2 hb2 hd1 hd2 hf1))
  refine bodyPost_end (results_none rfl _ _ _) rfl ?_
  exact ⟨rfl, ⟨_, _, C2⟩, hB2.1⟩

end Go.Proofs.Ytjcjdkgoegfhkaa.Par

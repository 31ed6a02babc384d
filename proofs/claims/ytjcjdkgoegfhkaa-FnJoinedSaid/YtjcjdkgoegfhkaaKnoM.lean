/- What the loop over a set of bytes holds of memory: two rows of bytes, the atom's block, the row of atoms. -/
import Derived.Test.YtjcjdkgoegfhkaaKnoL
import Derived.Test.YtjcjdkgoegfhkaaKeyB
import Derived.Deep.RegionHeld3
import Derived.Deep.AppendLies
namespace Go.Proofs.Ytjcjdkgoegfhkaa.Tail
open Go
variable {P : Program} {ops : Array Oper} {Q : Exit → Act → World → Prop} {md : Region.Mode} {S : World → Prop} {T : Nat → Bool}

/-- Each of the operations comes up next; behind it the rest goes in whatever order. -/
def AllT (P : Program) (md : Region.Mode) (ops : Array Oper) (Q : Exit → Act → World → Prop) (S : World → Prop) (T : Nat → Bool) (fuel : Nat) (listed : Array Bool) (a : Act) (w : World) (rs : List Nat) : Prop :=
  ∀ i ∈ rs, wpOp P ops Q i (fun a' w' => (T i = false → S w') ∧ wpAnyT P md ops Q S T fuel (listed.setIfInBounds i true) a' w') a w

theorem AllT.nil {fuel : Nat} {listed : Array Bool} {a : Act} {w : World} : AllT P md ops Q S T fuel listed a w [] := fun _ h => by cases h

theorem AllT.cons {fuel : Nat} {listed : Array Bool} {a : Act} {w : World} {i : Nat} {o : Oper} {rs : List Nat} (ho : ops[i]? = some o)
    (h : ∀ K' : Act → World → Prop, Shut (∀ a w, (T i = false → S w) → ((T i = false → S w) → wpAnyT P md ops Q S T fuel (listed.setIfInBounds i true) a w) → K' a w) → if Region.wanted o (yielded ops a.tmps) = true then Oper.wp P o a w K' Q else K' (a.put o.dst undef) w)
    (hs : AllT P md ops Q S T fuel listed a w rs) : AllT P md ops Q S T fuel listed a w (i :: rs) := fun j hj => by
  rcases List.mem_cons.1 hj with rfl | hj
  · exact wpOp_step ho (fun K' hK => h K' (fun a w hS hW => hK a w ⟨hS, hW hS⟩))
  · exact hs j hj

theorem wp_region_drew {id : Nat} {a : Act} {w : World} (hm : P.follows .mixedOrders = true)
    (h : wpAny P .any ops Q ops.size (Array.replicate ops.size false) a w.drew) : (Code.region id ops true).wp P Q a w := wp_region_any hm h

theorem n0 {o : Oper} {l : List Oper} : (o :: l).toArray[0]? = some o := rfl
theorem ns {o p : Oper} {l : List Oper} {n : Nat} (h : l.toArray[n]? = some p) : (o :: l).toArray[n + 1]? = some p := by
  simp only [List.getElem?_toArray, List.getElem?_cons_succ] at h ⊢
  exact h

theorem wpAnyT_ready {rs : List Nat} {fuel : Nat} {listed : Array Bool} {a : Act} {w : World} (hr : Region.ready md ops listed = rs) (hne : rs ≠ [])
    (h : AllT P md ops Q S T fuel listed a w rs) : wpAnyT P md ops Q S T (fuel + 1) listed a w := wpAnyT_all hr hne h
end Go.Proofs.Ytjcjdkgoegfhkaa.Tail

namespace Go.Proofs.Ytjcjdkgoegfhkaa.Joi
open Go.RowKit Seg

/-- A store elsewhere leaves a row as it is. -/
theorem own_far {w : World} {base : Nat} {e : TypeId} {size n : Nat} {v : Value} {xs : List Value} (h : w.ownsRow base e size v n xs) {p : Addr} (hp : ∀ q, v.ownBlock = some q → q ≠ p.block) (u : Value) : (w.setCell p u).ownsRow base e size v n xs :=
  h.kept (row := some p.block) ⟨rfl, rfl, rfl, by simp [World.setCell], fun k _ hne => Below.heap_setCell w p u k (fun e => hne (by rw [e]))⟩ (by
    cases hv : v.ownBlock with
    | none => exact .inl rfl
    | some q => exact .inr (fun e => hp q hv (by simpa using e)))

/-- Two rows of bytes in blocks of their own behind the atom's block bp; the atom's cells cs; the row of atoms v ahead of it. -/
structure St (w0 : World) (B bp : Nat) (v : Value) (n : Nat) (xs : List Value) (cs : Array Value) (v0 : Value) (n0 : Nat) (x0 : List Value) (v1 : Value) (n1 : Nat) (x1 : List Value) (W : World) : Prop where
  blk : W.heap[bp]? = some (.cells cs 75 (0, 0))
  r0 : W.ownsRow (bp + 1) 5 1 v0 n0 x0
  r1 : W.ownsRow (bp + 1) 5 1 v1 n1 x1
  ne : v0.ownBlock = none ∨ v0.ownBlock ≠ v1.ownBlock
  out : W.ownsRow B 75 4 v n xs
  outlt : ∀ q, v.ownBlock = some q → q < bp
  bel : Below B w0 W
  base : B ≤ bp

theorem clean_step {t : ByteArray} {i : Nat} (h : i < t.size) (hc : ∀ c ∈ t.data.toList.take i, c ≠ 47) (hn : t.data.toList[i]? ≠ some 47) : ∀ c ∈ t.data.toList.take (i + 1), c ≠ 47 := by
  have h4 : i < t.data.toList.length := by simpa using h
  rw [List.take_succ_eq_append_getElem h4]
  intro c hm
  rcases List.mem_append.1 hm with hm | hm
  · exact hc c hm
  · rintro rfl
    rw [List.getElem?_eq_getElem h4] at hn
    simp at hm
    exact hn (by simpa using hm.symm)
theorem at_ne {t : ByteArray} {i : Nat} (h : i < t.size) (hn : t[i] ≠ 47) : t.data.toList[i]? ≠ some 47 := by
  have e : t.data.toList[i]? = some t[i] := by rw [List.getElem?_eq_getElem (by simpa using h)]; rfl
  rw [e]
  simpa using hn

variable {w0 : World} {B bp : Nat} {v : Value} {n : Nat} {xs : List Value} {cs : Array Value} {v0 : Value} {n0 : Nat} {x0 : List Value} {v1 : Value} {n1 : Nat} {x1 : List Value} {W : World}

theorem St.lt (h : St w0 B bp v n xs cs v0 n0 x0 v1 n1 x1 W) : bp < W.heap.size := (Array.getElem?_eq_some_iff.1 h.blk).1
theorem St.drew (h : St w0 B bp v n xs cs v0 n0 x0 v1 n1 x1 W) : St w0 B bp v n xs cs v0 n0 x0 v1 n1 x1 W.drew := ⟨h.blk, h.r0, h.r1, h.ne, h.out, h.outlt, h.bel.drew, h.base⟩
theorem St.alloc (h : St w0 B bp v n xs cs v0 n0 x0 v1 n1 x1 W) (o : Obj) : St w0 B bp v n xs cs v0 n0 x0 v1 n1 x1 (W.alloc o) :=
  ⟨(Below.heap_alloc W o bp h.lt).trans h.blk, h.r0.alloc o, h.r1.alloc o, h.ne, h.out.alloc o, h.outlt, h.bel.alloc (Nat.le_of_lt (Nat.lt_of_le_of_lt h.base h.lt)) o, h.base⟩
theorem St.swap (h : St w0 B bp v n xs cs v0 n0 x0 v1 n1 x1 W) : St w0 B bp v n xs cs v1 n1 x1 v0 n0 x0 W :=
  ⟨h.blk, h.r1, h.r0, by
    rcases h.ne with e | e
    · cases h1 : v1.ownBlock with
      | none => exact .inl rfl
      | some q => rw [e]; exact .inr (by simp)
    · exact .inr (Ne.symm e), h.out, h.outlt, h.bel, h.base⟩
/-- Behind an append to the first row. -/
theorem St.append (h : St w0 B bp v n xs cs v0 n0 x0 v1 n1 x1 W) {W' : World} {g m cap : Nat} {x0' : List Value} (hown : W'.ownsRow (bp + 1) 5 1 (.slice (some ⟨g, 0, none⟩) m cap) m x0') (hg : W.grownBy W' v0.ownBlock) (hat : v0.ownBlock = some g ∨ g = W.heap.size) :
    St w0 B bp v n xs cs (.slice (some ⟨g, 0, none⟩) m cap) m x0' v1 n1 x1 W' := by
  have hlt := h.lt
  have hbp : some bp ≠ v0.ownBlock := fun e => by have := (h.r0.lt bp e.symm).1; omega
  have hk1 : v1.ownBlock = none ∨ v1.ownBlock ≠ v0.ownBlock := h.swap.ne
  refine ⟨(hg.block bp hlt hbp).trans h.blk, hown, h.r1.kept hg hk1, ?_, h.out.kept hg ?_, h.outlt, h.bel.grown hg (Nat.le_of_lt (Nat.lt_of_le_of_lt h.base hlt)) (fun k hk => ?_), h.base⟩
  · refine .inr (fun e => ?_)
    have e' : v1.ownBlock = some g := by simpa [Value.ownBlock] using e.symm
    rcases hat with e2 | e2
    · rcases hk1 with e3 | e3
      · rw [e3] at e'; cases e'
      · exact e3 (e'.trans e2.symm)
    · have := (h.r1.lt g e').2
      omega
  · cases hv : v.ownBlock with
    | none => exact .inl rfl
    | some q =>
      refine .inr (fun e => ?_)
      have h1 := h.outlt q hv
      have h2 := (h.r0.lt q e.symm).1
      omega
  · have := (h.r0.lt k hk).1
    have := h.base
    omega
/-- Behind a store into the atom. -/
theorem St.set (h : St w0 B bp v n xs cs v0 n0 x0 v1 n1 x1 W) (j : Nat) (u : Value) : St w0 B bp v n xs (cs.setIfInBounds j u) v0 n0 x0 v1 n1 x1 (W.setCell ⟨bp, j, none⟩ u) := by
  refine ⟨?_, own_far h.r0 (fun q e => ?_) u, own_far h.r1 (fun q e => ?_) u, h.ne, own_far h.out (fun q e => ?_) u, h.outlt, h.bel.setCell (p := ⟨bp, j, none⟩) h.base u, h.base⟩
  · simp [World.setCell, Array.getElem?_modify, h.blk]
  · have := (h.r0.lt q e).1; show q ≠ bp; omega
  · have := (h.r1.lt q e).1; show q ≠ bp; omega
  · have := h.outlt q e; show q ≠ bp; omega
/-- The beginning. -/
theorem St.start (hblk : W.heap[bp]? = some (.cells cs 75 (0, 0))) (hO : W.ownsRow B 75 4 v n xs) (hOb : ∀ q, v.ownBlock = some q → q < bp) (hB : Below B w0 W) (hb : B ≤ bp) : St w0 B bp v n xs cs (.slice none 0 0) 0 [] (.slice none 0 0) 0 [] W :=
  ⟨hblk, World.ownsRow_nil _ _ _ _, World.ownsRow_nil _ _ _ _, .inl rfl, hO, hOb, hB, hb⟩
theorem St.cell (h : St w0 B bp v n xs cs v0 n0 x0 v1 n1 x1 W) (j : Nat) : W.cell? ⟨bp, j, none⟩ = cs[j]? := cell_of_row W bp j cs 75 (0, 0) h.blk
theorem St.frozen (h : St w0 B bp v n xs cs v0 n0 x0 v1 n1 x1 W) (j : Nat) : W.frozen? ⟨bp, j, none⟩ = false := frozen_of_row W bp j cs 75 h.blk
theorem St.two {c0 c1 c2 c3 : Value} (h : St w0 B bp v n xs #[c0, c1, c2, c3] v0 n0 x0 v1 n1 x1 W) : W.cell? ⟨bp, 0, none⟩ = some c0 ∧ W.cell? ⟨bp, 1, none⟩ = some c1 := ⟨(h.cell 0).trans rfl, (h.cell 1).trans rfl⟩

theorem St.set0 {c0 c1 c2 c3 : Value} (h : St w0 B bp v n xs #[c0, c1, c2, c3] v0 n0 x0 v1 n1 x1 W) (u : Value) : St w0 B bp v n xs #[u, c1, c2, c3] v0 n0 x0 v1 n1 x1 (W.setCell ⟨bp, 0, none⟩ u) := h.set 0 u
theorem St.set1 {c0 c1 c2 c3 : Value} (h : St w0 B bp v n xs #[c0, c1, c2, c3] v0 n0 x0 v1 n1 x1 W) (u : Value) : St w0 B bp v n xs #[c0, u, c2, c3] v0 n0 x0 v1 n1 x1 (W.setCell ⟨bp, 1, none⟩ u) := h.set 1 u

/-- One byte in a block of its own, to be appended. -/
structure News (b : Nat) (u v0 v1 : Value) (W : World) : Prop where
  hn : W.heap[b]? = some (.cells #[u] 5 (0, 0))
  h0 : some b ≠ v0.ownBlock
  h1 : some b ≠ v1.ownBlock
theorem News.lt {b : Nat} {u : Value} (h : News b u v0 v1 W) : b < W.heap.size := (Array.getElem?_eq_some_iff.1 h.hn).1
theorem News.alloc {b : Nat} {u : Value} (h : News b u v0 v1 W) (o : Obj) : News b u v0 v1 (W.alloc o) := ⟨(Below.heap_alloc W o b h.lt).trans h.hn, h.h0, h.h1⟩
theorem News.swap {b : Nat} {u : Value} (h : News b u v0 v1 W) : News b u v1 v0 W := ⟨h.hn, h.h1, h.h0⟩
theorem News.append {b : Nat} {u : Value} (h : News b u v0 v1 W) {W' : World} {g m cap : Nat} (hg : W.grownBy W' v0.ownBlock) (hat : v0.ownBlock = some g ∨ g = W.heap.size) : News b u (.slice (some ⟨g, 0, none⟩) m cap) v1 W' := by
  refine ⟨(hg.block b h.lt h.h0).trans h.hn, ?_, h.h1⟩
  intro e
  have e' : b = g := by simpa [Value.ownBlock] using e
  rcases hat with e2 | e2
  · exact h.h0 (by rw [e2, e'])
  · have := h.lt
    omega
theorem News.new (h : St w0 B bp v n xs cs v0 n0 x0 v1 n1 x1 W) (u : Value) : News W.heap.size u v0 v1 (W.alloc (.cells #[u] 5)) :=
  ⟨heap_alloc_new W _, fun e => by have := (h.r0.lt _ e.symm).2; omega, fun e => by have := (h.r1.lt _ e.symm).2; omega⟩
theorem own_one {base : Nat} {e : TypeId} {size m : Nat} {u : Value} {ys : List Value} (h : W.ownsRow base e size u m ys) : u.oneCell' = true := by
  rcases h.2 with ⟨rfl, _⟩ | ⟨g, cap, cur, rfl, _⟩ <;> rfl
end Go.Proofs.Ytjcjdkgoegfhkaa.Joi

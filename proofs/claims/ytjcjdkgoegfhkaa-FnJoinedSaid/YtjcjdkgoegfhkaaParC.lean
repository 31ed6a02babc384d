/- Context.URLParam: of several values of a key the last one, and the empty text for another key. Conditions: keys and values are equally many, at most 1000. -/
import Derived.Test.YtjcjdkgoegfhkaaParB
namespace Go.Proofs.Ytjcjdkgoegfhkaa.Par
open Go.RowKit Go.Shelf

attribute [local go_sem] Oper.semAt_some

/-- The last value of a key among the first n ones. -/
def lastN (ks vs : List ByteArray) (key : ByteArray) : Nat → ByteArray
  | 0 => ⟨#[]⟩
  | n + 1 => if (ks[n]?.getD ByteArray.empty).toList = key.toList then vs[n]?.getD ByteArray.empty else lastN ks vs key n

theorem lastN_skip (ks vs : List ByteArray) (key : ByteArray) (n : Nat) : ∀ k, k ≤ n → (∀ j, j < k → (ks[n - 1 - j]?.getD ByteArray.empty).toList ≠ key.toList) → lastN ks vs key n = lastN ks vs key (n - k)
  | 0, _, _ => rfl
  | k + 1, hk, h => by
    rw [lastN_skip ks vs key n k (by omega) (fun j hj => h j (by omega))]
    have e := h k (by omega)
    obtain ⟨m, hm⟩ : ∃ m, n - k = m + 1 := ⟨n - k - 1, by omega⟩
    rw [hm, show n - (k + 1) = m by omega, lastN, if_neg (by rwa [show n - 1 - k = m by omega] at e)]

theorem Came.mem {zs : List ByteArray} {n k : Nat} {pre : List (Pr n)} (h : Came zs n k pre) (P : Nat × ByteArray → Prop) (hp : ∀ p ∈ pre, P p.1) (j : Nat) (hj : j < k) : P (back zs n j) := by
  have hm : back zs n j ∈ pre.map (fun x => x.1) := by
    unfold Came at h; rw [h]; unfold upto; exact List.mem_map.2 ⟨j, List.mem_range.2 hj, rfl⟩
  obtain ⟨p, hp1, hp2⟩ := List.mem_map.1 hm
  rw [← hp2]; exact hp p hp1

theorem Came.last {zs : List ByteArray} {n k : Nat} {ini : List (Pr n)} {x : Pr n} (h : Came zs n k (ini ++ [x])) : ∃ j, k = j + 1 ∧ Came zs n j ini ∧ x.1 = back zs n j := by
  have hl := h.length
  rw [List.length_append] at hl
  simp at hl
  obtain ⟨j, rfl⟩ : ∃ j, k = j + 1 := ⟨k - 1, by omega⟩
  unfold Came at h
  rw [List.map_append, upto_succ] at h
  obtain ⟨h1, h2⟩ := List.append_inj' h rfl
  exact ⟨j, rfl, h1, by simpa using h2⟩

set_option maxRecDepth 100000 in
set_option maxHeartbeats 4000000 in
theorem urlparam_in (F : Fence) (m : Nat) (h21 : F.fn 21) (h37 : F.fn 37) (h44 : F.fn 44) (hro : F.round = none) (hm : 3 ≤ m) (b : Nat) (vK vV : Value) (ks vs : List ByteArray) (key : ByteArray) (w : World)
    (hb : b < w.heap.size) (hcK : w.cell? ⟨b, 3, none⟩ = some vK) (hcV : w.cell? ⟨b, 4, none⟩ = some vV) (hK : Strs w.heap.size w vK ks) (hV : Strs w.heap.size w vV vs) (hlen : Hid (vs.length = ks.length)) (hreach : ks.length ≤ 1000) :
    CallsIn F m Try.prog 21 #[.pointer (some ⟨b, 0, none⟩), .string key] w fun e W' => e = .returned (.string (lastN ks vs key ks.length)) ∧ Below w.heap.size w W' := by
  have h1 : 1 ≤ m := by omega
  obtain ⟨aK, lK, cK, rfl⟩ : ∃ a l c, vK = .slice a l c := by rcases hK with ⟨rfl, _⟩ | ⟨b', off, cap, rfl, _⟩ <;> exact ⟨_, _, _, rfl⟩
  refine callsIn_of_wp_marks Try.func21 rfl h21 ?_ hro
  simp only [Try.ntmps21, List.size_toArray, List.length_cons, List.length_nil, Nat.reduceAdd, Nat.reduceSub, Array.replicate_succ, Array.replicate_zero, List.push_toArray, List.append_toArray, List.nil_append, List.cons_append]
  have hB3 : Below w.heap.size w (((w.alloc (.cells #[.pointer (some ⟨b, 0, none⟩)] 41)).alloc (.cells #[.string key] 9)).alloc (.cells #[.string ⟨#[]⟩] 9)) := (((Below.refl _ w).alloc (Nat.le_refl _) _).alloc (by simp) _).alloc (by simp; omega) _
  have hcK3 := (hB3.cell (p := ⟨b, 3, none⟩) hb).trans hcK
  clear hcK
  gi_wp2_with (gi_at_call 37; refine (backward_in F (m - 1) h37 hro _ _ _ _).mono ?_; rintro e w' ⟨rfl, rfl⟩)
  clear hcK3
  have bP := Boxed.new w 41 (.pointer (some ⟨b, 0, none⟩))
  have bQ := Boxed.new (w.alloc (.cells #[.pointer (some ⟨b, 0, none⟩)] 41)) 9 (.string key)
  have bR := Boxed.new ((w.alloc (.cells #[.pointer (some ⟨b, 0, none⟩)] 41)).alloc (.cells #[.string key] 9)) 9 (.string ⟨#[]⟩)
  have bS := Boxed.new (((w.alloc (.cells #[.pointer (some ⟨b, 0, none⟩)] 41)).alloc (.cells #[.string key] 9)).alloc (.cells #[.string ⟨#[]⟩] 9)) 22 (.slice aK lK cK)
  rw [World.size_alloc] at bQ
  rw [World.size_alloc, World.size_alloc] at bR
  rw [World.size_alloc, World.size_alloc, World.size_alloc] at bS
  have bP4 := ((bP.alloc (.cells #[.string key] 9)).alloc (.cells #[.string ⟨#[]⟩] 9)).alloc (.cells #[.slice aK lK cK] 22)
  have bQ4 := (bQ.alloc (.cells #[.string ⟨#[]⟩] 9)).alloc (.cells #[.slice aK lK cK] 22)
  have bR4 := bR.alloc (.cells #[.slice aK lK cK] 22)
  have hB4 := hB3.alloc (by simp; omega) (.cells #[.slice aK lK cK] 22)
  have hK4 : Strs (w.heap.size + 4) _ (.slice aK lK cK) ks := (hK.below hB4).imp id (fun ⟨b', off, cap, e, hb', hc⟩ => ⟨b', off, cap, e, by omega, hc⟩)
  clear bP bQ bR hB3
  generalize hW4 : ((((w.alloc (.cells #[.pointer (some ⟨b, 0, none⟩)] 41)).alloc (.cells #[.string key] 9)).alloc (.cells #[.string ⟨#[]⟩] 9)).alloc (.cells #[.slice aK lK cK] 22)) = W4 at *
  have hs4 : W4.heap.size = w.heap.size + 4 := by rw [← hW4]; simp
  clear hW4
  refine wpIn_rangeFunc_ownG hro h1 (gf := 44) (lb := #[.pointer (some ⟨w.heap.size + 3, 0, none⟩)]) rfl h44 (enters_of Try.func44 (by kernel_rfl) rfl)
    (backward_stops F (m - 1) h44 hro (by omega) (w.heap.size + 3) (w.heap.size + 4) _ ks hreach W4 (by omega) (by omega) bS.cell hK4) belowK_t (belowK_b (by omega)) (Below.refl _ _) (fun _ => rfl)
    (fun pre W => ((∀ p ∈ pre, p.1.2.toList ≠ key.toList) ∧ (W.cell? ⟨w.heap.size, 0, none⟩ = some (.pointer (some ⟨b, 0, none⟩)) ∧ W.cell? ⟨w.heap.size + 1, 0, none⟩ = some (.string key)) ∧ W.cell? ⟨w.heap.size + 1 + 1, 0, none⟩ = some (.string ⟨#[]⟩) ∧ W.frozen? ⟨w.heap.size + 1 + 1, 0, none⟩ = false) ∧ Below w.heap.size w W)
    (fun c pre W => (c = .ret ∧ ∃ ini last, pre = ini ++ [last] ∧ (∀ p ∈ ini, p.1.2.toList ≠ key.toList) ∧ last.1.2.toList = key.toList ∧ W.cell? ⟨w.heap.size + 1 + 1, 0, none⟩ = some (.string (vs[last.1.1]?.getD ByteArray.empty))) ∧ Below w.heap.size w W)
    (OwnFrom.and (Own.from (fun s A B row hs hg hr => ⟨hs.1, ⟨cell_kept hs.2.1.1 hg hr, cell_kept hs.2.1.2 hg hr⟩, cell_kept hs.2.2.1 hg hr, (frozen_kept hs.2.2.1 hg hr).trans hs.2.2.2⟩) _) (ownFrom_below (Nat.le_refl _) (by omega)))
    (fun c => OwnFrom.and (Own.from (fun s A B row hs hg hr => by obtain ⟨hc, ini, last, e1, e2, e3, e4⟩ := hs; exact ⟨hc, ini, last, e1, e2, e3, cell_kept e4 hg hr⟩) _) (ownFrom_below (Nat.le_refl _) (by omega)))
    ⟨⟨by simp, ⟨bP4.cell, bQ4.cell⟩, bR4.cell, bR4.frozen⟩, hB4⟩
    (fun x => { tmps := #[.pointer (some ⟨b, 0, none⟩), .string key, .pointer (some ⟨w.heap.size, 0, none⟩), .pointer (some ⟨w.heap.size + 1, 0, none⟩), .pointer (some ⟨w.heap.size + 1 + 1, 0, none⟩), .int .i64 (x.1.1 : Int), .string x.1.2, .pointer (some ⟨b, 0, none⟩), .pointer (some ⟨b, 0, none⟩), .pointer (some ⟨b, 3, none⟩), .pointer (some ⟨b, 3, none⟩), .slice aK lK cK, .func (.func 44) #[] #[.pointer (some ⟨w.heap.size + 3, 0, none⟩)], .int .i64 (x.1.1 : Int), .string x.1.2, undef, undef, undef, undef, undef, undef, undef, undef, undef, undef, undef], defers := [] }) ?assign ?body ?done ?stop
  case assign =>
    intro l x W K hK
    gi_wp2
    exact hK
  case body =>
    rintro l pre x W ⟨⟨hp, ⟨hcP, hcQ⟩, hcR, hfR⟩, hB⟩ _
    have hcV' := (hB.cell (p := ⟨b, 4, none⟩) hb).trans hcV
    have hxl : x.1.1 < vs.length := by rw [hlen.out]; exact x.2
    rcases hV with ⟨_, e0⟩ | ⟨g, off, cap, rfl, hg, hcs⟩
    · rw [e0] at hxl; simp at hxl
    have hcx := (hB.cell (p := ⟨g, off + x.1.1, none⟩) hg).trans (hcs x.1.1 hxl)
    have hix : (x.1.1 : Int) < (vs.length : Int) := by omega
    have hix0 : (0 : Int) ≤ (x.1.1 : Int) := by omega
    clear hcs hcV
    by_cases he : x.1.2.toList = key.toList
    · have t1 : (x.1.2.toList == key.toList) = true := by rw [he]; simp
      have HE := Lib.hid he
      have HQ := Lib.hid (show vs[x.1.1]?.getD ByteArray.empty = vs[x.1.1]'hxl by simp [hxl])
      clear he
      gi_wp2
      exact ⟨(KeepsOthers.setCell _ _ _).from _, ⟨rfl, pre, x, rfl, hp, HE.out, by rw [HQ.out]; exact World.cell?_setCell_same' _ _ _ (by rw [hcR]; rfl)⟩, hB.setCell (p := ⟨w.heap.size + 1 + 1, 0, none⟩) (by simp; omega) _⟩
    · have t1 : (x.1.2.toList == key.toList) = false := by simpa using he
      gi_wp2
      exact ⟨KeepsFrom.refl _ _, Below.refl _ _, ⟨fun p hp' => (List.mem_append.1 hp').elim (hp p) (fun e => by simp at e; subst e; exact he), ⟨hcP, hcQ⟩, hcR, hfR⟩, hB⟩
  case done =>
    rintro D ys W hD hcm ⟨⟨hne, _, hcr, hfr⟩, hB⟩ hK
    gi_wp2
    have hK' := (KeepsOthers.setCell W ⟨w.heap.size + 1 + 1, 0, none⟩ (.string ⟨#[]⟩)).same D _ hK rfl
    refine ⟨by simp, .inl ⟨_, _, rfl, run_takeDeferred hK', ?_⟩⟩
    have hc5 := cell_kept (World.cell?_setCell_same' W ⟨w.heap.size + 1 + 1, 0, none⟩ (.string ⟨#[]⟩) (by rw [hcr]; rfl)) (grownBy_putObj' _ D (.deferred none)) (fun r e => by cases e; exact ⟨_, hK', rfl⟩)
    have hz : lastN ks vs key ks.length = ⟨#[]⟩ := by
      rw [lastN_skip ks vs key ks.length ks.length (Nat.le_refl _) (fun j hj => hcm.mem (fun p => p.2.toList ≠ key.toList) hne j hj), Nat.sub_self]; rfl
    refine ⟨.string ⟨#[]⟩, ?_, by rw [hz], (hB.setCell (p := ⟨w.heap.size + 1 + 1, 0, none⟩) (by simp; omega) _).trans (belowK_b (w := w) (Nat.le_refl _) _ D _ _ (by omega) hK' rfl rfl)⟩
    simp [results, Try.f21, go_sem, hc5]
  case stop =>
    rintro D c pre W hD ⟨k, hk, hcm⟩ ⟨⟨rfl, ini, last, rfl, e2, e3, hcr⟩, hB⟩ hK
    gi_wp2
    refine ⟨by simp, .inl ⟨_, _, rfl, run_takeDeferred hK, ?_⟩⟩
    have hc5 := cell_kept hcr (grownBy_putObj' _ D (.deferred none)) (fun r e => by cases e; exact ⟨_, hK, rfl⟩)
    obtain ⟨j, rfl, hci, hlast⟩ := hcm.last
    have hz : lastN ks vs key ks.length = vs[last.1.1]?.getD ByteArray.empty := by
      rw [lastN_skip ks vs key ks.length j (by omega) (fun i hi => hci.mem (fun p => p.2.toList ≠ key.toList) e2 i hi)]
      rw [hlast] at e3 ⊢
      obtain ⟨q, hq⟩ : ∃ q, ks.length - j = q + 1 := ⟨ks.length - j - 1, by omega⟩
      have hq2 : ks.length - 1 - j = q := by omega
      simp only [back, hq2] at e3 ⊢
      rw [hq, lastN, if_pos e3]
    refine ⟨.string (vs[last.1.1]?.getD ByteArray.empty), ?_, by rw [hz], hB.trans (belowK_b (w := w) (Nat.le_refl _) W D _ _ (by omega) hK rfl rfl)⟩
    simp [results, Try.f21, go_sem, hc5]

end Go.Proofs.Ytjcjdkgoegfhkaa.Par

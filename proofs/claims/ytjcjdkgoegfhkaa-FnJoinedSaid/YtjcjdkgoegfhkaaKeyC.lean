/- impl.copied, chi.ZZKeys and impl.Keys: the keys of a pattern, or false where chi refuses by a panic that is recovered. Conditions: at most 100 bytes. -/
import Derived.Test.YtjcjdkgoegfhkaaKeyB
import Derived.Defers
import Derived.Recover
namespace Go.Proofs.Ytjcjdkgoegfhkaa.Seg
open Go.RowKit

theorem cell_old {w : World} {b j : Nat} {v : Value} (o : Obj) (h : w.cell? ⟨b, j, none⟩ = some v) : (w.alloc o).cell? ⟨b, j, none⟩ = some v :=
  (((Below.refl _ w).alloc (Nat.le_refl _) o).cell (p := ⟨b, j, none⟩) (World.block_lt_of_cell? w _ h)).trans h

theorem news_of {w : World} {ad : Addr} {K : List ByteArray} (h : Rd w (some ad) K) (o : Obj) : ∀ j u, (K.map Value.string)[j]? = some u → (w.alloc o).cell? (ad.add j) = some u := by
  intro j u hu
  have hj : j < K.length := by
    have := (List.getElem?_eq_some_iff.1 hu).1
    simpa using this
  obtain ⟨b, off, e, _, hc⟩ := h j hj
  cases e
  rw [Go.WideShapes.add_plain]
  have : u = .string K[j] := by simp [hj] at hu; exact hu.symm
  rw [this]
  exact cell_old o hc

set_option maxRecDepth 100000 in
set_option maxHeartbeats 2000000 in
theorem copied_any (a : Option Addr) (c : Nat) (K : List ByteArray) (w : World) (hr : Rd w a K) (hK : K.length ≤ 1000) : Calls Try.prog 27 #[.slice a K.length c] w (KeysPost K w) := by
  obtain ⟨i0, hi, hz0, hz1, hz2⟩ := info_parts info9
  have hm1 : 0 + K.length ≤ maxLen := by unfold maxLen; omega
  have hown : (w.alloc (.cells #[] 9)).ownsRow w.heap.size 9 1 (.slice (some ⟨w.heap.size, 0, none⟩) 0 0) 0 [] := World.ownsRow_made _ _ 0 (Nat.le_refl _) (by decide) rfl
  cases a with
  | none =>
    have h0 : K = [] := by
      cases K with
      | nil => rfl
      | cons x r => obtain ⟨b, off, e, _⟩ := hr 0 (by simp); cases e
    subst h0
    go_enter Try.func27, Try.ntmps27
    go_wp2_with fail
    go_ret
    exact ⟨_, rfl, hown, (Below.refl _ _).alloc (Nat.le_refl _) _⟩
  | some ad =>
    have hn := news_of hr (.cells #[] 9)
    go_enter Try.func27, Try.ntmps27
    clear hr
    go_wp2_with (first | (at_builtin; refine wpList_append_own _ rfl _ _ 22 rfl w.heap.size 9 i0 (.string ⟨#[]⟩) 1 16 Try.underlying22 hi hz0 hz1 hz2 rfl (by decide) _ _ _ rfl hown ad K.length c (K.map Value.string) rfl (by simp) hn (by simp [Value.oneCell']) hm1 (by omega) (by rw [World.size_alloc]; omega) ?_; intro v' w2 hown2 hgrow2 _))
    have hB2 : Below w.heap.size w w2 := Below.grown ((Below.refl _ w).alloc (Nat.le_refl _) _) hgrow2 (by rw [World.size_alloc]; omega) (fun q e => (hown.lt q e).1)
    go_ret
    exact ⟨_, rfl, by simpa using hown2, hB2⟩

theorem zzkeys_any (s : ByteArray) (w : World) (hs : s.size ≤ 100) : Calls Try.prog 28 #[.string s] w (PpkPost (keysOf s) w) := by
  obtain ⟨R, hR⟩ : ∃ R, keysOf s = R := ⟨_, rfl⟩
  have HC := Lib.hid (ppk_any s w hs)
  rw [hR] at HC ⊢
  clear hR
  cases R with
  | none =>
    go_enter Try.func28, Try.ntmps28
    go_wp2_with fail
    refine HC.out.mono ?_
    rintro e w' ⟨⟨v, rfl⟩, hB⟩
    go_wp2_with fail
    exact ⟨rfl, ⟨_, rfl⟩, hB⟩
  | some K =>
    go_enter Try.func28, Try.ntmps28
    go_wp2_with fail
    refine HC.out.mono ?_
    rintro e w' ⟨v, rfl, ho, hB⟩
    go_wp2_with fail
    go_ret
    exact ⟨_, rfl, ho, hB⟩

theorem own_low {w : World} {base base' : Nat} {e : TypeId} {size n : Nat} {v : Value} {xs : List Value} (h : w.ownsRow base e size v n xs) (hb : base' ≤ base) : w.ownsRow base' e size v n xs :=
  ⟨h.1, h.2.imp id (fun ⟨g, cap, cur, a, b, r⟩ => ⟨g, cap, cur, a, Nat.le_trans hb b, r⟩)⟩
theorem setCell_other (w : World) (a : Addr) (u : Value) (k : Nat) (h : k ≠ a.block) : (w.setCell a u).heap[k]? = w.heap[k]? := by
  simp [World.setCell, Array.getElem?_modify, Ne.symm h]
theorem own_set {w : World} {base : Nat} {e : TypeId} {size n : Nat} {v : Value} {xs : List Value} (h : w.ownsRow base e size v n xs) {p : Addr} (hp : p.block < base) (u : Value) : (w.setCell p u).ownsRow base e size v n xs :=
  h.kept (row := some p.block) ⟨rfl, rfl, rfl, by simp [World.setCell], fun k _ hne => setCell_other w p u k (fun e => hne (by rw [e]))⟩ (by
    cases hv : v.ownBlock with
    | none => exact .inl rfl
    | some q => exact .inr (fun e => by have := (h.lt q hv).1; simp at e; omega))

theorem kcatch_idle (p q : Addr) (w : World) :
    CallsD Try.prog 26 #[.pointer (some p), .pointer (some q)] .returning w fun e u' w' => e = .returned (.tuple #[]) ∧ u' = .returning ∧ w' = w := by
  refine callsD_of_wpS Try.func26 rfl fun c₀ cs hu => ?_
  apply wpS_seq
  apply wpS_region
  simp [wpOpsS, go_sem, recoverD, hu, Try.ntmps26, Exit.thenS]
  refine wpS_cond (t := false) (by simp [Act.eval, Array.replicate]) ?_
  simp only [Bool.false_eq_true, if_false]
  refine wpS_of_wp (wp_skip ?_)
  cases c₀
  simp_all [bodyPostS, results, Try.results26]

theorem kcatch_panicking (b : Nat) (u : TypeId) (pv : Value) (older : List PanicEntry) (w : World)
    (h0 : w.cell? ⟨b, 0, none⟩ = some (.slice none 0 0)) (f0 : w.frozen? ⟨b, 0, none⟩ = false) (g0 : w.cell? ⟨b + 1, 0, none⟩ = some (.bool false)) (g1 : w.frozen? ⟨b + 1, 0, none⟩ = false) :
    CallsD Try.prog 26 #[.pointer (some ⟨b, 0, none⟩), .pointer (some ⟨b + 1, 0, none⟩)] (.panicking ({ v := .iface u pv, recovered := false } :: older)) w fun e u' w' =>
      e = .returned (.tuple #[]) ∧ u' = .panicking ({ v := .iface u pv, recovered := true } :: older) ∧ w' = (w.setCell ⟨b, 0, none⟩ (.slice none 0 0)).setCell ⟨b + 1, 0, none⟩ (.bool false) := by
  refine callsD_of_wpS Try.func26 rfl fun c₀ cs hu => ?_
  apply wpS_seq
  apply wpS_region
  simp [wpOpsS, go_sem, recoverD, hu, Try.ntmps26, Exit.thenS]
  refine wpS_cond (t := true) (by simp [Act.eval, Array.replicate]) ?_
  simp only [if_true]
  apply wpS_region
  simp [wpOpsS, go_sem, h0, f0, g0, g1, bodyPostS, results, Try.results26]

def KOkPost (K : List ByteArray) (w : World) (e : Ending) (w' : World) : Prop := ∃ v, e = .returned (.tuple #[v, .bool true]) ∧ w'.ownsRow w.heap.size 9 1 v K.length (K.map Value.string) ∧ Below w.heap.size w w'
def KNoPost (w : World) (e : Ending) (w' : World) : Prop := e = .returned (.tuple #[.slice none 0 0, .bool false]) ∧ Below w.heap.size w w'

set_option maxRecDepth 100000 in
set_option maxHeartbeats 2000000 in
theorem keys_none (s : ByteArray) (w : World) (hs : s.size ≤ 100) (h : keysOf s = none) : Calls Try.prog 12 #[.string s] w (KNoPost w) := by
  have HC := fun w => Lib.hid (zzkeys_any s w hs)
  rw [h] at HC
  clear h
  have hmf : ∀ (fn : Fn) (first cap : Array Value) (w : World), (Instr.makeFunc fn first cap).run Try.prog w = .ok (.func fn first cap) w := fun _ _ _ _ => rfl
  go_enter_defers Try.func12, Try.ntmps12
  go_wp2_with fail
  refine (HC _).out.mono ?_
  rintro e w' ⟨⟨v, rfl⟩, hB⟩
  have c0 := hB.cell (p := ⟨w.heap.size, 0, none⟩) (by simp; omega)
  have d0 := hB.cell (p := ⟨w.heap.size + 1, 0, none⟩) (by simp)
  have f0 := hB.frozen (p := ⟨w.heap.size, 0, none⟩) (by simp; omega)
  have g0 := hB.frozen (p := ⟨w.heap.size + 1, 0, none⟩) (by simp)
  simp at c0 d0 f0 g0
  go_wp2_with fail
  refine leaves_cons (f := 26) (args := #[.pointer (some ⟨w.heap.size, 0, none⟩), .pointer (some ⟨w.heap.size + 1, 0, none⟩)]) (by simp) (by simp [go_sem]) ?_
  refine (kcatch_panicking w.heap.size 9 (.string v) [] _ c0 f0 d0 g0).mono ?_
  rintro e u' w'' ⟨rfl, rfl, rfl⟩
  have hB2 : Below w.heap.size w w' := (((Below.refl _ w).alloc (Nat.le_refl _) _).alloc (by simp) _).trans (hB.mono (by simp; omega))
  have hB3 := (hB2.setCell (p := ⟨w.heap.size, 0, none⟩) (Nat.le_refl _) (.slice none 0 0)).setCell (p := ⟨w.heap.size + 1, 0, none⟩) (by simp) (.bool false)
  simp [Leaves, settle, results, Try.results12, go_sem, c0, d0]
  exact ⟨rfl, hB3⟩

set_option maxRecDepth 100000 in
set_option maxHeartbeats 2000000 in
theorem keys_some (s : ByteArray) (w : World) (hs : s.size ≤ 100) (K : List ByteArray) (hK : K.length ≤ 1000) (h : keysOf s = some K) : Calls Try.prog 12 #[.string s] w (KOkPost K w) := by
  have HC := fun w => Lib.hid (zzkeys_any s w hs)
  rw [h] at HC
  clear h
  have hmf : ∀ (fn : Fn) (first cap : Array Value) (w : World), (Instr.makeFunc fn first cap).run Try.prog w = .ok (.func fn first cap) w := fun _ _ _ _ => rfl
  go_enter_defers Try.func12, Try.ntmps12
  go_wp2_with fail
  refine (HC _).out.mono ?_
  rintro e w1 ⟨v1, rfl, hown1, hB1⟩
  obtain ⟨a, c, rfl, hrd⟩ := own_shape hown1
  clear hown1
  have HD := Lib.hid (copied_any a c K w1 hrd hK)
  clear hrd
  go_wp2_with fail
  refine HD.out.mono ?_
  rintro e w' ⟨v, rfl, hown, hB2⟩
  have hB : Below (w.heap.size + 2) _ w' := (hB1.mono (by simp)).trans (hB2.mono (by have := hB1.size; simp at this; omega))
  have c0 := hB.cell (p := ⟨w.heap.size, 0, none⟩) (by simp)
  have d0 := hB.cell (p := ⟨w.heap.size + 1, 0, none⟩) (by simp)
  have f0 := hB.frozen (p := ⟨w.heap.size, 0, none⟩) (by simp)
  have g0 := hB.frozen (p := ⟨w.heap.size + 1, 0, none⟩) (by simp)
  simp at c0 d0 f0 g0
  have hs1 := hB1.size
  simp at hs1
  obtain ⟨a2, c2, rfl, _⟩ := own_shape hown
  go_wp2_with fail
  refine leaves_cons (f := 26) (args := #[.pointer (some ⟨w.heap.size, 0, none⟩), .pointer (some ⟨w.heap.size + 1, 0, none⟩)]) (by simp) (by simp [go_sem]) ?_
  refine (kcatch_idle ⟨w.heap.size, 0, none⟩ ⟨w.heap.size + 1, 0, none⟩ _).mono ?_
  rintro e u' w'' ⟨rfl, rfl, rfl⟩
  have hB0 : Below w.heap.size w w' := (((Below.refl _ w).alloc (Nat.le_refl _) _).alloc (by simp) _).trans (hB.mono (by omega))
  have hB3 := (hB0.setCell (p := ⟨w.heap.size, 0, none⟩) (Nat.le_refl _) (.slice a2 K.length c2)).setCell (p := ⟨w.heap.size + 1, 0, none⟩) (by simp) (.bool true)
  have ho := own_low (own_set (own_set hown (p := ⟨w.heap.size, 0, none⟩) (by show w.heap.size < _; omega) (.slice a2 K.length c2)) (p := ⟨w.heap.size + 1, 0, none⟩) (by show w.heap.size + 1 < _; omega) (.bool true)) (show w.heap.size ≤ w1.heap.size by omega)
  simp [Leaves, settle, results, Try.results12, go_sem, c0, d0]
  exact ⟨_, rfl, ho, hB3⟩

end Go.Proofs.Ytjcjdkgoegfhkaa.Seg

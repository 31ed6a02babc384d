/- A law for regions that draw their order: a load may be taken first where the stores into its cell wait for it. As the kit's law on a held condition, but the condition need not stand behind the operations of a tail T, each of which waits for the operation that is taken first. -/
import Derived.OrdersHeld
import Derived.Deep.RegionHeld
namespace Go.Proofs.Ytjcjdkgoegfhkaa.Tail
open Go
variable {P : Program} {ops : Array Oper} {Q : Exit → Act → World → Prop} {md : Region.Mode} {S : World → Prop} {T : Nat → Bool}

/-- Whatever order is picked from here on; S holds behind every operation that is not of the tail. -/
def wpAnyT (P : Program) (md : Region.Mode) (ops : Array Oper) (Q : Exit → Act → World → Prop) (S : World → Prop) (T : Nat → Bool) : Nat → Array Bool → Act → World → Prop
  | 0, listed, a, w => Region.ready md ops listed = [] ∧ Q .normal a w
  | fuel + 1, listed, a, w =>
    (Region.ready md ops listed = [] → Q .normal a w) ∧
    ∀ i ∈ Region.ready md ops listed, wpOp P ops Q i (fun a' w' => (T i = false → S w') ∧ wpAnyT P md ops Q S T fuel (listed.setIfInBounds i true) a' w') a w

theorem wpAny_of_tail : ∀ (fuel : Nat) (listed : Array Bool) (a : Act) (w : World), wpAnyT P md ops Q S T fuel listed a w → wpAny P md ops Q fuel listed a w
  | 0, _, _, _, h => h
  | fuel + 1, _, _, _, h => ⟨h.1, fun i hi => wpOp_mono (fun a' w' h' => wpAny_of_tail fuel _ a' w' h'.2) (h.2 i hi)⟩

/-- An operation that may come up now, and for which the whole tail waits, may be taken first if it yields its value in every world that meets S. -/
theorem wpAnyT_first {i : Nat} {oi : Oper} {v : Value} (hi : ops[i]? = some oi) (hsel : ∀ (j : Nat) (o : Oper) cs b, ops[j]? = some o → o.op ≠ .select cs b)
    (hT : ∀ (j : Nat) (o : Oper), ops[j]? = some o → T j = true → ∃ e ∈ o.after, Region.binds md e = true ∧ e.on = i)
    (hQ : ∀ c a w, Q (.panic c) (a.put oi.dst v) w → Q (.panic c) a w) :
    ∀ (fuel : Nat) (listed : Array Bool) (a : Act) (w : World),
      (∀ j oj, ops[j]? = some oj → j ≠ i → listed.getD j true = false → (∀ e ∈ oj.after, Region.binds md e = true → e.on ≠ i) → oi.apart ops oj = true) →
      i ∈ Region.ready md ops listed → YieldsIf P ops S oi v a → S w →
      wpAnyT P md ops Q S T fuel (listed.setIfInBounds i true) (a.put oi.dst v) w → wpAnyT P md ops Q S T (fuel + 1) listed a w := by
  intro fuel
  induction fuel with
  | zero =>
    intro listed a w _ hr hy hS H
    refine ⟨fun h => (by rw [h] at hr; cases hr), fun j hj => ?_⟩
    by_cases hji : j = i
    · subst hji; exact hy.wpOp hi hS ⟨fun _ => hS, H⟩
    · have := ready_mono hj hji
      rw [H.1] at this
      cases this
  | succ fuel ih =>
    intro listed a w hfree hr hy hS H
    refine ⟨fun h => (by rw [h] at hr; cases hr), fun j hj => ?_⟩
    by_cases hji : j = i
    · subst hji; exact hy.wpOp hi hS ⟨fun _ => hS, H⟩
    · have h1 := H.2 j (ready_mono hj hji)
      obtain ⟨hjun, oj, hoj, hall⟩ := mem_ready.1 hj
      have hnot : ∀ e ∈ oj.after, Region.binds md e = true → e.on ≠ i := fun e he hb heq => by
        have h1 := hall e he hb
        have h0 := (mem_ready.1 hr).1
        rw [heq] at h1
        rcases Nat.lt_or_ge i listed.size with h' | h'
        · simp [h'] at h0 h1; rw [h0] at h1; cases h1
        · simp [Array.getElem?_eq_none h'] at h1
      have hjT : T j = false := by
        cases hq : T j with
        | false => rfl
        | true =>
          obtain ⟨e, he, hb, heq⟩ := hT j oj hoj hq
          exact absurd heq (hnot e he hb)
      have h2 := wpOp_putIf hoj (hfree j oj hoj hji hjun hnot) (fun cs b => hsel i oi cs b hi) (fun cs b => hsel j oj cs b hoj) hQ hy h1
      have hfree' : ∀ k ok, ops[k]? = some ok → k ≠ i → (listed.setIfInBounds j true).getD k true = false →
          (∀ e ∈ ok.after, Region.binds md e = true → e.on ≠ i) → oi.apart ops ok = true := fun k ok hk hki hun hno => by
        refine hfree k ok hk hki ?_ hno
        by_cases hjk : j = k
        · subst hjk; exact hjun
        · rw [getD_set_ne true hjk] at hun; exact hun
      refine wpOp_mono (fun a' w' h3 => ⟨fun _ => h3.2.1 hjT, ih (listed.setIfInBounds j true) a' w' hfree' (ready_mono hr (Ne.symm hji)) h3.1 (h3.2.1 hjT) ?_⟩) h2
      rw [Array.setIfInBounds_comm _ _ hji]
      exact h3.2.2

/-- The tail waits for number i: as a Bool. -/
def waits (md : Region.Mode) (ops : Array Oper) (T : Nat → Bool) (i : Nat) : Bool := (List.range ops.size).all fun j => !T j || (match ops[j]? with | some o => o.after.any (fun e => Region.binds md e && e.on == i) | none => true)

theorem waits_spec {i : Nat} (h : waits md ops T i = true) (j : Nat) (o : Oper) (hj : ops[j]? = some o) (ht : T j = true) : ∃ e ∈ o.after, Region.binds md e = true ∧ e.on = i := by
  unfold waits at h
  rw [List.all_eq_true] at h
  have hlt : j < ops.size := by
    rcases Nat.lt_or_ge j ops.size with h' | h'
    · exact h'
    · rw [Array.getElem?_eq_none h'] at hj; cases hj
  have := h j (List.mem_range.2 hlt)
  rw [ht, hj] at this
  simp only [Bool.not_true, Bool.false_or] at this
  rw [Array.any_eq_true'] at this
  obtain ⟨e, he, hb⟩ := this
  simp only [Bool.and_eq_true, beq_iff_eq] at hb
  exact ⟨e, he, hb.1, hb.2⟩

theorem wpAnyT_take {i : Nat} {oi : Oper} {v : Value} {fuel : Nat} {listed : Array Bool} {a : Act} {w : World} (hi : ops[i]? = some oi)
    (hs : Region.noSelect ops = true) (hw : waits md ops T i = true) (hf : Region.free md ops listed i = true) (hr : (Region.ready md ops listed).contains i = true)
    (hQ : ∀ c a w, Q (.panic c) (a.put oi.dst v) w → Q (.panic c) a w) (hy : YieldsIf P ops S oi v a) (hS : S w)
    (h : wpAnyT P md ops Q S T fuel (listed.setIfInBounds i true) (a.put oi.dst v) w) : wpAnyT P md ops Q S T (fuel + 1) listed a w :=
  wpAnyT_first hi (Region.noSelect_spec hs) (waits_spec hw) hQ fuel listed a w (Region.free_spec hi hf) (by simpa using hr) hy hS h

theorem wpAnyT_all {rs : List Nat} {fuel : Nat} {listed : Array Bool} {a : Act} {w : World} (hr : Region.ready md ops listed = rs) (hne : rs ≠ [])
    (h : ∀ i ∈ rs, wpOp P ops Q i (fun a' w' => (T i = false → S w') ∧ wpAnyT P md ops Q S T fuel (listed.setIfInBounds i true) a' w') a w) : wpAnyT P md ops Q S T (fuel + 1) listed a w :=
  ⟨fun h0 => absurd (hr ▸ h0) hne, hr ▸ h⟩

theorem wpAnyT_done {listed : Array Bool} {a : Act} {w : World} (hr : Region.ready md ops listed = []) (h : Q .normal a w) :
    ∀ fuel, wpAnyT P md ops Q S T fuel listed a w
  | 0 => ⟨hr, h⟩
  | _ + 1 => ⟨fun _ => h, by rw [hr]; simp⟩

theorem wp_region_tail {id : Nat} {a : Act} {w : World} (hm : P.follows .mixedOrders = true)
    (h : wpAnyT P .any ops Q S T ops.size (Array.replicate ops.size false) a w.drew) : (Code.region id ops true).wp P Q a w :=
  wp_region_any hm (wpAny_of_tail _ _ _ _ h)

end Go.Proofs.Ytjcjdkgoegfhkaa.Tail

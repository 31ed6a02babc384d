/- Between the walk and the plain law: what the mounts' check says in lists of bytes, and that the joined texts come to the whole pattern. No program but the contracts of JoiD. -/
import Derived.Test.YtjcjdkgoegfhkaaJoiH
namespace Go.Proofs.Ytjcjdkgoegfhkaa.Joi
open Go.RowKit Seg

theorem mount_list {m : ByteArray} (hb : beg m ⟨#[47]⟩ = true) (h : mountTo m m.size) : MountL m.data.toList := by
  have hl : m.data.toList.length = m.size := by simp
  have hpl : ∀ i, plAt m i = true → ∃ c, m.data.toList[i]? = some c ∧ c ≠ 47 ∧ c ≠ 42 := fun i hi => by
    unfold plAt at hi
    split at hi
    · rename_i c hc
      refine ⟨c, hc, fun e => ?_, fun e => ?_⟩
      · subst e; revert hi; decide
      · subst e; revert hi; decide
    · cases hi
  obtain ⟨m', hm⟩ := beg_one hb
  have h1 : ∀ i, i < m.size → (∃ c, m.data.toList[i]? = some c ∧ c ≠ 47 ∧ c ≠ 42) ∨ (m.data.toList[i]? = some 47 ∧ ∃ c, m.data.toList[i + 1]? = some c) := fun i hi => by
    rcases h i hi with h2 | ⟨h2, h3⟩
    · exact .inl (hpl i h2)
    · obtain ⟨c, hc, _⟩ := hpl _ h3
      exact .inr ⟨h2, c, hc⟩
  refine ⟨⟨m', hm, ?_⟩, ?_, ?_⟩
  · rintro rfl
    have hs : m.size = 1 := by rw [← hl, hm]; rfl
    rcases h1 0 (by omega) with ⟨c, hc, h2, _⟩ | ⟨_, c, hc⟩
    · rw [hm] at hc; simp at hc; exact h2 hc.symm
    · rw [hm] at hc; simp at hc
  · intro q
    obtain ⟨i, hi, e⟩ := List.getElem_of_mem q
    rcases h1 i (by omega) with ⟨c, hc, _, h3⟩ | ⟨h2, _⟩
    · rw [List.getElem?_eq_getElem hi, e] at hc; simp at hc; exact h3 hc.symm
    · rw [List.getElem?_eq_getElem hi, e] at h2; simp at h2
  · intro q
    have hs : 0 < m.size := by rw [← hl, hm]; simp
    rw [List.getLast?_eq_getElem?, hl] at q
    rcases h1 (m.size - 1) (by omega) with ⟨c, hc, h2, _⟩ | ⟨_, c, hc⟩
    · rw [q] at hc; simp at hc; exact h2 hc.symm
    · rw [show m.size - 1 + 1 = m.size by omega, List.getElem?_eq_none (by omega)] at hc; cases hc

/-- A mount with its wildcard. -/
def starred (m : ByteArray) : ByteArray := m ++ ⟨#[47, 42]⟩
def lists (ms : List ByteArray) : List (List UInt8) := ms.map (·.data.toList)
def whole (ms : List ByteArray) (p : ByteArray) : ByteArray := ⟨(sht (lists ms) p.data.toList).toArray⟩

theorem whole_list (ms : List ByteArray) (p : ByteArray) : (whole ms p).data.toList = sht (lists ms) p.data.toList := by simp [whole]

theorem join_flat : ∀ K : List (List UInt8), Lib.join K [] = K.flatten
  | [] => rfl
  | x :: r => by
    rw [Lib.join_cons]
    unfold Lib.joinTail
    simp

theorem cat_list (ms : List ByteArray) (p : ByteArray) : (cat (ms.map starred ++ [p])).data.toList = lng (lists ms) p.data.toList := by
  unfold cat
  simp only [join_flat]
  induction ms with
  | nil => simp [lists, lng]
  | cons m r ih =>
    have h2 : (starred m).data.toList = m.data.toList ++ [47, 42] := by unfold starred; rw [ba_append]
    simp only [lists, List.map_cons, List.cons_append, List.flatten_cons, lng, h2] at ih ⊢
    rw [ih]

theorem lng_size (ms : List (List UInt8)) (p : List UInt8) (B : Nat) (h : ∀ m ∈ ms, m.length ≤ B) : (lng ms p).length ≤ ms.length * (B + 2) + p.length := by
  induction ms with
  | nil => simp [lng]
  | cons m r ih =>
    have h1 := h m (by simp)
    have h2 := ih (fun x hx => h x (List.mem_cons_of_mem _ hx))
    rw [lng, List.length_append, List.length_append, show ([47, 42] : List UInt8).length = 2 from rfl, show (m :: r).length = r.length + 1 from rfl, Nat.add_mul]
    omega

/-- replaceWildcards over the joined texts. -/
theorem wild_all (ms : List ByteArray) (p : ByteArray) (hm : ∀ m ∈ ms, MountL m.data.toList) (hp : RouteOk p) (hsz : (cat (ms.map starred ++ [p])).size ≤ 100000000000000) (w : World) :
    Calls Try.prog 42 #[.string (cat (ms.map starred ++ [p]))] w fun e w' => e = .returned (.string (whole ms p)) ∧ Below w.heap.size w w' := by
  obtain ⟨⟨p', hp'⟩, hpn⟩ := hp
  rw [hp'] at hpn
  have hm' : ∀ x ∈ lists ms, MountL x := fun x hx => by
    unfold lists at hx
    obtain ⟨m, hmm, rfl⟩ := List.mem_map.1 hx
    exact hm m hmm
  have hc := cat_list ms p
  have hwn : sx (whole ms p) ⟨#[47, 42, 47]⟩ = none := by
    unfold sx
    rw [whole_list, hp']
    exact sht_none p' hpn _ hm'
  cases ms with
  | nil =>
    have e : cat (([] : List ByteArray).map starred ++ [p]) = whole [] p := ba_ext (by rw [hc, whole_list]; rfl)
    rw [e] at hsz ⊢
    exact wild_none _ w hsz hwn
  | cons m r =>
    have hl : lists (m :: r) = m.data.toList :: lists r := rfl
    have h1 : sx (cat ((m :: r).map starred ++ [p])) ⟨#[47, 42, 47]⟩ = some m.data.toList.length := by
      unfold sx
      rw [hc, hl]
      exact lng_here p' hp' (by rw [← hl]; exact hm')
    refine wild_once _ w hsz _ h1 (whole (m :: r) p) ?_ ?_ hwn
    · apply ba_ext
      rw [rep_list, hc, whole_list, hl, hp']
      have hcl : (cat ((m :: r).map starred ++ [p])).size = (lng (lists (m :: r)) p.data.toList).length := by rw [← hc]; simp
      exact rep_whole p' hpn _ _ (by rw [← hl]; exact hm') _ (by rw [hcl, hl, hp']; omega)
    · have e1 : (cat ((m :: r).map starred ++ [p])).size = (lng (lists (m :: r)) p.data.toList).length := by rw [← hc]; simp
      have e2 : (whole (m :: r) p).size = (sht (lists (m :: r)) p.data.toList).length := by rw [← whole_list]; simp
      rw [e1, e2, hl]
      exact lng_longer _ _ _

theorem ended_whole (ms : List ByteArray) (p : ByteArray) (hm : ∀ m ∈ ms, MountL m.data.toList) (hp : RouteOk p) (hd : noDouble p p.size) : ended (whole ms p) = trimmed (whole ms p) := by
  obtain ⟨⟨p', hp'⟩, _⟩ := hp
  have hm' : ∀ x ∈ lists ms, MountL x := fun x hx => by
    unfold lists at hx
    obtain ⟨m, hmm, rfl⟩ := List.mem_map.1 hx
    exact hm m hmm
  obtain ⟨t, ht⟩ := sht_head p' (lists ms) hm'
  have hw : (whole ms p).data.toList = 47 :: t := by rw [whole_list, hp', ht]
  refine ended_eq _ (by rw [hw]; simp) ⟨t, hw⟩ ?_
  rw [whole_list]
  refine sht_end _ (by rw [hp']; simp) ?_ _ hm'
  intro x e
  have hl : p.data.toList.length = p.size := by simp
  have hlen : p.size = x.length + 2 := by rw [← hl, e]; simp
  refine hd (x.length + 1) (by omega) (by omega) ⟨?_, ?_⟩
  · rw [e, List.getElem?_append_right (by omega)]; simp
  · rw [e, List.getElem?_append_right (by omega)]; simp

end Go.Proofs.Ytjcjdkgoegfhkaa.Joi

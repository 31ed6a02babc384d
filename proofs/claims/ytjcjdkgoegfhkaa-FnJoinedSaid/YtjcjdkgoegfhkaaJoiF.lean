/- The plain law of joined patterns: mounts with a wildcard behind each, and a pattern, come to the mounts and the pattern one behind the other; and what is cut off at the end is what Trimmed cuts off. No program in sight. -/
import Derived.Test.YtjcjdkgoegfhkaaJoiE
import Derived.Test.YtjcjdkgoegfhkaaJoiC
namespace Go.Proofs.Ytjcjdkgoegfhkaa.Joi
open Seg

/-- /*/ -/
def wc : List UInt8 := [47, 42, 47]

/-- As rep, over lists of bytes. -/
def repL (o n : List UInt8) : Nat → List UInt8 → List UInt8
  | 0, l => l
  | f + 1, l => match sxL o l with
    | none => l
    | some i => l.take i ++ n ++ repL o n f (l.drop (i + o.length))

theorem rep_list (o n : ByteArray) : ∀ (f : Nat) (s : ByteArray), (rep f s o n).data.toList = repL o.data.toList n.data.toList f s.data.toList
  | 0, s => rfl
  | f + 1, s => by
    rw [rep, repL]
    show _ = match sx s o with | none => _ | some i => _
    cases h : sx s o with
    | none => rfl
    | some i =>
      dsimp only
      rw [ba_append, ba_append, rep_list o n f]
      have e1 : (s.extract 0 i).data.toList = s.data.toList.take i := by
        have := Lib.extract_toList s 0 i
        rw [Lib.toList_data] at this
        simp
      have e2 : (s.extract (i + o.size) s.size).data.toList = s.data.toList.drop (i + o.data.toList.length) := by
        have := Lib.extract_toList s (i + o.size) s.size
        rw [Lib.toList_data] at this
        rw [this, show o.data.toList.length = o.size by simp]
        exact List.take_of_length_le (by simp)
      rw [e1, e2]

/-- The wildcard behind a text without stars is the first one. -/
theorem sx_here (r : List UInt8) : ∀ q : List UInt8, 42 ∉ q → sxL wc (q ++ 47 :: 42 :: 47 :: r) = some q.length
  | [], _ => by simp [sxL, wc]
  | c :: q, h => by
    have hp : wc.isPrefixOf (c :: q ++ 47 :: 42 :: 47 :: r) = false := by
      cases q with
      | nil => simp [wc, List.isPrefixOf]
      | cons d q =>
        have : d ≠ 42 := fun e => h (by simp [e])
        simp [wc, List.isPrefixOf, Ne.symm this]
    rw [List.cons_append] at hp ⊢
    rw [sxL, hp, sx_here r q (fun hq => h (List.mem_cons_of_mem _ hq))]
    rfl

/-- No wildcard stands in a text without stars ahead of one that begins with a slash and holds none. -/
theorem sx_ahead (r : List UInt8) (hr : sxL wc (47 :: r) = none) : ∀ q : List UInt8, 42 ∉ q → sxL wc (q ++ 47 :: r) = none
  | [], _ => hr
  | c :: q, h => by
    have hp : wc.isPrefixOf (c :: q ++ 47 :: r) = false := by
      cases q with
      | nil => simp [wc, List.isPrefixOf]
      | cons d q =>
        have : d ≠ 42 := fun e => h (by simp [e])
        simp [wc, List.isPrefixOf, Ne.symm this]
    rw [List.cons_append] at hp ⊢
    rw [sxL, hp, sx_ahead r hr q (fun hq => h (List.mem_cons_of_mem _ hq))]
    rfl

/-- The mounts with a wildcard behind each, and the pattern; without the wildcards. -/
def lng : List (List UInt8) → List UInt8 → List UInt8
  | [], p => p
  | m :: r, p => m ++ [47, 42] ++ lng r p
def sht : List (List UInt8) → List UInt8 → List UInt8
  | [], p => p
  | m :: r, p => m ++ sht r p

/-- What a mount looks like. -/
def MountL (m : List UInt8) : Prop := (∃ m', m = 47 :: m' ∧ m' ≠ []) ∧ 42 ∉ m ∧ m.getLast? ≠ some 47

theorem lng_head (p' : List UInt8) : ∀ ms : List (List UInt8), (∀ m ∈ ms, MountL m) → ∃ t, lng ms (47 :: p') = 47 :: t
  | [], _ => ⟨p', rfl⟩
  | m :: r, h => by
    obtain ⟨⟨m', rfl, _⟩, _⟩ := h m (by simp)
    exact ⟨m' ++ [47, 42] ++ lng r (47 :: p'), by simp [lng]⟩
theorem sht_head (p' : List UInt8) : ∀ ms : List (List UInt8), (∀ m ∈ ms, MountL m) → ∃ t, sht ms (47 :: p') = 47 :: t
  | [], _ => ⟨p', rfl⟩
  | m :: r, h => by
    obtain ⟨⟨m', rfl, _⟩, _⟩ := h m (by simp)
    exact ⟨m' ++ sht r (47 :: p'), by simp [sht]⟩

theorem tail_none {p' : List UInt8} (h : sxL wc (47 :: p') = none) : sxL wc p' = none := by
  rw [sxL] at h
  split at h
  · cases h
  · cases hq : sxL wc p' with
    | none => rfl
    | some n => rw [hq] at h; simp at h

/-- The tails of both, wildcards replaced. -/
theorem rep_tails (p' : List UInt8) (hp : sxL wc (47 :: p') = none) : ∀ (ms : List (List UInt8)), (∀ m ∈ ms, MountL m) → ∀ (f : Nat) (t u : List UInt8), lng ms (47 :: p') = 47 :: t → sht ms (47 :: p') = 47 :: u → t.length < f → repL wc [47] f t = u
  | [], _, f, t, u, ht, hu, hf => by
    obtain rfl : p' = t := by simpa [lng] using ht
    obtain rfl : p' = u := by simpa [sht] using hu
    cases f with
    | zero => omega
    | succ f => rw [repL, tail_none hp]
  | m :: r, h, f, t, u, ht, hu, hf => by
    obtain ⟨⟨m', rfl, _⟩, hs, _⟩ := h m (by simp)
    have hr := fun x hx => h x (List.mem_cons_of_mem _ hx)
    obtain ⟨t1, ht1⟩ := lng_head p' r hr
    obtain ⟨u1, hu1⟩ := sht_head p' r hr
    have et : t = m' ++ 47 :: 42 :: 47 :: t1 := by rw [lng, ht1] at ht; simpa using ht.symm
    have eu : u = m' ++ 47 :: u1 := by rw [sht, hu1] at hu; simpa using hu.symm
    have hs' : 42 ∉ m' := fun q => hs (List.mem_cons_of_mem _ q)
    cases f with
    | zero => omega
    | succ f =>
      have hl : t1.length < f := by rw [et] at hf; simp at hf; omega
      rw [repL, et, sx_here t1 m' hs', eu]
      dsimp only
      have e1 : (m' ++ 47 :: 42 :: 47 :: t1).take m'.length = m' := by simp
      have e2 : (m' ++ 47 :: 42 :: 47 :: t1).drop (m'.length + wc.length) = t1 := by
        rw [List.drop_append, show wc.length = 3 from rfl]; simp
      rw [e1, e2, rep_tails p' hp r hr f t1 u1 ht1 hu1 hl]
      simp

/-- ALL OF IT: with at least one mount. -/
theorem rep_whole (p' : List UInt8) (hp : sxL wc (47 :: p') = none) (m : List UInt8) (ms : List (List UInt8)) (h : ∀ x ∈ m :: ms, MountL x) (f : Nat) (hf : (lng (m :: ms) (47 :: p')).length < f) : repL wc [47] f (lng (m :: ms) (47 :: p')) = sht (m :: ms) (47 :: p') := by
  obtain ⟨_, hs, _⟩ := h m (by simp)
  have hr := fun x hx => h x (List.mem_cons_of_mem _ hx)
  obtain ⟨t1, ht1⟩ := lng_head p' ms hr
  obtain ⟨u1, hu1⟩ := sht_head p' ms hr
  have et : lng (m :: ms) (47 :: p') = m ++ 47 :: 42 :: 47 :: t1 := by rw [lng, ht1]; simp
  cases f with
  | zero => omega
  | succ f =>
    have hl : t1.length < f := by rw [et] at hf; simp at hf; omega
    rw [repL, et, sx_here t1 m hs, sht, hu1]
    dsimp only
    have e1 : (m ++ 47 :: 42 :: 47 :: t1).take m.length = m := by simp
    have e2 : (m ++ 47 :: 42 :: 47 :: t1).drop (m.length + wc.length) = t1 := by
      rw [List.drop_append, show wc.length = 3 from rfl]; simp
    rw [e1, e2, rep_tails p' hp ms hr f t1 u1 ht1 hu1 hl]
    simp

theorem sht_none (p' : List UInt8) (hp : sxL wc (47 :: p') = none) : ∀ ms : List (List UInt8), (∀ m ∈ ms, MountL m) → sxL wc (sht ms (47 :: p')) = none
  | [], _ => hp
  | m :: r, h => by
    have hr := fun x hx => h x (List.mem_cons_of_mem _ hx)
    obtain ⟨_, hs, _⟩ := h m (by simp)
    obtain ⟨u1, hu1⟩ := sht_head p' r hr
    have := sht_none p' hp r hr
    rw [hu1] at this
    rw [sht, hu1]
    exact sx_ahead u1 this m hs

theorem lng_longer (p : List UInt8) (m : List UInt8) (ms : List (List UInt8)) : (sht (m :: ms) p).length < (lng (m :: ms) p).length := by
  have key : ∀ l : List (List UInt8), (sht l p).length ≤ (lng l p).length := by
    intro l
    induction l with
    | nil => exact Nat.le_refl _
    | cons a r ih => simp [sht, lng]; omega
  have := key ms
  simp [sht, lng]
  omega

theorem lng_here {p : List UInt8} {m : List UInt8} {ms : List (List UInt8)} (p' : List UInt8) (hp : p = 47 :: p') (h : ∀ x ∈ m :: ms, MountL x) : sxL wc (lng (m :: ms) p) = some m.length := by
  obtain ⟨_, hs, _⟩ := h m (by simp)
  obtain ⟨t1, ht1⟩ := lng_head p' ms (fun x hx => h x (List.mem_cons_of_mem _ hx))
  rw [hp, lng, ht1]
  have : m ++ [47, 42] ++ 47 :: t1 = m ++ 47 :: 42 :: 47 :: t1 := by simp
  rw [this, sx_here t1 m hs]

/-- No two slashes at the end. -/
def endOk (l : List UInt8) : Prop := ∀ x, l ≠ x ++ [47, 47]
theorem sht_end (p : List UInt8) (hp0 : p ≠ []) (hp : endOk p) : ∀ ms : List (List UInt8), (∀ m ∈ ms, MountL m) → endOk (sht ms p)
  | [], _ => hp
  | m :: r, h => by
    have ih := sht_end p hp0 hp r (fun x hx => h x (List.mem_cons_of_mem _ hx))
    obtain ⟨_, _, hl⟩ := h m (by simp)
    intro x e
    rw [sht] at e
    have hne : sht r p ≠ [] := by
      cases r with
      | nil => exact hp0
      | cons a r => obtain ⟨⟨m', rfl, _⟩, _⟩ := h a (by simp); simp [sht]
    rcases List.append_eq_append_iff.1 e with ⟨a', e1, e2⟩ | ⟨c', e1, e2⟩
    · -- x = m ++ a', sht = a' ++ [47,47]
      exact ih a' e2
    · -- m = x ++ c', [47, 47] = c' ++ sht
      cases c' with
      | nil => exact ih [] (by simpa using e2.symm)
      | cons c c' =>
        have e3 : c = 47 := by simp at e2; exact e2.1.symm
        cases c' with
        | nil => subst e3; exact hl (by rw [e1]; simp)
        | cons d c' =>
          have : sht r p = [] := by
            have := congrArg List.length e2
            simp only [List.length_cons, List.length_append, List.length_nil] at this
            exact List.length_eq_zero_iff.1 (by omega)
          exact hne this

theorem ended_eq (s : ByteArray) (h0 : s.data.toList ≠ []) (hh : ∃ t, s.data.toList = 47 :: t) (he : endOk s.data.toList) : ended s = trimmed s := by
  have hsz : s.size = s.data.toList.length := by simp
  have c2 : cut s ⟨#[47, 47]⟩ = s := by
    have : Lib.trimSuffix s.data.toList [47, 47] = s.data.toList := by
      unfold Lib.trimSuffix
      split
      · rename_i hq
        unfold Lib.hasSuffix at hq
        rw [List.isSuffixOf_iff_suffix] at hq
        obtain ⟨x, hx⟩ := hq
        exact absurd hx.symm (he x)
      · rfl
    unfold cut
    apply ba_ext
    simpa using this
  unfold ended
  rw [c2]
  by_cases h1 : s.data.toList = [47]
  · have e1 : (s.toList == (⟨#[47]⟩ : ByteArray).toList) = true := by rw [Lib.toList_data, Lib.toList_data, h1]; rfl
    rw [if_pos e1]
    unfold trimmed
    rw [if_neg (by rw [hsz, h1]; simp)]
  · have e1 : ¬ (s.toList == (⟨#[47]⟩ : ByteArray).toList) = true := by
      rw [Lib.toList_data, Lib.toList_data]
      simpa using h1
    rw [if_neg e1]
    have h2 : 1 < s.data.toList.length := by
      obtain ⟨t, ht⟩ := hh
      rw [ht] at h1 ⊢
      cases t with
      | nil => exact absurd rfl h1
      | cons a t => simp
    unfold trimmed cut Lib.trimSuffix
    have hlast : s.data.toList[s.size - 1]? = s.data.toList.getLast? := by rw [hsz, List.getLast?_eq_getElem?]
    by_cases h3 : s.data.toList[s.size - 1]? = some 47
    · have hsuf : Lib.hasSuffix s.data.toList [47] = true := by
        unfold Lib.hasSuffix
        rw [List.isSuffixOf_iff_suffix]
        rw [hlast, List.getLast?_eq_some_getLast h0] at h3
        have e3 : s.data.toList.getLast h0 = 47 := by simpa using h3
        have := List.dropLast_concat_getLast h0
        rw [e3] at this
        exact ⟨_, this⟩
      rw [if_pos (show Lib.hasSuffix s.data.toList (⟨#[47]⟩ : ByteArray).data.toList = true from hsuf), if_pos (show 1 < s.size ∧ s.data.toList[s.size - 1]? = some 47 from ⟨by omega, h3⟩)]
      apply ba_ext
      show List.take (s.data.toList.length - 1) s.data.toList = _
      have := Lib.extract_toList s 0 (s.size - 1)
      rw [Lib.toList_data] at this
      rw [this, hsz]
      rfl
    · have hsuf : ¬ Lib.hasSuffix s.data.toList [47] = true := by
        unfold Lib.hasSuffix
        rw [List.isSuffixOf_iff_suffix]
        rintro ⟨x, hx⟩
        apply h3
        rw [hlast, ← hx]
        simp
      rw [if_neg (show ¬ Lib.hasSuffix s.data.toList (⟨#[47]⟩ : ByteArray).data.toList = true from hsuf), if_neg (show ¬ (1 < s.size ∧ s.data.toList[s.size - 1]? = some 47) from fun q => h3 q.2)]

end Go.Proofs.Ytjcjdkgoegfhkaa.Joi

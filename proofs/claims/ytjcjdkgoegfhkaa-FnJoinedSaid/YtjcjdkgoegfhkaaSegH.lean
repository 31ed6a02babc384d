/- spec.NextPart as one contract: the part that segOf tells, or false. Conditions: at most 2147483647 bytes. -/
import Derived.Test.YtjcjdkgoegfhkaaSegG
namespace Go.Proofs.Ytjcjdkgoegfhkaa.Seg
open Go.RowKit

/-- The ways through segOf. -/
inductive Way (s : ByteArray) : Option Part → Prop
  | plain (h1 : ix s 123 = none) (h2 : ix s 42 = none) : Way s (some ⟨0, ⟨#[]⟩, ⟨#[]⟩, 0, 0, s.size⟩)
  | rest (t : Nat) (h1 : ix s 123 = none) (h2 : ix s 42 = some t) (h3 : t + 1 = s.size) : Way s (some ⟨3, ⟨#[42]⟩, ⟨#[]⟩, 0, t, s.size⟩)
  | rest_no (t : Nat) (h1 : ix s 123 = none) (h2 : ix s 42 = some t) (h3 : ¬ t + 1 = s.size) : Way s none
  | star (o t : Nat) (h1 : ix s 123 = some o) (h2 : ix s 42 = some t) (h3 : t < o) : Way s none
  | open_ (o : Nat) (h1 : ix s 123 = some o) (h3 : oi (ix s 42) < 0 ∨ (o : Int) ≤ oi (ix s 42)) (h4 : shutAt s o = none) : Way s none
  | shut (o e : Nat) (h1 : ix s 123 = some o) (h3 : oi (ix s 42) < 0 ∨ (o : Int) ≤ oi (ix s 42)) (h4 : shutAt s o = some e) : Way s (some (partAt s o e))

theorem way_of (s : ByteArray) : Way s (segOf s) := by
  unfold segOf
  cases h1 : ix s 123 with
  | none =>
    cases h2 : ix s 42 with
    | none => exact .plain h1 h2
    | some t =>
      dsimp only
      by_cases h3 : t + 1 = s.size
      · rw [if_pos h3]; exact .rest t h1 h2 h3
      · rw [if_neg h3]; exact .rest_no t h1 h2 h3
  | some o =>
    cases h2 : ix s 42 with
    | none =>
      dsimp only
      cases h4 : shutAt s o with
      | none => exact .open_ o h1 (.inl (by rw [h2]; decide)) h4
      | some e => exact .shut o e h1 (.inl (by rw [h2]; decide)) h4
    | some t =>
      dsimp only
      by_cases h3 : t < o
      · rw [if_pos h3]; exact .star o t h1 h2 h3
      · rw [if_neg h3]
        have h5 : oi (ix s 42) < 0 ∨ (o : Int) ≤ oi (ix s 42) := .inr (by rw [h2]; simp only [oi]; omega)
        cases h4 : shutAt s o with
        | none => exact .open_ o h1 h5 h4
        | some e => exact .shut o e h1 h5 h4

theorem np_some (s : ByteArray) (w : World) (hs : s.size ≤ 2147483647) (p : Part) (h : segOf s = some p) : Calls Try.prog 9 #[.string s] w (NpPost p true w) := by
  have hw := way_of s
  rw [h] at hw
  cases hw with
  | plain h1 h2 => exact np_A s w hs (Lib.hid h1) (Lib.hid h2)
  | rest t h1 h2 h3 => have := np_B s w t hs (Lib.hid h1) (Lib.hid h2); rwa [decide_eq_true h3] at this
  | shut o e h1 h3 h4 => exact np_D_some s w o e _ hs (Lib.hid h1) (Lib.hid rfl) h3 (Lib.hid h4)

theorem np_none (s : ByteArray) (w : World) (hs : s.size ≤ 2147483647) (h : segOf s = none) : ∃ p, Calls Try.prog 9 #[.string s] w (NpPost p false w) := by
  have hw := way_of s
  rw [h] at hw
  cases hw with
  | rest_no t h1 h2 h3 => exact ⟨_, by have := np_B s w t hs (Lib.hid h1) (Lib.hid h2); rwa [decide_eq_false h3] at this⟩
  | star o t h1 h2 h3 => exact ⟨_, np_C s w o t hs (Lib.hid h1) (Lib.hid h2) h3⟩
  | open_ o h1 h3 h4 => exact ⟨_, np_D_none s w o _ hs (Lib.hid h1) (Lib.hid rfl) h3 (Lib.hid h4)⟩

end Go.Proofs.Ytjcjdkgoegfhkaa.Seg

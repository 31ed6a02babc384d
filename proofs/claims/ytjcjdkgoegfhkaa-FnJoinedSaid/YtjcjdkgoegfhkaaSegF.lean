/- The walk of spec.NextPart at a placeholder: its part, or false where no brace closes it. Conditions: at most 2147483647 bytes. -/
import Derived.Test.YtjcjdkgoegfhkaaSegC
import Derived.Test.YtjcjdkgoegfhkaaSegD
import Derived.Deep.Cut
namespace Go.Proofs.Ytjcjdkgoegfhkaa.Seg
open Go.RowKit

/-- What the loop over the bytes knows: it still looks for the brace, or it has found it one byte ago. -/
def Sh (s : ByteArray) (R : Option Nat) (k : Nat) (d : Int) (sh : Value) : Prop :=
  (sh = .int .i64 (-1) ∧ shutL (s.data.toList.drop k) d k = R) ∨ (∃ e : Nat, sh = .int .i64 e ∧ R = some e ∧ k = e + 1)

set_option maxRecDepth 100000 in
set_option maxHeartbeats 4000000 in
theorem np_D_none (s : ByteArray) (w : World) (o : Nat) (tw : Int) (hs : s.size ≤ 2147483647) (h1 : Hid (ix s 123 = some o)) (h2 : Hid (oi (ix s 42) = tw)) (h3 : tw < 0 ∨ (o : Int) ≤ tw) (h4 : Hid (shutAt s o = none)) :
    Calls Try.prog 9 #[.string s] w (NpPost part0 false w) := by
  have hlt := ix_lt h1.out
  rcases h3 with h3 | h3
  all_goals
    try have p2 : decide (tw < (o : Int)) = false := decide_eq_false (by omega)
    go_enter Try.func9, Try.ntmps9
    go_wp2_with fail
    refine (index_any s 123 123 rfl _ (by omega)).mono ?_
    rintro e w' ⟨rfl, rfl⟩
    rw [h1.out]
    simp only [oi]
    go_wp2_with fail
    refine (index_any s 42 42 rfl _ (by omega)).mono ?_
    rintro e w' ⟨rfl, rfl⟩
    rw [h2.out]
    go_wp2_with fail
    go_loop [6, 7, 8] (fun sh dv i => ∃ (k : Nat) (d : Int), k ≤ s.size ∧ i = .int .i64 k ∧ dv = .int .i64 d ∧ -(k : Int) ≤ d ∧ d ≤ (k : Int) ∧ Sh s none k d sh) (fun _ _ i => s.size - (intOf i).toNat)
    case atStart => exact ⟨o, 0, by omega, rfl, rfl, by omega, by omega, .inl ⟨rfl, h4.out⟩⟩
    case round =>
      obtain ⟨k, d, hk, rfl, rfl, hd1, hd2, hsh⟩ := hrel
      rcases hsh with ⟨rfl, hh⟩ | ⟨e', rfl, hR, hke⟩
      · by_cases hlk : k < s.size
        · have hat := shutL_at s d k hlk
          have i1 : (k : Int) < (s.size : Int) := by omega
          have i0 : (0 : Int) ≤ (k : Int) := by omega
          by_cases b1 : s[k] = 123
          · rw [if_pos b1, hh] at hat
            have HE := Lib.hid hat.symm
            have t1 : ((s[k].toNat : Int) == 123) = true := by rw [b1]; rfl
            clear hat hh b1
            go_wp2_with fail
            go_round
            case rel => exact ⟨k + 1, d + 1, by omega, by go_num, by go_num, by omega, by omega, .inl ⟨rfl, HE.out⟩⟩
            case measure => simp [intOf]; omega
          · rw [if_neg b1] at hat
            have t1 : ((s[k].toNat : Int) == 123) = false := by
              rw [beq_eq_false_iff_ne]; intro q; exact b1 (UInt8.toNat_inj.1 (show s[k].toNat = (123 : UInt8).toNat from by rw [show (123 : UInt8).toNat = 123 by decide]; omega))
            by_cases b2 : s[k] = 125
            · rw [if_pos b2] at hat
              have t2 : ((s[k].toNat : Int) == 125) = true := by rw [b2]; rfl
              by_cases b3 : d - 1 = 0
              · rw [if_pos b3, hh] at hat
                have HE := Lib.hid hat
                have t3 : ((d - 1 : Int) == 0) = true := beq_iff_eq.2 b3
                clear hat hh b1 b2 b3
                go_wp2_with fail
                go_round
                case rel => exact ⟨k + 1, d - 1, by omega, by go_num, by go_num, by omega, by omega, .inr ⟨k, rfl, HE.out, rfl⟩⟩
                case measure => simp [intOf]; omega
              · rw [if_neg b3, hh] at hat
                have HE := Lib.hid hat.symm
                have t3 : ((d - 1 : Int) == 0) = false := beq_eq_false_iff_ne.2 b3
                clear hat hh b1 b2 b3
                go_wp2_with fail
                go_round
                case rel => exact ⟨k + 1, d - 1, by omega, by go_num, by go_num, by omega, by omega, .inl ⟨rfl, HE.out⟩⟩
                case measure => simp [intOf]; omega
            · rw [if_neg b2, hh] at hat
              have HE := Lib.hid hat.symm
              have t2 : ((s[k].toNat : Int) == 125) = false := by
                rw [beq_eq_false_iff_ne]; intro q; exact b2 (UInt8.toNat_inj.1 (show s[k].toNat = (125 : UInt8).toNat from by rw [show (125 : UInt8).toNat = 125 by decide]; omega))
              clear hat hh b1 b2
              go_wp2_with fail
              go_round
              case rel => exact ⟨k + 1, d, by omega, by go_num, by go_num, by omega, by omega, .inl ⟨rfl, HE.out⟩⟩
              case measure => simp [intOf]; omega
        · have i1 : (s.size : Int) ≤ (k : Int) := by omega
          clear hh
          go_wp2_with fail
          exact bodyPost_ret (v := .tuple #[part0.val, .bool false]) (by simp [results, Try.results9, go_sem, Part.val, part0]) rfl ⟨rfl, ((Below.refl _ w).alloc (Nat.le_refl _) _)⟩
      · simp at hR

end Go.Proofs.Ytjcjdkgoegfhkaa.Seg

/- The walk of spec.NextPart at a placeholder that closes: its part. Conditions: at most 2147483647 bytes. -/
import Derived.Test.YtjcjdkgoegfhkaaSegF
import Derived.Test.YtjcjdkgoegfhkaaSegE0
namespace Go.Proofs.Ytjcjdkgoegfhkaa.Seg
open Go.RowKit

set_option maxRecDepth 100000 in
set_option maxHeartbeats 4000000 in
theorem np_D_some (s : ByteArray) (w : World) (o e : Nat) (tw : Int) (hs : s.size ≤ 2147483647) (h1 : Hid (ix s 123 = some o)) (h2 : Hid (oi (ix s 42) = tw)) (h3 : tw < 0 ∨ (o : Int) ≤ tw) (h4 : Hid (shutAt s o = some e)) :
    Calls Try.prog 9 #[.string s] w (NpPost (partAt s o e) true w) := by
  have hlt := ix_lt h1.out
  obtain ⟨hoe, hes⟩ := shutAt_range h1.out h4.out
  rcases h3 with h3 | h3
  all_goals
    try have p2 : decide (tw < (o : Int)) = false := decide_eq_false (by omega)
    go_enter Try.func9, Try.ntmps9
    go_wp2_with fail
    refine (index_any s 123 123 rfl _ (by omega)).mono ?_
    rintro e w' ⟨rfl, rfl⟩
    rw [h1.out]
    simp only [oi]
    go_wp2_with fail
    refine (index_any s 42 42 rfl _ (by omega)).mono ?_
    rintro e w' ⟨rfl, rfl⟩
    rw [h2.out]
    go_wp2_with fail
    go_loop [6, 7, 8] (fun sh dv i => ∃ (k : Nat) (d : Int), k ≤ s.size ∧ i = .int .i64 k ∧ dv = .int .i64 d ∧ -(k : Int) ≤ d ∧ d ≤ (k : Int) ∧ Sh s (some e) k d sh) (fun _ _ i => s.size - (intOf i).toNat)
    case atStart => exact ⟨o, 0, by omega, rfl, rfl, by omega, by omega, .inl ⟨rfl, h4.out⟩⟩
    case round =>
      obtain ⟨k, d, hk, rfl, rfl, hd1, hd2, hsh⟩ := hrel
      rcases hsh with ⟨rfl, hh⟩ | ⟨e', rfl, hR, hke⟩
      · by_cases hlk : k < s.size
        · have hat := shutL_at s d k hlk
          have i1 : (k : Int) < (s.size : Int) := by omega
          have i0 : (0 : Int) ≤ (k : Int) := by omega
          by_cases b1 : s[k] = 123
          · rw [if_pos b1, hh] at hat
            have HE := Lib.hid hat.symm
            have t1 : ((s[k].toNat : Int) == 123) = true := by rw [b1]; rfl
            clear hat hh b1
            go_wp2_with fail
            go_round
            case rel => exact ⟨k + 1, d + 1, by omega, by go_num, by go_num, by omega, by omega, .inl ⟨rfl, HE.out⟩⟩
            case measure => simp [intOf]; omega
          · rw [if_neg b1] at hat
            have t1 : ((s[k].toNat : Int) == 123) = false := by
              rw [beq_eq_false_iff_ne]; intro q; exact b1 (UInt8.toNat_inj.1 (show s[k].toNat = (123 : UInt8).toNat from by rw [show (123 : UInt8).toNat = 123 by decide]; omega))
            by_cases b2 : s[k] = 125
            · rw [if_pos b2] at hat
              have t2 : ((s[k].toNat : Int) == 125) = true := by rw [b2]; rfl
              by_cases b3 : d - 1 = 0
              · rw [if_pos b3, hh] at hat
                have HE := Lib.hid hat
                have t3 : ((d - 1 : Int) == 0) = true := beq_iff_eq.2 b3
                clear hat hh b1 b2 b3
                go_wp2_with fail
                go_round
                case rel => exact ⟨k + 1, d - 1, by omega, by go_num, by go_num, by omega, by omega, .inr ⟨k, rfl, HE.out, rfl⟩⟩
                case measure => simp [intOf]; omega
              · rw [if_neg b3, hh] at hat
                have HE := Lib.hid hat.symm
                have t3 : ((d - 1 : Int) == 0) = false := beq_eq_false_iff_ne.2 b3
                clear hat hh b1 b2 b3
                go_wp2_with fail
                go_round
                case rel => exact ⟨k + 1, d - 1, by omega, by go_num, by go_num, by omega, by omega, .inl ⟨rfl, HE.out⟩⟩
                case measure => simp [intOf]; omega
            · rw [if_neg b2, hh] at hat
              have HE := Lib.hid hat.symm
              have t2 : ((s[k].toNat : Int) == 125) = false := by
                rw [beq_eq_false_iff_ne]; intro q; exact b2 (UInt8.toNat_inj.1 (show s[k].toNat = (125 : UInt8).toNat from by rw [show (125 : UInt8).toNat = 125 by decide]; omega))
              clear hat hh b1 b2
              go_wp2_with fail
              go_round
              case rel => exact ⟨k + 1, d, by omega, by go_num, by go_num, by omega, by omega, .inl ⟨rfl, HE.out⟩⟩
              case measure => simp [intOf]; omega
        · exfalso
          rw [List.drop_eq_nil_of_le (by simp; omega)] at hh
          simp [shutL] at hh
      · obtain rfl : e' = e := by simpa using hR.symm
        obtain rfl : k = e' + 1 := hke
        rw [show ((e' + 1 : Nat) : Int) = (e' : Int) + 1 by omega]
        have j1 : (0 : Int) ≤ (e' : Int) := by omega
        have j2 : (o : Int) + 1 ≤ (e' : Int) := by omega
        have j3 : (e' : Int) ≤ (s.size : Int) := by omega
        have j4 : (0 : Int) ≤ (o : Int) + 1 := by omega
        have j5 : (0 : Int) ≤ (e' : Int) + 1 := by omega
        by_cases ht : e' + 1 < s.size
        · have HT := Lib.hid (tail_yes s (e' + 1) ht)
          have j6 : (e' : Int) + 1 < (s.size : Int) := by omega
          go_wp2_with fail
          have hkb : (s.extract (o + 1) e').size ≤ 2147483647 := by simp; omega
          cases hc : ix (s.extract (o + 1) e') 58 with
          | none =>
            have HP := Lib.hid (show partAt s o e' = ⟨2, s.extract (o + 1) e', ⟨#[]⟩, tailOf s (e' + 1), o, (e' : Int) + 1⟩ by unfold partAt; rw [hc])
            refine (index_any (s.extract (o + 1) e') 58 58 rfl _ (by omega)).mono ?_
            rintro e w' ⟨rfl, rfl⟩
            rw [hc]
            simp only [oi]
            clear hc
            go_wp2_with fail
            refine bodyPost_ret (v := .tuple #[Part.val ⟨2, s.extract (o + 1) e', ⟨#[]⟩, ((s[e' + 1]'ht).toNat : Int), o, (e' : Int) + 1⟩, .bool true]) (by simp [results, Try.results9, go_sem, Part.val]) rfl ⟨by rw [HP.out, HT.out], ?_⟩
            exact ((Below.refl _ w).alloc (Nat.le_refl _) _).alloc (by simp) _
          | some c =>
            have hcl := ix_lt hc
            obtain ⟨kx, hkx⟩ : ∃ kx, (s.extract (o + 1) e').extract 0 c = kx := ⟨_, rfl⟩
            obtain ⟨x, hx⟩ : ∃ x, (s.extract (o + 1) e').extract (c + 1) (s.extract (o + 1) e').size = x := ⟨_, rfl⟩
            have HP := Lib.hid (show partAt s o e' = ⟨1, kx, anch x, tailOf s (e' + 1), o, (e' : Int) + 1⟩ by unfold partAt; rw [hc]; simp only [hkx, hx])
            refine (index_any (s.extract (o + 1) e') 58 58 rfl _ (by omega)).mono ?_
            rintro e w' ⟨rfl, rfl⟩
            rw [hc]
            simp only [oi]
            clear hc
            generalize s.extract (o + 1) e' = key0 at *
            have c1 : (0 : Int) ≤ (c : Int) := by omega
            have c2 : (c : Int) + 1 ≤ (key0.size : Int) := by omega
            have c3 : (c : Int) ≤ (key0.size : Int) := by omega
            have c4 : (0 : Int) ≤ (c : Int) + 1 := by omega
            go_wp2_with fail
            go_region
            have hxs : x.size ≤ 2147483647 := by rw [← hx]; simp; omega
            clear hkx hx
            by_cases hx0 : x.size = 0
            · have HX := Lib.hid (anch_nil x hx0)
              have q1 : (x.size : Int) ≤ 0 := by omega
              clear hx0
              go_wp2_with fail
              refine bodyPost_ret (v := .tuple #[Part.val ⟨1, kx, x, ((s[e' + 1]'ht).toNat : Int), o, (e' : Int) + 1⟩, .bool true]) (by simp [results, Try.results9, go_sem, Part.val]) rfl ⟨by rw [HP.out, HT.out, HX.out], ?_⟩
              exact (((Below.refl _ w).alloc (Nat.le_refl _) _).alloc (by simp) _).drew
            · have q1 : 0 < x.size := by omega
              have q2 : (0 : Int) < (x.size : Int) := by omega
              have q3 : x.size - 1 < x.size := by omega
              have HX := Lib.hid (show anch x = (front x ++ x) ++ back x by unfold anch; rw [if_neg hx0])
              clear hx0
              have HF1 := fun h => Lib.hid (front_is x q1 h)
              have HF2 := fun h => Lib.hid (front_not x q1 h)
              have HB1 := fun h => Lib.hid (back_is x q3 h)
              have HB2 := fun h => Lib.hid (back_not x q3 h)
              by_cases hf : (x[0]'q1) = 94 <;> by_cases hl : (x[x.size - 1]'q3) = 36
              · have t4 : (((x[0]'q1).toNat : Int) != 94) = false := by rw [hf]; rfl
                have HF := HF1 hf
                have t5 : (((x[x.size - 1]'q3).toNat : Int) != 36) = false := by rw [hl]; rfl
                have HB := HB1 hl
                clear HF1 HF2 HB1 HB2 hf hl
                go_wp2_with fail
                refine bodyPost_ret (v := .tuple #[Part.val ⟨1, kx, ((⟨#[]⟩ ++ x : ByteArray) ++ (⟨#[]⟩ : ByteArray)), ((s[e' + 1]'ht).toNat : Int), o, (e' : Int) + 1⟩, .bool true]) (by simp [results, Try.results9, go_sem, Part.val]) rfl ⟨by rw [HP.out, HT.out, HX.out, HF.out, HB.out], ?_⟩
                exact (((Below.refl _ w).alloc (Nat.le_refl _) _).alloc (by simp) _).drew
              · have t4 : (((x[0]'q1).toNat : Int) != 94) = false := by rw [hf]; rfl
                have HF := HF1 hf
                have t5 : (((x[x.size - 1]'q3).toNat : Int) != 36) = true := by
                  rw [bne_iff_ne]; intro q; exact hl (UInt8.toNat_inj.1 (show (x[x.size - 1]'q3).toNat = (36 : UInt8).toNat from by rw [show (36 : UInt8).toNat = 36 by decide]; omega))
                have HB := HB2 hl
                clear HF1 HF2 HB1 HB2 hf hl
                go_wp2_with fail
                refine bodyPost_ret (v := .tuple #[Part.val ⟨1, kx, ((⟨#[]⟩ ++ x : ByteArray) ++ (⟨#[36]⟩ : ByteArray)), ((s[e' + 1]'ht).toNat : Int), o, (e' : Int) + 1⟩, .bool true]) (by simp [results, Try.results9, go_sem, Part.val]) rfl ⟨by rw [HP.out, HT.out, HX.out, HF.out, HB.out], ?_⟩
                exact (((Below.refl _ w).alloc (Nat.le_refl _) _).alloc (by simp) _).drew
              · have t4 : (((x[0]'q1).toNat : Int) != 94) = true := by
                  rw [bne_iff_ne]; intro q; exact hf (UInt8.toNat_inj.1 (show (x[0]'q1).toNat = (94 : UInt8).toNat from by rw [show (94 : UInt8).toNat = 94 by decide]; omega))
                have HF := HF2 hf
                have t5 : (((x[x.size - 1]'q3).toNat : Int) != 36) = false := by rw [hl]; rfl
                have HB := HB1 hl
                clear HF1 HF2 HB1 HB2 hf hl
                go_wp2_with fail
                refine bodyPost_ret (v := .tuple #[Part.val ⟨1, kx, ((⟨#[94]⟩ ++ x : ByteArray) ++ (⟨#[]⟩ : ByteArray)), ((s[e' + 1]'ht).toNat : Int), o, (e' : Int) + 1⟩, .bool true]) (by simp [results, Try.results9, go_sem, Part.val]) rfl ⟨by rw [HP.out, HT.out, HX.out, HF.out, HB.out], ?_⟩
                exact (((Below.refl _ w).alloc (Nat.le_refl _) _).alloc (by simp) _).drew
              · have t4 : (((x[0]'q1).toNat : Int) != 94) = true := by
                  rw [bne_iff_ne]; intro q; exact hf (UInt8.toNat_inj.1 (show (x[0]'q1).toNat = (94 : UInt8).toNat from by rw [show (94 : UInt8).toNat = 94 by decide]; omega))
                have HF := HF2 hf
                have t5 : (((x[x.size - 1]'q3).toNat : Int) != 36) = true := by
                  rw [bne_iff_ne]; intro q; exact hl (UInt8.toNat_inj.1 (show (x[x.size - 1]'q3).toNat = (36 : UInt8).toNat from by rw [show (36 : UInt8).toNat = 36 by decide]; omega))
                have HB := HB2 hl
                clear HF1 HF2 HB1 HB2 hf hl
                go_wp2_with fail
                refine bodyPost_ret (v := .tuple #[Part.val ⟨1, kx, ((⟨#[94]⟩ ++ x : ByteArray) ++ (⟨#[36]⟩ : ByteArray)), ((s[e' + 1]'ht).toNat : Int), o, (e' : Int) + 1⟩, .bool true]) (by simp [results, Try.results9, go_sem, Part.val]) rfl ⟨by rw [HP.out, HT.out, HX.out, HF.out, HB.out], ?_⟩
                exact (((Below.refl _ w).alloc (Nat.le_refl _) _).alloc (by simp) _).drew
        · have HT := Lib.hid (tail_no s (e' + 1) ht)
          have j6 : (s.size : Int) ≤ (e' : Int) + 1 := by omega
          go_wp2_with fail
          have hkb : (s.extract (o + 1) e').size ≤ 2147483647 := by simp; omega
          cases hc : ix (s.extract (o + 1) e') 58 with
          | none =>
            have HP := Lib.hid (show partAt s o e' = ⟨2, s.extract (o + 1) e', ⟨#[]⟩, tailOf s (e' + 1), o, (e' : Int) + 1⟩ by unfold partAt; rw [hc])
            refine (index_any (s.extract (o + 1) e') 58 58 rfl _ (by omega)).mono ?_
            rintro e w' ⟨rfl, rfl⟩
            rw [hc]
            simp only [oi]
            clear hc
            go_wp2_with fail
            refine bodyPost_ret (v := .tuple #[Part.val ⟨2, s.extract (o + 1) e', ⟨#[]⟩, 47, o, (e' : Int) + 1⟩, .bool true]) (by simp [results, Try.results9, go_sem, Part.val]) rfl ⟨by rw [HP.out, HT.out], ?_⟩
            exact ((Below.refl _ w).alloc (Nat.le_refl _) _).alloc (by simp) _
          | some c =>
            have hcl := ix_lt hc
            obtain ⟨kx, hkx⟩ : ∃ kx, (s.extract (o + 1) e').extract 0 c = kx := ⟨_, rfl⟩
            obtain ⟨x, hx⟩ : ∃ x, (s.extract (o + 1) e').extract (c + 1) (s.extract (o + 1) e').size = x := ⟨_, rfl⟩
            have HP := Lib.hid (show partAt s o e' = ⟨1, kx, anch x, tailOf s (e' + 1), o, (e' : Int) + 1⟩ by unfold partAt; rw [hc]; simp only [hkx, hx])
            refine (index_any (s.extract (o + 1) e') 58 58 rfl _ (by omega)).mono ?_
            rintro e w' ⟨rfl, rfl⟩
            rw [hc]
            simp only [oi]
            clear hc
            generalize s.extract (o + 1) e' = key0 at *
            have c1 : (0 : Int) ≤ (c : Int) := by omega
            have c2 : (c : Int) + 1 ≤ (key0.size : Int) := by omega
            have c3 : (c : Int) ≤ (key0.size : Int) := by omega
            have c4 : (0 : Int) ≤ (c : Int) + 1 := by omega
            go_wp2_with fail
            go_region
            have hxs : x.size ≤ 2147483647 := by rw [← hx]; simp; omega
            clear hkx hx
            by_cases hx0 : x.size = 0
            · have HX := Lib.hid (anch_nil x hx0)
              have q1 : (x.size : Int) ≤ 0 := by omega
              clear hx0
              go_wp2_with fail
              refine bodyPost_ret (v := .tuple #[Part.val ⟨1, kx, x, 47, o, (e' : Int) + 1⟩, .bool true]) (by simp [results, Try.results9, go_sem, Part.val]) rfl ⟨by rw [HP.out, HT.out, HX.out], ?_⟩
              exact (((Below.refl _ w).alloc (Nat.le_refl _) _).alloc (by simp) _).drew
            · have q1 : 0 < x.size := by omega
              have q2 : (0 : Int) < (x.size : Int) := by omega
              have q3 : x.size - 1 < x.size := by omega
              have HX := Lib.hid (show anch x = (front x ++ x) ++ back x by unfold anch; rw [if_neg hx0])
              clear hx0
              have HF1 := fun h => Lib.hid (front_is x q1 h)
              have HF2 := fun h => Lib.hid (front_not x q1 h)
              have HB1 := fun h => Lib.hid (back_is x q3 h)
              have HB2 := fun h => Lib.hid (back_not x q3 h)
              by_cases hf : (x[0]'q1) = 94 <;> by_cases hl : (x[x.size - 1]'q3) = 36
              · have t4 : (((x[0]'q1).toNat : Int) != 94) = false := by rw [hf]; rfl
                have HF := HF1 hf
                have t5 : (((x[x.size - 1]'q3).toNat : Int) != 36) = false := by rw [hl]; rfl
                have HB := HB1 hl
                clear HF1 HF2 HB1 HB2 hf hl
                go_wp2_with fail
                refine bodyPost_ret (v := .tuple #[Part.val ⟨1, kx, ((⟨#[]⟩ ++ x : ByteArray) ++ (⟨#[]⟩ : ByteArray)), 47, o, (e' : Int) + 1⟩, .bool true]) (by simp [results, Try.results9, go_sem, Part.val]) rfl ⟨by rw [HP.out, HT.out, HX.out, HF.out, HB.out], ?_⟩
                exact (((Below.refl _ w).alloc (Nat.le_refl _) _).alloc (by simp) _).drew
              · have t4 : (((x[0]'q1).toNat : Int) != 94) = false := by rw [hf]; rfl
                have HF := HF1 hf
                have t5 : (((x[x.size - 1]'q3).toNat : Int) != 36) = true := by
                  rw [bne_iff_ne]; intro q; exact hl (UInt8.toNat_inj.1 (show (x[x.size - 1]'q3).toNat = (36 : UInt8).toNat from by rw [show (36 : UInt8).toNat = 36 by decide]; omega))
                have HB := HB2 hl
                clear HF1 HF2 HB1 HB2 hf hl
                go_wp2_with fail
                refine bodyPost_ret (v := .tuple #[Part.val ⟨1, kx, ((⟨#[]⟩ ++ x : ByteArray) ++ (⟨#[36]⟩ : ByteArray)), 47, o, (e' : Int) + 1⟩, .bool true]) (by simp [results, Try.results9, go_sem, Part.val]) rfl ⟨by rw [HP.out, HT.out, HX.out, HF.out, HB.out], ?_⟩
                exact (((Below.refl _ w).alloc (Nat.le_refl _) _).alloc (by simp) _).drew
              · have t4 : (((x[0]'q1).toNat : Int) != 94) = true := by
                  rw [bne_iff_ne]; intro q; exact hf (UInt8.toNat_inj.1 (show (x[0]'q1).toNat = (94 : UInt8).toNat from by rw [show (94 : UInt8).toNat = 94 by decide]; omega))
                have HF := HF2 hf
                have t5 : (((x[x.size - 1]'q3).toNat : Int) != 36) = false := by rw [hl]; rfl
                have HB := HB1 hl
                clear HF1 HF2 HB1 HB2 hf hl
                go_wp2_with fail
                refine bodyPost_ret (v := .tuple #[Part.val ⟨1, kx, ((⟨#[94]⟩ ++ x : ByteArray) ++ (⟨#[]⟩ : ByteArray)), 47, o, (e' : Int) + 1⟩, .bool true]) (by simp [results, Try.results9, go_sem, Part.val]) rfl ⟨by rw [HP.out, HT.out, HX.out, HF.out, HB.out], ?_⟩
                exact (((Below.refl _ w).alloc (Nat.le_refl _) _).alloc (by simp) _).drew
              · have t4 : (((x[0]'q1).toNat : Int) != 94) = true := by
                  rw [bne_iff_ne]; intro q; exact hf (UInt8.toNat_inj.1 (show (x[0]'q1).toNat = (94 : UInt8).toNat from by rw [show (94 : UInt8).toNat = 94 by decide]; omega))
                have HF := HF2 hf
                have t5 : (((x[x.size - 1]'q3).toNat : Int) != 36) = true := by
                  rw [bne_iff_ne]; intro q; exact hl (UInt8.toNat_inj.1 (show (x[x.size - 1]'q3).toNat = (36 : UInt8).toNat from by rw [show (36 : UInt8).toNat = 36 by decide]; omega))
                have HB := HB2 hl
                clear HF1 HF2 HB1 HB2 hf hl
                go_wp2_with fail
                refine bodyPost_ret (v := .tuple #[Part.val ⟨1, kx, ((⟨#[94]⟩ ++ x : ByteArray) ++ (⟨#[36]⟩ : ByteArray)), 47, o, (e' : Int) + 1⟩, .bool true]) (by simp [results, Try.results9, go_sem, Part.val]) rfl ⟨by rw [HP.out, HT.out, HX.out, HF.out, HB.out], ?_⟩
                exact (((Below.refl _ w).alloc (Nat.le_refl _) _).alloc (by simp) _).drew

end Go.Proofs.Ytjcjdkgoegfhkaa.Seg

/- laws.zzFits1, and the law FnParam walked: it returns true. Conditions: the arguments are two slices of strings and a string. -/
import Derived.Test.YtjcjdkgoegfhkaaParD
namespace Go.Proofs.Ytjcjdkgoegfhkaa.Par
open Go.RowKit Go.Shelf

/-- No text of the first n ones is longer than the bound. -/
def fitsN (ks : List ByteArray) (n : Nat) : Prop := ∀ j, j < n → (ks[j]?.getD ByteArray.empty).size ≤ 2147483647

def FitsPost (ks : List ByteArray) (w : World) (e : Ending) (w' : World) : Prop := ∃ r, e = .returned (.bool r) ∧ (r = true → ks.length ≤ 2147483647 ∧ fitsN ks ks.length) ∧ w = w'

set_option maxRecDepth 100000 in
set_option maxHeartbeats 1000000 in
theorem fits_any (a : Option Addr) (c : Nat) (ks : List ByteArray) (w : World) (hK : SArg w a ks) (hr : ks.length ≤ 8796093022207) :
    Calls Try.prog 7 #[.slice a ks.length c] w (FitsPost ks w) := by
  go_enter Try.func7, Try.ntmps7
  by_cases hl : 2147483647 < ks.length
  · go_wp2
    go_ret
    exact ⟨false, rfl, fun h => by simp at h, rfl⟩
  · go_wp2
    go_loop [10] (fun i => ∃ n : Nat, n ≤ ks.length ∧ i = .int .i64 n ∧ Hid (fitsN ks n)) (fun i => ks.length - (intOf i).toNat)
    case atStart => exact ⟨0, Nat.zero_le _, rfl, fun j hj => by omega⟩
    case round =>
      obtain ⟨n, hn, rfl, hf⟩ := hrel
      by_cases hlt : n < ks.length
      · obtain ⟨b1, o1, rfl, hb1, hc1⟩ := hK n hlt
        have hq1 : ks[n]?.getD ByteArray.empty = ks[n] := by simp [hlt]
        rw [hq1] at hc1
        have HQ := Lib.hid hq1
        clear hq1
        have hi1 : (n : Int) < (ks.length : Int) := by omega
        have hi0 : (0 : Int) ≤ (n : Int) := by omega
        clear hK
        by_cases hs : 2147483647 < ks[n].size
        · go_wp2
          go_ret
          exact ⟨false, rfl, fun h => by simp at h, rfl⟩
        · go_wp2
          go_round
          case rel => exact ⟨n + 1, by omega, by go_num, fun j hj => by
            by_cases e : j = n
            · subst e; rw [HQ.out]; omega
            · exact hf.out j (by omega)⟩
          case measure => simp [intOf]; omega
      · obtain rfl : n = ks.length := by omega
        clear hK
        go_wp2
        go_ret
        exact ⟨true, rfl, fun _ => ⟨by omega, hf.out⟩, rfl⟩

theorem lastN_succ_hit (ks vs : List ByteArray) (key : ByteArray) (n : Nat) (h1 : n < ks.length) (h2 : n < vs.length) (h : ks[n].toList = key.toList) : lastN ks vs key (n + 1) = vs[n] := by
  rw [lastN, if_pos (by simpa [h1] using h)]; simp [h2]
theorem lastN_succ_miss (ks vs : List ByteArray) (key : ByteArray) (n : Nat) (h1 : n < ks.length) (h : ks[n].toList ≠ key.toList) : lastN ks vs key (n + 1) = lastN ks vs key n := by
  rw [lastN, if_neg (by simpa [h1] using h)]

def TruePost (w : World) (e : Ending) (w' : World) : Prop := e = .returned (.bool true) ∧ Below w.heap.size w w'

set_option maxRecDepth 100000 in
set_option maxHeartbeats 4000000 in
/-- Behind the first guard. -/
theorem law_rest (aK aV : Option Addr) (cK cV : Nat) (ks vs : List ByteArray) (key : ByteArray) (w : World) (hK : SArg w aK ks) (hV : SArg w aV vs) (hr : ks.length ≤ 8796093022207) (hrv : vs.length ≤ 8796093022207) :
    Calls Try.prog 3 #[.slice aK ks.length cK, .slice aV vs.length cV, .string key] w (TruePost w) := by
  go_enter Try.func3, Try.ntmps3
  by_cases hs : 2147483647 < key.size
  · go_wp2_with fail
    refine (fits_any _ _ _ _ hK hr).mono ?_
    rintro e w' ⟨r1, rfl, hf1, rfl⟩
    clear hf1
    cases r1 with
    | false =>
      go_wp2_with fail
      go_ret
      exact ⟨rfl, Below.refl _ _⟩
    | true =>
      go_wp2_with fail
      refine (fits_any _ _ _ _ hV hrv).mono ?_
      rintro e w' ⟨r2, rfl, hf2, rfl⟩
      clear hf2
      cases r2 with
      | false =>
        go_wp2_with fail
        go_ret
        exact ⟨rfl, Below.refl _ _⟩
      | true =>
        go_wp2_with fail
        go_ret
        exact ⟨rfl, Below.refl _ _⟩
  · go_wp2_with fail
    refine (fits_any _ _ _ _ hK hr).mono ?_
    rintro e w' ⟨r1, rfl, hf1, rfl⟩
    clear hf1
    cases r1 with
    | false =>
      go_wp2_with fail
      go_ret
      exact ⟨rfl, Below.refl _ _⟩
    | true =>
      go_wp2_with fail
      refine (fits_any _ _ _ _ hV hrv).mono ?_
      rintro e w' ⟨r2, rfl, hf2, rfl⟩
      clear hf2
      cases r2 with
      | false =>
        go_wp2_with fail
        go_ret
        exact ⟨rfl, Below.refl _ _⟩
      | true =>
        by_cases hm : 30 < ks.length
        · have hm' : (30 : Int) < (ks.length : Int) := by omega
          go_wp2_with fail
          go_ret
          exact ⟨rfl, Below.refl _ _⟩
        · have hm' : (ks.length : Int) ≤ 30 := by omega
          by_cases he : vs.length = ks.length
          · have hb : ((vs.length : Int) != (ks.length : Int)) = false := by rw [he]; simp
            have HE := Lib.hid he
            have hmv : vs.length ≤ 30 := by omega
            clear he
            go_wp2_with fail
            go_loop [7, 35] (fun v i => ∃ n : Nat, n ≤ ks.length ∧ i = .int .i64 n ∧ v = .string (lastN ks vs key n)) (fun _ i => ks.length - (intOf i).toNat)
            case atStart => exact ⟨0, Nat.zero_le _, rfl, rfl⟩
            case round =>
              obtain ⟨n, hn, rfl, rfl⟩ := hrel
              by_cases hlt : n < ks.length
              · have hltv : n < vs.length := by rw [HE.out]; exact hlt
                obtain ⟨b1, o1, rfl, hb1, hc1⟩ := hK n hlt
                obtain ⟨b2, o2, rfl, hb2, hc2⟩ := hV n hltv
                rw [show ks[n]?.getD ByteArray.empty = ks[n] by simp [hlt]] at hc1
                rw [show vs[n]?.getD ByteArray.empty = vs[n] by simp [hltv]] at hc2
                have hi1 : (n : Int) < (ks.length : Int) := by omega
                have hi2 : (n : Int) < (vs.length : Int) := by omega
                have hi0 : (0 : Int) ≤ (n : Int) := by omega
                clear hK hV
                by_cases hh : ks[n].toList = key.toList
                · have t1 : (ks[n].toList == key.toList) = true := by rw [hh]; simp
                  have L := Lib.hid (lastN_succ_hit ks vs key n hlt hltv hh)
                  clear hh
                  go_wp2_with fail
                  go_round
                  case rel => exact ⟨n + 1, by omega, by go_num, by rw [L.out]⟩
                  case measure => simp [intOf]; omega
                · have t1 : (ks[n].toList == key.toList) = false := by simpa using hh
                  have L := Lib.hid (lastN_succ_miss ks vs key n hlt hh)
                  clear hh
                  go_wp2_with fail
                  go_round
                  case rel => exact ⟨n + 1, by omega, by go_num, by rw [L.out]⟩
                  case measure => simp [intOf]; omega
              · obtain rfl : n = ks.length := by omega
                go_wp2_with fail
                refine (param_any aK aV cK cV ks vs key _ hK hV HE (by omega)).mono ?_
                rintro e w' ⟨rfl, hB⟩
                have t1 : ((lastN ks vs key ks.length).toList == (lastN ks vs key ks.length).toList) = true := by simp
                clear hK hV
                go_wp2_with fail
                go_ret
                exact ⟨rfl, hB⟩
          · have hb : ((vs.length : Int) != (ks.length : Int)) = true := by rw [bne_iff_ne]; omega
            go_wp2_with fail
            go_ret
            exact ⟨rfl, Below.refl _ _⟩

/-- The law's walk, in the form of its row. -/
theorem law_walk (w : World) (aK : Option Addr) (cK : Nat) (ks : List ByteArray) (aV : Option Addr) (cV : Nat) (vs : List ByteArray) (key : ByteArray) (hK : SArg w aK ks) (hr : ks.length ≤ 8796093022207) (hV : SArg w aV vs) (hrv : vs.length ≤ 8796093022207) (_hk : key.size ≤ 140737488351232) :
    Calls Try.prog 3 #[.slice aK ks.length cK, .slice aV vs.length cV, .string key] w (fun e w' => e = .returned (.bool true) ∧ Below w.heap.size w w') :=
  law_rest aK aV cK cV ks vs key w hK hV hr hrv

end Go.Proofs.Ytjcjdkgoegfhkaa.Par

/- The law FnJoined walked: it returns true. Conditions: the arguments are a slice of strings and a string; and what Known answers. -/
import Derived.Test.YtjcjdkgoegfhkaaJoiI
import Derived.Test.YtjcjdkgoegfhkaaParE
namespace Go.Proofs.Ytjcjdkgoegfhkaa.Joi
open Go.RowKit Seg

def upTo (ms : List ByteArray) (n : Nat) : ByteArray := ⟨(ms.take n).flatMap (·.data.toList) |>.toArray⟩
theorem upTo_list (ms : List ByteArray) (n : Nat) : (upTo ms n).data.toList = (ms.take n).flatMap (·.data.toList) := by simp [upTo]
theorem upTo_succ (ms : List ByteArray) (n : Nat) (h : n < ms.length) : upTo ms n ++ ms[n] = upTo ms (n + 1) := by
  apply ba_ext
  rw [ba_append, upTo_list, upTo_list, List.take_succ_eq_append_getElem h, List.flatMap_append, List.flatMap_cons, List.flatMap_nil, List.append_nil]
theorem sht_flat (p : List UInt8) : ∀ ms : List ByteArray, sht (lists ms) p = ms.flatMap (·.data.toList) ++ p
  | [] => rfl
  | m :: r => by
    have := sht_flat p r
    unfold lists at this ⊢
    simp [sht, this]
theorem upTo_whole (ms : List ByteArray) (p : ByteArray) : upTo ms ms.length ++ p = whole ms p := by
  apply ba_ext
  rw [ba_append, upTo_list, whole_list, sht_flat, List.take_length]

theorem upTo_size (ms : List ByteArray) (B : Nat) (h : ∀ j, j < ms.length → (ms[j]?.getD ByteArray.empty).size ≤ B) : ∀ n, n ≤ ms.length → (upTo ms n).size ≤ n * B
  | 0, _ => by rw [Nat.zero_mul]; exact Nat.le_of_eq (by unfold upTo; simp; rfl)
  | n + 1, hn => by
    have h1 := upTo_size ms B h n (by omega)
    have h2 := h n (by omega)
    have e : ms[n]?.getD ByteArray.empty = ms[n] := by simp [show n < ms.length by omega]
    rw [e] at h2
    rw [← upTo_succ ms n (by omega), ByteArray.size_append, Nat.add_mul]
    omega

set_option maxRecDepth 100000 in
set_option maxHeartbeats 4000000 in
theorem joined_rest (w : World) (a : Option Addr) (c : Nat) (ms : List ByteArray) (s : ByteArray) (hA : Par.SArg w a ms) (hr : ms.length ≤ 8796093022207)
    (hK : ∀ (x : ByteArray) (w : World), x.size ≤ 2147483650 → Calls Try.prog 34 #[.string x] w (KnownPost x w)) :
    Calls Try.prog 6 #[.slice a ms.length c, .string s] w fun e w' => e = .returned (.bool true) ∧ Below w.heap.size w w' := by
  obtain ⟨i9, hi9, hz0, hz1, hz2⟩ := info_parts info9
  have HF := Lib.hid (Par.fits_any a c ms w hA hr)
  have HK := Lib.hid hK
  clear hK
  go_enter Try.func6, Try.ntmps6
  go_wp2_with fail
  refine HF.out.mono ?_
  rintro e w1 ⟨r, rfl, hf, rfl⟩
  cases r with
  | false =>
    clear HF hf
    go_wp2_with fail
    go_ret
    exact ⟨rfl, Below.refl _ _⟩
  | true =>
    obtain ⟨_, hfit⟩ := hf rfl
    clear HF hf
    by_cases hs : 2147483647 < s.size
    · have : (2147483647 : Int) < (s.size : Int) := by omega
      go_wp2_with fail
      go_ret
      exact ⟨rfl, Below.refl _ _⟩
    · have hs1 : (s.size : Int) ≤ 2147483647 := by omega
      have HR := Lib.hid (isRoute_any s w (by omega) HK.out)
      have HD := fun w => Lib.hid (double_any s w (by omega))
      have HFit := Lib.hid hfit
      have HA := Lib.hid hA
      clear HK hfit hA
      go_wp2_with fail
      refine HR.out.mono ?_
      rintro e w1 ⟨r1, r2, rfl, hok, hB1⟩
      cases r1 with
      | false =>
        clear hok HR
        go_wp2_with fail
        go_ret
        exact ⟨rfl, hB1⟩
      | true =>
        cases r2 with
        | false =>
          clear hok HR
          go_wp2_with fail
          go_ret
          exact ⟨rfl, hB1⟩
        | true =>
          have HOk := Lib.hid (hok rfl rfl)
          clear HR hok
          by_cases hm : 5 < ms.length
          · have : (5 : Int) < (ms.length : Int) := by omega
            go_wp2_with fail
            go_ret
            exact ⟨rfl, hB1⟩
          · have hm1 : (ms.length : Int) ≤ 5 := by omega
            go_wp2_with fail
            refine (HD _).out.mono ?_
            rintro e w2 ⟨r, rfl, hd, rfl⟩
            cases r with
            | true =>
              clear hd HD
              go_wp2_with fail
              go_ret
              exact ⟨rfl, hB1⟩
            | false =>
              have HDd := Lib.hid (hd rfl)
              clear HD hd
              have HX0 := Lib.hid (show (w1.alloc (.cells #[] 9)).ownsRow w.heap.size 9 1 (.slice (some ⟨w1.heap.size, 0, none⟩) 0 0) 0 [] from World.ownsRow_made w1 #[] 0 hB1.size (by decide) rfl)
              go_wp2_with fail
              go_loopw [7, 8, 43] (fun lv wv iv wr => ∃ i : Nat, iv = .int .i64 i ∧ i ≤ ms.length ∧ wv = .string (upTo ms i) ∧ Hid (∀ m ∈ ms.take i, MountL m.data.toList) ∧ wr.ownsRow w.heap.size 9 1 lv i (((ms.take i).map starred).map Value.string) ∧ Below w.heap.size w wr) (fun _ _ iv _ => ms.length - (intOf iv).toNat)
              case atStart => exact ⟨0, rfl, Nat.zero_le _, rfl, Lib.hid (fun m hm => by simp at hm), HX0.out, hB1.alloc hB1.size _⟩
              case round =>
                clear HX0 hB1
                obtain ⟨i, rfl, hi, rfl, hms, hX, hB⟩ := hrel
                by_cases hil : i < ms.length
                · obtain ⟨b, off, rfl, hb, hc⟩ := HA.out i hil
                  have e1 : ms[i]?.getD ByteArray.empty = ms[i] := by simp [hil]
                  have hsz := HFit.out i hil
                  have hsu := upTo_size ms 2147483647 HFit.out i hi
                  rw [e1] at hc hsz
                  have hc1 := (hB.cell (p := ⟨b, off + i, none⟩) hb).trans hc
                  have HMo := fun w => Lib.hid (mount_any ms[i] w (by omega))
                  have k0 : (0 : Int) ≤ (i : Int) := by omega
                  have k1 : (i : Int) < (ms.length : Int) := by omega
                  clear e1 hc
                  go_wp2_with fail
                  refine (HMo _).out.mono ?_
                  rintro e w5 ⟨r, rfl, hr, rfl⟩
                  cases r with
                  | false =>
                    clear hr HMo
                    go_wp2_with fail
                    go_ret
                    exact ⟨rfl, hB⟩
                  | true =>
                    have HN := Lib.hid (show ∀ m ∈ ms.take (i + 1), MountL m.data.toList from fun m hm => by
                      rw [List.take_succ_eq_append_getElem hil] at hm
                      rcases List.mem_append.1 hm with hm | hm
                      · exact hms.out m hm
                      · simp at hm; subst hm; exact mount_list (hr rfl).1 (hr rfl).2)
                    have hup := Lib.hid (upTo_succ ms i hil)
                    have hbw := hB.size
                    have hm2 : i + 1 ≤ maxLen := by unfold maxLen; omega
                    clear hr HMo
                    go_wp2_with (first | (at_builtin; refine wpList_append_own _ rfl _ _ 22 rfl w.heap.size 9 i9 (.string ⟨#[]⟩) 1 16 Try.underlying22 hi9 hz0 hz1 hz2 rfl (by decide) _ _ _ rfl (hX.alloc _) ⟨wr.heap.size, 0, none⟩ 1 1 [.string (starred ms[i])] rfl rfl (cell_one_new _ _ _) (by simp [Value.oneCell']) hm2 (by omega) (by rw [World.size_alloc]; omega) ?_; intro v' w2 hown2 hgrow2 _))
                    have hB3 : Below w.heap.size w w2 := Below.grown (hB.alloc hbw _) hgrow2 (by rw [World.size_alloc]; omega) (fun q e => (hX.lt q e).1)
                    have hX3 : w2.ownsRow w.heap.size 9 1 v' (i + 1) (((ms.take (i + 1)).map starred).map Value.string) := by
                      rw [List.take_succ_eq_append_getElem hil, List.map_append, List.map_append]
                      exact hown2
                    clear hown2 hgrow2 hX
                    go_wp2_with fail
                    go_roundw
                    case rel => exact ⟨i + 1, by go_num, by omega, by rw [hup.out], HN, hX3, hB3⟩
                    case measure => simp [intOf]; omega
                · obtain rfl : i = ms.length := by omega
                  have hbw := hB.size
                  have hm2 : ms.length + 1 ≤ maxLen := by unfold maxLen; omega
                  have hmm : ∀ m ∈ ms, MountL m.data.toList := by have := hms.out; rwa [List.take_length] at this
                  have hlen : (ms.map starred ++ [s]).length = ms.length + 1 := by simp
                  have hcsz : (cat (ms.map starred ++ [s])).size ≤ 100000000000000 := by
                    have e1 : (cat (ms.map starred ++ [s])).size = (lng (lists ms) s.data.toList).length := by rw [← cat_list]; simp
                    have e2 := lng_size (lists ms) s.data.toList 2147483647 (fun x hx => by
                      unfold lists at hx
                      obtain ⟨m, hm, rfl⟩ := List.mem_map.1 hx
                      obtain ⟨j, hj, rfl⟩ := List.getElem_of_mem hm
                      have := HFit.out j hj
                      rw [show ms[j]?.getD ByteArray.empty = ms[j] by simp [hj]] at this
                      simpa using this)
                    have e3 : (lists ms).length = ms.length := by simp [lists]
                    have e4 : s.data.toList.length = s.size := by simp
                    rw [e3, e4] at e2
                    omega
                  have hwsz : (whole ms s).size ≤ 140737488355328 := by
                    have e1 := upTo_size ms 2147483647 HFit.out ms.length (Nat.le_refl _)
                    rw [← upTo_whole, ByteArray.size_append]
                    omega
                  have HW := Lib.hid (fun w => wild_all ms s hmm HOk.out hcsz w)
                  have HE := Lib.hid (ended_whole ms s hmm HOk.out HDd.out)
                  have HT := fun w => Lib.hid (trimmed_any (whole ms s) w hwsz)
                  have hup := upTo_whole ms s
                  have hsu : (upTo ms ms.length).size ≤ 10737418235 := by
                    have e1 := upTo_size ms 2147483647 HFit.out ms.length (Nat.le_refl _)
                    omega
                  clear hms hmm
                  go_wp2_with (first | (at_builtin; refine wpList_append_own _ rfl _ _ 22 rfl w.heap.size 9 i9 (.string ⟨#[]⟩) 1 16 Try.underlying22 hi9 hz0 hz1 hz2 rfl (by decide) _ _ _ rfl (hX.alloc _) ⟨wr.heap.size, 0, none⟩ 1 1 [.string s] rfl rfl (cell_one_new _ _ _) (by simp [Value.oneCell']) hm2 (by omega) (by rw [World.size_alloc]; omega) ?_; intro v' w2 hown2 hgrow2 _))
                  have hB3 : Below w.heap.size w w2 := Below.grown (hB.alloc hbw _) hgrow2 (by rw [World.size_alloc]; omega) (fun q e => (hX.lt q e).1)
                  have hX3 : w2.ownsRow w.heap.size 9 1 v' (ms.map starred ++ [s]).length ((ms.map starred ++ [s]).map Value.string) := by
                    rw [hlen, List.map_append]
                    rw [List.take_length] at hown2
                    exact hown2
                  obtain ⟨a3, c3, rfl, hrd⟩ := own_shape hX3
                  have HJ := Lib.hid (joined_any (ms.map starred ++ [s]) a3 c3 w2 hrd (by omega) (by omega) (by omega) (whole ms s) hwsz HW.out)
                  rw [HE.out] at HJ
                  clear hown2 hgrow2 hX hX3 hrd HW HE
                  refine HJ.out.mono ?_
                  rintro e w4 ⟨rfl, hB4⟩
                  go_wp2_with fail
                  refine (HT _).out.mono ?_
                  rintro e w5 ⟨rfl, rfl⟩
                  have t9 : ((trimmed (whole ms s)).toList == (trimmed (whole ms s)).toList) = true := by simp
                  go_wp2_with fail
                  go_ret
                  exact ⟨rfl, hB3.trans (hB4.mono hB3.size)⟩

theorem joined_law (w : World) (a : Option Addr) (c : Nat) (ms : List ByteArray) (s : ByteArray) (hA : Par.SArg w a ms) (hr : ms.length ≤ 8796093022207) (_hs : s.size ≤ 140737488351232)
    (hK : ∀ (x : ByteArray) (w : World), x.size ≤ 2147483650 → Calls Try.prog 34 #[.string x] w (KnownPost x w)) :
    Calls Try.prog 6 #[.slice a ms.length c, .string s] w fun e w' => e = .returned (.bool true) ∧ Below w.heap.size w w' := joined_rest w a c ms s hA hr hK

end Go.Proofs.Ytjcjdkgoegfhkaa.Joi

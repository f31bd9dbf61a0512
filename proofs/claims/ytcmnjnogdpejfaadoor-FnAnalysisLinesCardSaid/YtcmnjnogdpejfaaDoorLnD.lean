/- All characters of a list may stand there (scAll); a text's characters (scRunes); Rows and Row: walked. -/
import Derived.Test.YtcmnjnogdpejfaaDoorLnC
namespace Go.Proofs.YtcmnjnogdpejfaaDoor.Ln
open Go.RowKit
set_option linter.unusedVariables false
set_option linter.unusedSimpArgs false
def okc (fd : Bool) (c : Int) : Bool := ct c || (fd && c == 10)
theorem take_all {zs : List Int} {p : Int → Bool} {i : Nat} (h : i < zs.length) (ha : (zs.take i).all p = true) (hc : p (zs.getD i 0) = true) : (zs.take (i + 1)).all p = true := by
  rw [List.take_add_one, List.all_append, ha]
  rw [List.getD_eq_getElem?_getD, List.getElem?_eq_getElem h] at hc
  simp only [Option.getD_some] at hc
  rw [List.getElem?_eq_getElem h]
  simp [hc]
theorem not_all {zs : List Int} {p : Int → Bool} {i : Nat} (h : i < zs.length) (hc : p (zs.getD i 0) = false) : zs.all p = false := by
  rw [List.getD_eq_getElem?_getD, List.getElem?_eq_getElem h] at hc
  simp only [Option.getD_some] at hc
  rw [List.all_eq_false]
  exact ⟨_, List.getElem_mem h, by rw [hc]; simp⟩
set_option maxHeartbeats 4000000 in
set_option maxRecDepth 100000 in
theorem all_any (zs : List Int) (b cp : Nat) (fd : Bool) (w : World) (hm : zs.length ≤ 70000) (hz : ∀ c ∈ zs, 0 ≤ c ∧ c ≤ 1114111) (hc : ∀ j, j < zs.length → w.cell? ⟨b, j, none⟩ = some (.int .i32 (zs.getD j 0))) :
    Calls Tryd.prog 8 #[.slice (some ⟨b, 0, none⟩) zs.length cp, .bool fd] w fun e w' => e = .returned (.bool (zs.all (okc fd))) ∧ w' = w := by
  have HC := Lib.hid hc
  have HZ := Lib.hid hz
  clear hc hz
  go_enter Tryd.func8, Tryd.ntmps8
  go_wp2_with fail
  go_loopg [9] zs.length (fun g s9 wr => wr = w ∧ ∃ i : Nat, i ≤ zs.length ∧ g = zs.length - i ∧ s9 = .int .i64 (i : Nat) ∧ (zs.take i).all (okc fd) = true)
  case atStart => exact ⟨rfl, 0, Nat.zero_le _, rfl, rfl, rfl⟩
  obtain ⟨rfl, i, hi, hgk, rfl, ha⟩ := hrel
  have HGK := Lib.hid hgk
  have HA := Lib.hid ha
  clear hgk ha
  by_cases hlt : i < zs.length
  · have j1 : (i : Int) < (zs.length : Int) := by omega
    have j0 : (0 : Int) ≤ (i : Int) := by omega
    have hcell := HC.out i hlt
    have hr := HZ.out (zs.getD i 0) (by rw [List.getD_eq_getElem?_getD, List.getElem?_eq_getElem hlt]; exact List.getElem_mem hlt)
    obtain ⟨c, HCC⟩ : ∃ c, Hid (zs.getD i 0 = c) := ⟨_, rfl⟩
    rw [HCC.out] at hcell hr
    have hct := content_any c hr.1 (by omega) wr
    cases hk : okc fd c with
    | true =>
      have HK := Lib.hid hk
      unfold okc at hk
      cases hx : ct c with
      | true =>
        rw [hx] at hct
        have HCT := Lib.hid hct
        clear hk hr hct hx
        go_wp2_with fail
        refine HCT.out.mono ?_
        rintro e w1 ⟨rfl, rfl⟩
        go_wp2_with fail
        go_roundg (zs.length - (i + 1))
        case measure => have := HGK.out; omega
        case rel => exact ⟨rfl, i + 1, by omega, rfl, rfl, take_all hlt HA.out (by rw [HCC.out]; exact HK.out)⟩
      | false =>
        rw [hx, Bool.false_or, Bool.and_eq_true] at hk
        obtain ⟨rfl, h10⟩ := hk
        rw [hx] at hct
        have HCT := Lib.hid hct
        clear hr hct hx
        go_wp2_with fail
        refine HCT.out.mono ?_
        rintro e w1 ⟨rfl, rfl⟩
        go_wp2_with fail
        go_roundg (zs.length - (i + 1))
        case measure => have := HGK.out; omega
        case rel => exact ⟨rfl, i + 1, by omega, rfl, rfl, take_all hlt HA.out (by rw [HCC.out]; exact HK.out)⟩
    | false =>
      have hno : zs.all (okc fd) = false := not_all hlt (by rw [HCC.out]; exact hk)
      have HNO := Lib.hid hno
      unfold okc at hk
      rw [Bool.or_eq_false_iff] at hk
      obtain ⟨hx, hk⟩ := hk
      rw [hx] at hct
      have HCT := Lib.hid hct
      clear hr hct hx hno
      cases fd with
      | false =>
        clear hk
        go_wp2_with fail
        refine HCT.out.mono ?_
        rintro e w1 ⟨rfl, rfl⟩
        go_wp2_with fail
        go_ret
        refine ⟨?_, rfl⟩
        rw [HNO.out]
        rfl
      | true =>
        rw [Bool.true_and] at hk
        go_wp2_with fail
        refine HCT.out.mono ?_
        rintro e w1 ⟨rfl, rfl⟩
        go_wp2_with fail
        go_ret
        refine ⟨?_, rfl⟩
        rw [HNO.out]
        rfl
  · obtain rfl : i = zs.length := by omega
    have ht : zs.all (okc fd) = true := by
      have := HA.out
      rw [List.take_of_length_le (Nat.le_refl _)] at this
      exact this
    have HTT := Lib.hid ht
    clear ht
    have j1 : ¬ ((zs.length : Int) < (zs.length : Int)) := by omega
    go_wp2_with fail
    go_ret
    refine ⟨?_, rfl⟩
    rw [HTT.out]
    rfl
theorem runes_run (s : ByteArray) (w : World) (hs : s.size ≤ 2147483647) : ∃ c w', (convert 9 28 (.string s)).run Tryd.prog w = .ok (.slice (some ⟨w.heap.size, 0, none⟩) (rsFrom s s.size 0).length c) w' ∧ Below w.heap.size w w' ∧
    ∀ j, j < (rsFrom s s.size 0).length → w'.cell? ⟨w.heap.size, j, none⟩ = some (.int .i32 ((rsFrom s s.size 0).getD j 0)) := by
  have hl := rs_len s s.size 0
  have he := runes_list s s.size 0 #[]
  rw [Array.empty_append] at he
  have hr := run_runes_of_string (P := Tryd.prog) w 9 28 21 s Tryd.underlying9 Tryd.underlying28 Tryd.underlying21 (by rw [he]; simp; omega)
  rw [he] at hr
  simp only [List.size_toArray, List.length_map] at hr
  obtain ⟨zs, hzs⟩ : ∃ zs, rsFrom s s.size 0 = zs := ⟨_, rfl⟩
  rw [hzs] at hr hl ⊢
  refine ⟨_, _, hr, (Below.refl _ _).drew.alloc (Nat.le_refl _) _, fun j hj => ?_⟩
  have hh : ∀ C : Array Value, (w.drew.alloc (.cells C 21)).cell? ⟨w.heap.size, j, none⟩ = C[j]? := fun C => by
    have h1 : (w.drew.alloc (.cells C 21)).heap[w.heap.size]? = some (.cells C 21 (0, 0)) := by
      show (w.heap.push (.cells C 21))[w.heap.size]? = _
      simp
    unfold World.cell?
    show (match (w.drew.alloc (.cells C 21)).heap[w.heap.size]? with | some (.cells c _ _) => c[j]? | _ => none) = C[j]?
    rw [h1]
  rw [hh, Array.getElem?_append_left (by simp; exact hj)]
  simp [List.getD_eq_getElem?_getD, hj]
/-- What scRunes gives for a text. -/
def RunesPost (s : ByteArray) (w : World) (e : Ending) (w' : World) : Prop :=
  Below w.heap.size w w' ∧ ((¬ (s.size ≤ 65536 ∧ Lib.validD s.data.toList = true) ∧ e = .returned (.tuple #[.slice none 0 0, .bool false])) ∨
    ((s.size ≤ 65536 ∧ Lib.validD s.data.toList = true) ∧ ∃ b cp, e = .returned (.tuple #[.slice (some ⟨b, 0, none⟩) (rsFrom s s.size 0).length cp, .bool true]) ∧ ∀ j, j < (rsFrom s s.size 0).length → w'.cell? ⟨b, j, none⟩ = some (.int .i32 ((rsFrom s s.size 0).getD j 0))))
set_option maxHeartbeats 4000000 in
set_option maxRecDepth 100000 in
theorem runes_any (s : ByteArray) (w : World) (hs : s.size ≤ 2147483647) (hT : Tabs w) : Calls Tryd.prog 7 #[.string s] w (RunesPost s w) := by
  by_cases h : s.size ≤ 65536
  · have hv := valid_any s w (by omega) hT
    have h1 : decide (65536 < (s.size : Int)) = false := by simp; omega
    have h1' : decide (65536 < s.size) = false := by simp; omega
    cases hb : Lib.validD s.data.toList with
    | false =>
      rw [hb] at hv
      have HV := Lib.hid hv
      have HB := Lib.hid hb
      clear hv hb
      go_enter Tryd.func7, Tryd.ntmps7
      go_wp2_with fail
      refine HV.out.mono ?_
      rintro e w1 ⟨rfl, hbel⟩
      go_wp2_with fail
      go_ret2
      exact ⟨hbel, .inl ⟨(fun hh => by rw [HB.out] at hh; cases hh.2), rfl⟩⟩
    | true =>
      rw [hb] at hv
      have HV := Lib.hid hv
      have HB := Lib.hid hb
      clear hv hb
      go_enter Tryd.func7, Tryd.ntmps7
      go_wp2_with fail
      refine HV.out.mono ?_
      rintro e w1 ⟨rfl, hbel⟩
      obtain ⟨c, w2, hrun, hb2, hcell⟩ := runes_run s w1 hs
      have HC := Lib.hid hcell
      have HBB := Lib.hid (hbel.trans (hb2.mono hbel.size))
      obtain ⟨m, HM⟩ : ∃ m, Hid ((rsFrom s s.size 0).length = m) := ⟨_, rfl⟩
      rw [HM.out] at hrun
      clear hcell hb2
      go_wp2_with fail
      go_ret2
      refine ⟨HBB.out, .inr ⟨⟨h, HB.out⟩, _, c, ?_, HC.out⟩⟩
      rw [HM.out]
      rfl
  · have h1 : decide (65536 < (s.size : Int)) = true := by simp; omega
    have h1' : decide (65536 < s.size) = true := by simp; omega
    go_enter Tryd.func7, Tryd.ntmps7
    go_wp2_with fail
    go_ret2
    exact ⟨Below.refl _ _, .inl ⟨fun hh => h hh.1, rfl⟩⟩
theorem rs_range (s : ByteArray) : ∀ (n i : Nat), ∀ c ∈ rsFrom s n i, 0 ≤ c ∧ c ≤ 1114111
  | 0, _ => by simp [rsFrom]
  | n + 1, i => by
    unfold rsFrom
    split
    · intro c hc
      rw [List.mem_cons] at hc
      rcases hc with rfl | hc
      · have b0 : (s.get! i).toNat < 256 := (s.get! i).toNat_lt
        have hd : (Utf8.decode s i).1 ≤ 1114111 := by
          rw [Lib.decode_at]
          unfold Lib.decodeN
          repeat' split
          all_goals (simp only; omega)
        rw [Int.ofNat_eq_natCast]
        omega
      · exact rs_range s n _ c hc
    · simp
/-- Whether a text has characters that may stand in lines alone (and line feeds, if these are let in). -/
def lined (fd : Bool) (s : ByteArray) : Bool := decide (s.size ≤ 65536) && Lib.validD s.data.toList && (rsFrom s s.size 0).all (okc fd)
set_option maxHeartbeats 4000000 in
set_option maxRecDepth 100000 in
theorem rows_any (s : ByteArray) (w : World) (hs : s.size ≤ 2147483647) (hT : Tabs w) : Calls Tryd.prog 4 #[.string s] w fun e w' => e = .returned (.bool (lined true s)) ∧ Below w.heap.size w w' := by
  have HR := Lib.hid (runes_any s w hs hT)
  have hl := rs_len s s.size 0
  go_enter Tryd.func4, Tryd.ntmps4
  go_wp2_with fail
  refine HR.out.mono ?_
  rintro e w1 ⟨hb, ⟨hn, rfl⟩ | ⟨hy, b, cp, rfl, hc⟩⟩
  · have hr : lined true s = false := by
      unfold lined
      cases hx : (decide (s.size ≤ 65536) && Lib.validD s.data.toList) with
      | false => rfl
      | true => rw [Bool.and_eq_true, decide_eq_true_eq] at hx; exact absurd hx hn
    have HRR := Lib.hid hr
    clear hr
    go_wp2_with fail
    go_ret
    refine ⟨?_, hb⟩
    rw [HRR.out]
    rfl
  · have ha := all_any (rsFrom s s.size 0) b cp true w1 (by omega) (rs_range s _ _) hc
    have hr : lined true s = (rsFrom s s.size 0).all (okc true) := by
      unfold lined
      rw [decide_eq_true hy.1, hy.2]
      rfl
    rw [← hr] at ha
    obtain ⟨m, HM⟩ : ∃ m, Hid ((rsFrom s s.size 0).length = m) := ⟨_, rfl⟩
    rw [HM.out] at ha ⊢
    have HA := Lib.hid ha
    clear ha hr hc
    go_wp2_with fail
    refine HA.out.mono ?_
    rintro e w2 ⟨rfl, rfl⟩
    go_wp2_with fail
    go_ret
    exact ⟨rfl, hb⟩
set_option maxHeartbeats 4000000 in
set_option maxRecDepth 100000 in
theorem row_any (s : ByteArray) (w : World) (hs : s.size ≤ 2147483647) (hT : Tabs w) : Calls Tryd.prog 6 #[.string s] w fun e w' => e = .returned (.bool (lined false s)) ∧ Below w.heap.size w w' := by
  have HR := Lib.hid (runes_any s w hs hT)
  have hl := rs_len s s.size 0
  go_enter Tryd.func6, Tryd.ntmps6
  go_wp2_with fail
  refine HR.out.mono ?_
  rintro e w1 ⟨hb, ⟨hn, rfl⟩ | ⟨hy, b, cp, rfl, hc⟩⟩
  · have hr : lined false s = false := by
      unfold lined
      cases hx : (decide (s.size ≤ 65536) && Lib.validD s.data.toList) with
      | false => rfl
      | true => rw [Bool.and_eq_true, decide_eq_true_eq] at hx; exact absurd hx hn
    have HRR := Lib.hid hr
    clear hr
    go_wp2_with fail
    go_ret
    refine ⟨?_, hb⟩
    rw [HRR.out]
    rfl
  · have ha := all_any (rsFrom s s.size 0) b cp false w1 (by omega) (rs_range s _ _) hc
    have hr : lined false s = (rsFrom s s.size 0).all (okc false) := by
      unfold lined
      rw [decide_eq_true hy.1, hy.2]
      rfl
    rw [← hr] at ha
    obtain ⟨m, HM⟩ : ∃ m, Hid ((rsFrom s s.size 0).length = m) := ⟨_, rfl⟩
    rw [HM.out] at ha ⊢
    have HA := Lib.hid ha
    clear ha hr hc
    go_wp2_with fail
    refine HA.out.mono ?_
    rintro e w2 ⟨rfl, rfl⟩
    go_wp2_with fail
    go_ret
    exact ⟨rfl, hb⟩
end Go.Proofs.YtcmnjnogdpejfaaDoor.Ln

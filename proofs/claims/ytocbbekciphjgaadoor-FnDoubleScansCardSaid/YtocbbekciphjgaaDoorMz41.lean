/- QeC, QeG: parts of the proof, one behind another. -/
import Derived.Laws.IdiomStrings
import Derived.Laws.Cover4
import Derived.Lib.ValidLaws
import Derived.Lib.MapLaws
import Derived.Lib.TrimUEq
import Derived.Lib.DecodeN
import Derived.Ground.NamesProg
import Derived.WalkMore
import Derived.Shelf.Lay
import Derived.Shelf.Unicode.ValidAny
import Derived.Handy
import Derived.Deep.QuietTactic
import Derived.BigQuiet
import Derived.BigGuard
import Derived.BigCall
import Derived.Deep.LoopGhost
import Derived.Test.YtocbbekciphjgaaDoorMz10
import Derived.Test.YtocbbekciphjgaaDoorMz40
/- QeC -/
/- The reference's look at a text (scRunes, scAll): walked. Turned from another seat by mkQeC.py. -/
namespace Go.Proofs.YtocbbekciphjgaaDoor
open Go.RowKit Go.Shelf Go.Lib
shelf_lay Lays.n196 Nm 196 at Tryd as Tryd.laysValid
end Go.Proofs.YtocbbekciphjgaaDoor
namespace Go.Proofs.YtocbbekciphjgaaDoor.Ln
open Go.RowKit Go.Shelf
set_option linter.unusedVariables false
set_option linter.unusedSimpArgs false
def bt (s : ByteArray) (i : Nat) : Nat := (s.get! i).toNat
theorem bt_lt (s : ByteArray) (i : Nat) : bt s i < 256 := (s.get! i).toNat_lt
/-- The characters of a text. -/
def rsFrom (s : ByteArray) : Nat → Nat → List Int
  | 0, _ => []
  | n + 1, i => if i < s.size then Int.ofNat (Utf8.decode s i).1 :: rsFrom s n (i + (Utf8.decode s i).2) else []
theorem runes_list (s : ByteArray) : ∀ (n i : Nat) (acc : Array Value), Conv.runesFrom s n i acc = acc ++ ((rsFrom s n i).map (Value.int .i32)).toArray
  | 0, _, acc => by simp [Conv.runesFrom, rsFrom]
  | n + 1, i, acc => by
    unfold Conv.runesFrom rsFrom
    by_cases h : i < s.size
    · rw [if_pos h, if_pos h]
      show Conv.runesFrom s n (i + (Utf8.decode s i).2) (acc.push (.int .i32 (Int.ofNat (Utf8.decode s i).1))) = _
      rw [runes_list s n]
      simp
    · rw [if_neg h, if_neg h]
      simp
theorem rs_len (s : ByteArray) : ∀ (n i : Nat), (rsFrom s n i).length ≤ n
  | 0, _ => by simp [rsFrom]
  | n + 1, i => by
    unfold rsFrom
    split
    · have := rs_len s n (i + (Utf8.decode s i).2)
      simp
      omega
    · simp
/-- Characters that may stand in a scalar's line. -/
def ct (c : Int) : Bool :=
  if c = 9 ∨ (32 ≤ c ∧ c ≤ 126) ∨ (160 ≤ c ∧ c ≤ 55295) then decide (c ≠ 8232 ∧ c ≠ 8233)
  else if 57344 ≤ c ∧ c ≤ 65533 then decide (c ≠ 65279) else decide (65536 ≤ c ∧ c ≤ 1114111)
/-- In a scalar's lines. -/
def cl (c : Int) : Bool := ct c || c == 10
theorem ct_lf : ct 10 = false := rfl
/-- What stands from here on is these characters. -/
inductive Run (s : ByteArray) : Nat → List Int → Prop
  | done : Run s s.size []
  | step {i : Nat} {l : List Int} : i < s.size → ¬ ((Utf8.decode s i).1 = 65533 ∧ (Utf8.decode s i).2 = 1) → Run s (i + (Utf8.decode s i).2) l → Run s i (Int.ofNat (Utf8.decode s i).1 :: l)
theorem run_of (s : ByteArray) : ∀ (n i : Nat), s.size - i ≤ n → i ≤ s.size → Lib.validD (s.data.toList.drop i) = true → Run s i (rsFrom s n i)
  | 0, i, hn, hi, _ => by
    obtain rfl : i = s.size := by omega
    exact .done
  | n + 1, i, hn, hi, hv => by
    have hl : s.data.toList.length = s.size := by simp
    unfold rsFrom
    by_cases h : i < s.size
    · rw [if_pos h]
      have hne : s.data.toList.drop i ≠ [] := by
        intro e
        have := congrArg List.length e
        rw [List.length_drop, hl] at this
        simp at this
        omega
      have hle := Lib.decodeL_le (s.data.toList.drop i) hne
      rw [Lib.decodeL_drop, List.length_drop, hl] at hle
      rw [Lib.validD_step _ hne, Lib.decodeL_drop] at hv
      have hd1 : 1 ≤ (Utf8.decode s i).2 := by
        rw [Lib.decode_at]
        unfold Lib.decodeN
        repeat' split
        all_goals simp
      split at hv
      · cases hv
      · rename_i hx
        rw [List.drop_drop] at hv
        exact .step h hx (run_of s n _ (by omega) (by omega) hv)
    · rw [if_neg h]
      obtain rfl : i = s.size := by omega
      exact .done
theorem key_of (n i c d x y z u : Nat) (h : i < n) (hd : (c, d) = Lib.decodeN (n - i) x y z u) (hne : ¬ (c = 65533 ∧ d = 1)) :
    (d = 1 ∧ x < 128 ∧ c = x) ∨ (d = 2 ∧ i + 1 < n ∧ 192 ≤ x ∧ x < 224 ∧ 128 ≤ y ∧ y < 192 ∧ c = x % 32 * 64 + y % 64 ∧ 128 ≤ c) ∨
      (d = 3 ∧ i + 2 < n ∧ 224 ≤ x ∧ x < 240 ∧ 128 ≤ y ∧ y < 192 ∧ 128 ≤ z ∧ z < 192 ∧ c = x % 16 * 4096 + y % 64 * 64 + z % 64 ∧ 2048 ≤ c ∧ (c < 55296 ∨ 57344 ≤ c)) ∨
      (d = 4 ∧ i + 3 < n ∧ 240 ≤ x ∧ x < 248 ∧ 128 ≤ y ∧ y < 192 ∧ 128 ≤ z ∧ z < 192 ∧ 65536 ≤ c) := by
  unfold Lib.decodeN at hd
  by_cases h1 : x < 128
  · rw [if_pos h1] at hd
    obtain ⟨rfl, rfl⟩ := Prod.mk.inj hd
    exact .inl ⟨rfl, h1, rfl⟩
  rw [if_neg h1] at hd
  by_cases h2 : x / 32 = 6 ∧ (1 < n - i ∧ y / 64 = 2)
  · rw [if_pos h2] at hd
    obtain ⟨p1, p2, p3⟩ := h2
    by_cases h3 : x % 32 * 64 + y % 64 ≥ 128
    · rw [if_pos h3] at hd
      obtain ⟨rfl, rfl⟩ := Prod.mk.inj hd
      exact .inr (.inl ⟨rfl, by omega, by omega, by omega, by omega, by omega, rfl, h3⟩)
    · rw [if_neg h3] at hd
      exact absurd (Prod.mk.inj hd) hne
  rw [if_neg h2] at hd
  by_cases h3 : x / 16 = 14 ∧ (1 < n - i ∧ y / 64 = 2) ∧ (2 < n - i ∧ z / 64 = 2)
  · rw [if_pos h3] at hd
    obtain ⟨p1, ⟨p2, p3⟩, p4, p5⟩ := h3
    split at hd
    · rename_i h4
      obtain ⟨rfl, rfl⟩ := Prod.mk.inj hd
      exact .inr (.inr (.inl ⟨rfl, by omega, by omega, by omega, by omega, by omega, by omega, by omega, rfl, h4.1, h4.2.imp id And.left⟩))
    · exact absurd (Prod.mk.inj hd) hne
  rw [if_neg h3] at hd
  split at hd
  · rename_i h4
    obtain ⟨p1, ⟨p2, p3⟩, ⟨p4, p5⟩, p6, p7⟩ := h4
    split at hd
    · rename_i h5
      obtain ⟨e1, rfl⟩ := Prod.mk.inj hd
      exact .inr (.inr (.inr ⟨rfl, by omega, by omega, by omega, by omega, by omega, by omega, by omega, by rw [e1]; exact h5.1⟩))
    · exact absurd (Prod.mk.inj hd) hne
  · exact absurd (Prod.mk.inj hd) hne
def Tabs (w : World) : Prop := Lib.Utf8Tabs (Tryd.laysValid_ren.g 3) (Tryd.laysValid_ren.g 4) w
theorem valid_any (s : ByteArray) (w : World) (hs : s.size ≤ 9223372036854775807) (hT : Tabs w) : Calls Tryd.prog 72 #[.string s] w fun e w' => e = .returned (.bool (Lib.validD s.data.toList)) ∧ Below w.heap.size w w' :=
  Any.utf8_ValidString Tryd.laysValid s w hs hT
set_option maxHeartbeats 4000000 in
set_option maxRecDepth 100000 in
theorem content_any (c : Int) (h0 : 0 ≤ c) (h1 : c ≤ 2147483647) (w : World) : Calls Tryd.prog 73 #[.int .i32 c] w fun e w' => e = .returned (.bool (ct c)) ∧ w' = w := by
  obtain ⟨b1, e1⟩ : ∃ b, (c == 9) = b := ⟨_, rfl⟩
  obtain ⟨b2, e2⟩ : ∃ b, decide (32 ≤ c) = b := ⟨_, rfl⟩
  obtain ⟨b2a, e2a⟩ : ∃ b, decide (c ≤ 126) = b := ⟨_, rfl⟩
  obtain ⟨b2b, e2b⟩ : ∃ b, decide (160 ≤ c) = b := ⟨_, rfl⟩
  obtain ⟨b3, e3⟩ : ∃ b, decide (c ≤ 55295) = b := ⟨_, rfl⟩
  obtain ⟨b4, e4⟩ : ∃ b, (c != 8232) = b := ⟨_, rfl⟩
  obtain ⟨b5, e5⟩ : ∃ b, (c != 8233) = b := ⟨_, rfl⟩
  obtain ⟨b6, e6⟩ : ∃ b, decide (57344 ≤ c) = b := ⟨_, rfl⟩
  obtain ⟨b7, e7⟩ : ∃ b, decide (c ≤ 65533) = b := ⟨_, rfl⟩
  obtain ⟨ba, ea⟩ : ∃ b, (c != 65279) = b := ⟨_, rfl⟩
  obtain ⟨b8, e8⟩ : ∃ b, decide (65536 ≤ c) = b := ⟨_, rfl⟩
  obtain ⟨b9, e9⟩ : ∃ b, decide (c ≤ 1114111) = b := ⟨_, rfl⟩
  have hr : ct c = (if (b1 || (b2 && b2a) || (b2b && b3)) then (b4 && b5) else if (b6 && b7) then ba else (b8 && b9)) := by
    subst e1 e2 e2a e2b e3 e4 e5 e6 e7 ea e8 e9
    unfold ct
    simp only [Bool.or_eq_true, Bool.and_eq_true, decide_eq_true_eq, beq_iff_eq, or_assoc]
    repeat' split
    all_goals (rw [Bool.eq_iff_iff]; simp)
  rw [hr]
  clear hr h0 h1
  cases b1
  · cases b2
    · cases b2b
      · cases b6
        · cases b8
          · go_enter Tryd.func73, Tryd.ntmps73
            go_wp2_with fail
            go_ret
            exact ⟨rfl, rfl⟩
          · cases b9
            · go_enter Tryd.func73, Tryd.ntmps73
              go_wp2_with fail
              go_ret
              exact ⟨rfl, rfl⟩
            · go_enter Tryd.func73, Tryd.ntmps73
              go_wp2_with fail
              go_ret
              exact ⟨rfl, rfl⟩
        · cases b7
          · cases b8
            · go_enter Tryd.func73, Tryd.ntmps73
              go_wp2_with fail
              go_ret
              exact ⟨rfl, rfl⟩
            · cases b9
              · go_enter Tryd.func73, Tryd.ntmps73
                go_wp2_with fail
                go_ret
                exact ⟨rfl, rfl⟩
              · go_enter Tryd.func73, Tryd.ntmps73
                go_wp2_with fail
                go_ret
                exact ⟨rfl, rfl⟩
          · cases ba
            · go_enter Tryd.func73, Tryd.ntmps73
              go_wp2_with fail
              go_ret
              exact ⟨rfl, rfl⟩
            · go_enter Tryd.func73, Tryd.ntmps73
              go_wp2_with fail
              go_ret
              exact ⟨rfl, rfl⟩
      · cases b3
        · cases b6
          · cases b8
            · go_enter Tryd.func73, Tryd.ntmps73
              go_wp2_with fail
              go_ret
              exact ⟨rfl, rfl⟩
            · cases b9
              · go_enter Tryd.func73, Tryd.ntmps73
                go_wp2_with fail
                go_ret
                exact ⟨rfl, rfl⟩
              · go_enter Tryd.func73, Tryd.ntmps73
                go_wp2_with fail
                go_ret
                exact ⟨rfl, rfl⟩
          · cases b7
            · cases b8
              · go_enter Tryd.func73, Tryd.ntmps73
                go_wp2_with fail
                go_ret
                exact ⟨rfl, rfl⟩
              · cases b9
                · go_enter Tryd.func73, Tryd.ntmps73
                  go_wp2_with fail
                  go_ret
                  exact ⟨rfl, rfl⟩
                · go_enter Tryd.func73, Tryd.ntmps73
                  go_wp2_with fail
                  go_ret
                  exact ⟨rfl, rfl⟩
            · cases ba
              · go_enter Tryd.func73, Tryd.ntmps73
                go_wp2_with fail
                go_ret
                exact ⟨rfl, rfl⟩
              · go_enter Tryd.func73, Tryd.ntmps73
                go_wp2_with fail
                go_ret
                exact ⟨rfl, rfl⟩
        · cases b4
          · cases b5
            · go_enter Tryd.func73, Tryd.ntmps73
              go_wp2_with fail
              go_ret
              exact ⟨rfl, rfl⟩
            · go_enter Tryd.func73, Tryd.ntmps73
              go_wp2_with fail
              go_ret
              exact ⟨rfl, rfl⟩
          · go_enter Tryd.func73, Tryd.ntmps73
            go_wp2_with fail
            go_ret
            exact ⟨rfl, rfl⟩
    · cases b2a
      · cases b2b
        · cases b6
          · cases b8
            · go_enter Tryd.func73, Tryd.ntmps73
              go_wp2_with fail
              go_ret
              exact ⟨rfl, rfl⟩
            · cases b9
              · go_enter Tryd.func73, Tryd.ntmps73
                go_wp2_with fail
                go_ret
                exact ⟨rfl, rfl⟩
              · go_enter Tryd.func73, Tryd.ntmps73
                go_wp2_with fail
                go_ret
                exact ⟨rfl, rfl⟩
          · cases b7
            · cases b8
              · go_enter Tryd.func73, Tryd.ntmps73
                go_wp2_with fail
                go_ret
                exact ⟨rfl, rfl⟩
              · cases b9
                · go_enter Tryd.func73, Tryd.ntmps73
                  go_wp2_with fail
                  go_ret
                  exact ⟨rfl, rfl⟩
                · go_enter Tryd.func73, Tryd.ntmps73
                  go_wp2_with fail
                  go_ret
                  exact ⟨rfl, rfl⟩
            · cases ba
              · go_enter Tryd.func73, Tryd.ntmps73
                go_wp2_with fail
                go_ret
                exact ⟨rfl, rfl⟩
              · go_enter Tryd.func73, Tryd.ntmps73
                go_wp2_with fail
                go_ret
                exact ⟨rfl, rfl⟩
        · cases b3
          · cases b6
            · cases b8
              · go_enter Tryd.func73, Tryd.ntmps73
                go_wp2_with fail
                go_ret
                exact ⟨rfl, rfl⟩
              · cases b9
                · go_enter Tryd.func73, Tryd.ntmps73
                  go_wp2_with fail
                  go_ret
                  exact ⟨rfl, rfl⟩
                · go_enter Tryd.func73, Tryd.ntmps73
                  go_wp2_with fail
                  go_ret
                  exact ⟨rfl, rfl⟩
            · cases b7
              · cases b8
                · go_enter Tryd.func73, Tryd.ntmps73
                  go_wp2_with fail
                  go_ret
                  exact ⟨rfl, rfl⟩
                · cases b9
                  · go_enter Tryd.func73, Tryd.ntmps73
                    go_wp2_with fail
                    go_ret
                    exact ⟨rfl, rfl⟩
                  · go_enter Tryd.func73, Tryd.ntmps73
                    go_wp2_with fail
                    go_ret
                    exact ⟨rfl, rfl⟩
              · cases ba
                · go_enter Tryd.func73, Tryd.ntmps73
                  go_wp2_with fail
                  go_ret
                  exact ⟨rfl, rfl⟩
                · go_enter Tryd.func73, Tryd.ntmps73
                  go_wp2_with fail
                  go_ret
                  exact ⟨rfl, rfl⟩
          · cases b4
            · cases b5
              · go_enter Tryd.func73, Tryd.ntmps73
                go_wp2_with fail
                go_ret
                exact ⟨rfl, rfl⟩
              · go_enter Tryd.func73, Tryd.ntmps73
                go_wp2_with fail
                go_ret
                exact ⟨rfl, rfl⟩
            · go_enter Tryd.func73, Tryd.ntmps73
              go_wp2_with fail
              go_ret
              exact ⟨rfl, rfl⟩
      · cases b4
        · cases b5
          · go_enter Tryd.func73, Tryd.ntmps73
            go_wp2_with fail
            go_ret
            exact ⟨rfl, rfl⟩
          · go_enter Tryd.func73, Tryd.ntmps73
            go_wp2_with fail
            go_ret
            exact ⟨rfl, rfl⟩
        · go_enter Tryd.func73, Tryd.ntmps73
          go_wp2_with fail
          go_ret
          exact ⟨rfl, rfl⟩
  · cases b4
    · cases b5
      · go_enter Tryd.func73, Tryd.ntmps73
        go_wp2_with fail
        go_ret
        exact ⟨rfl, rfl⟩
      · go_enter Tryd.func73, Tryd.ntmps73
        go_wp2_with fail
        go_ret
        exact ⟨rfl, rfl⟩
    · go_enter Tryd.func73, Tryd.ntmps73
      go_wp2_with fail
      go_ret
      exact ⟨rfl, rfl⟩

def okc (fd : Bool) (c : Int) : Bool := ct c || (fd && c == 10)
theorem take_all {zs : List Int} {p : Int → Bool} {i : Nat} (h : i < zs.length) (ha : (zs.take i).all p = true) (hc : p (zs.getD i 0) = true) : (zs.take (i + 1)).all p = true := by
  rw [List.take_add_one, List.all_append, ha]
  rw [List.getD_eq_getElem?_getD, List.getElem?_eq_getElem h] at hc
  simp only [Option.getD_some] at hc
  rw [List.getElem?_eq_getElem h]
  simp [hc]
theorem not_all {zs : List Int} {p : Int → Bool} {i : Nat} (h : i < zs.length) (hc : p (zs.getD i 0) = false) : zs.all p = false := by
  rw [List.getD_eq_getElem?_getD, List.getElem?_eq_getElem h] at hc
  simp only [Option.getD_some] at hc
  rw [List.all_eq_false]
  exact ⟨_, List.getElem_mem h, by rw [hc]; simp⟩
set_option maxHeartbeats 4000000 in
set_option maxRecDepth 100000 in
theorem all_any (zs : List Int) (b cp : Nat) (fd : Bool) (w : World) (hm : zs.length ≤ 70000) (hz : ∀ c ∈ zs, 0 ≤ c ∧ c ≤ 1114111) (hc : ∀ j, j < zs.length → w.cell? ⟨b, j, none⟩ = some (.int .i32 (zs.getD j 0))) :
    Calls Tryd.prog 43 #[.slice (some ⟨b, 0, none⟩) zs.length cp, .bool fd] w fun e w' => e = .returned (.bool (zs.all (okc fd))) ∧ w' = w := by
  have HC := Lib.hid hc
  have HZ := Lib.hid hz
  clear hc hz
  go_enter Tryd.func43, Tryd.ntmps43
  go_wp2_with fail
  go_loopg [9] zs.length (fun g s9 wr => wr = w ∧ ∃ i : Nat, i ≤ zs.length ∧ g = zs.length - i ∧ s9 = .int .i64 (i : Nat) ∧ (zs.take i).all (okc fd) = true)
  case atStart => exact ⟨rfl, 0, Nat.zero_le _, rfl, rfl, rfl⟩
  obtain ⟨rfl, i, hi, hgk, rfl, ha⟩ := hrel
  have HGK := Lib.hid hgk
  have HA := Lib.hid ha
  clear hgk ha
  by_cases hlt : i < zs.length
  · have j1 : (i : Int) < (zs.length : Int) := by omega
    have j0 : (0 : Int) ≤ (i : Int) := by omega
    have hcell := HC.out i hlt
    have hr := HZ.out (zs.getD i 0) (by rw [List.getD_eq_getElem?_getD, List.getElem?_eq_getElem hlt]; exact List.getElem_mem hlt)
    obtain ⟨c, HCC⟩ : ∃ c, Hid (zs.getD i 0 = c) := ⟨_, rfl⟩
    rw [HCC.out] at hcell hr
    have hct := content_any c hr.1 (by omega) wr
    cases hk : okc fd c with
    | true =>
      have HK := Lib.hid hk
      unfold okc at hk
      cases hx : ct c with
      | true =>
        rw [hx] at hct
        have HCT := Lib.hid hct
        clear hk hr hct hx
        go_wp2_with fail
        refine HCT.out.mono ?_
        rintro e w1 ⟨rfl, rfl⟩
        go_wp2_with fail
        go_roundg (zs.length - (i + 1))
        case measure => have := HGK.out; omega
        case rel => exact ⟨rfl, i + 1, by omega, rfl, rfl, take_all hlt HA.out (by rw [HCC.out]; exact HK.out)⟩
      | false =>
        rw [hx, Bool.false_or, Bool.and_eq_true] at hk
        obtain ⟨rfl, h10⟩ := hk
        rw [hx] at hct
        have HCT := Lib.hid hct
        clear hr hct hx
        go_wp2_with fail
        refine HCT.out.mono ?_
        rintro e w1 ⟨rfl, rfl⟩
        go_wp2_with fail
        go_roundg (zs.length - (i + 1))
        case measure => have := HGK.out; omega
        case rel => exact ⟨rfl, i + 1, by omega, rfl, rfl, take_all hlt HA.out (by rw [HCC.out]; exact HK.out)⟩
    | false =>
      have hno : zs.all (okc fd) = false := not_all hlt (by rw [HCC.out]; exact hk)
      have HNO := Lib.hid hno
      unfold okc at hk
      rw [Bool.or_eq_false_iff] at hk
      obtain ⟨hx, hk⟩ := hk
      rw [hx] at hct
      have HCT := Lib.hid hct
      clear hr hct hx hno
      cases fd with
      | false =>
        clear hk
        go_wp2_with fail
        refine HCT.out.mono ?_
        rintro e w1 ⟨rfl, rfl⟩
        go_wp2_with fail
        go_ret
        refine ⟨?_, rfl⟩
        rw [HNO.out]
        rfl
      | true =>
        rw [Bool.true_and] at hk
        go_wp2_with fail
        refine HCT.out.mono ?_
        rintro e w1 ⟨rfl, rfl⟩
        go_wp2_with fail
        go_ret
        refine ⟨?_, rfl⟩
        rw [HNO.out]
        rfl
  · obtain rfl : i = zs.length := by omega
    have ht : zs.all (okc fd) = true := by
      have := HA.out
      rw [List.take_of_length_le (Nat.le_refl _)] at this
      exact this
    have HTT := Lib.hid ht
    clear ht
    have j1 : ¬ ((zs.length : Int) < (zs.length : Int)) := by omega
    go_wp2_with fail
    go_ret
    refine ⟨?_, rfl⟩
    rw [HTT.out]
    rfl
theorem runes_run (s : ByteArray) (w : World) (hs : s.size ≤ 2147483647) : ∃ c w', (convert 9 84 (.string s)).run Tryd.prog w = .ok (.slice (some ⟨w.heap.size, 0, none⟩) (rsFrom s s.size 0).length c) w' ∧ Below w.heap.size w w' ∧ ((rsFrom s s.size 0).length ≤ c ∧ c ≤ 9223372036854775807) ∧
    ∀ j, j < (rsFrom s s.size 0).length → w'.cell? ⟨w.heap.size, j, none⟩ = some (.int .i32 ((rsFrom s s.size 0).getD j 0)) := by
  have hl := rs_len s s.size 0
  have he := runes_list s s.size 0 #[]
  rw [Array.empty_append] at he
  have hr := run_runes_of_string (P := Tryd.prog) w 9 84 21 s Tryd.underlying9 Tryd.underlying84 Tryd.underlying21 (by rw [he]; simp; omega)
  rw [he] at hr
  simp only [List.size_toArray, List.length_map] at hr
  have hc1 := grownCap_ge w (rsFrom s s.size 0).length 0 21
  have hc2 := grownCap_le_maxLen w (rsFrom s s.size 0).length 0 21 (by unfold maxLen; omega)
  have hc3 : maxLen = 9223372036854775807 := by decide
  rw [hc3] at hc2
  obtain ⟨zs, hzs⟩ : ∃ zs, rsFrom s s.size 0 = zs := ⟨_, rfl⟩
  rw [hzs] at hr hl hc1 hc2 ⊢
  refine ⟨_, _, hr, (Below.refl _ _).drew.alloc (Nat.le_refl _) _, ⟨hc1, hc2⟩, fun j hj => ?_⟩
  have hh : ∀ C : Array Value, (w.drew.alloc (.cells C 21)).cell? ⟨w.heap.size, j, none⟩ = C[j]? := fun C => by
    have h1 : (w.drew.alloc (.cells C 21)).heap[w.heap.size]? = some (.cells C 21 (0, 0)) := by
      show (w.heap.push (.cells C 21))[w.heap.size]? = _
      simp
    unfold World.cell?
    show (match (w.drew.alloc (.cells C 21)).heap[w.heap.size]? with | some (.cells c _ _) => c[j]? | _ => none) = C[j]?
    rw [h1]
  rw [hh, Array.getElem?_append_left (by simp; exact hj)]
  simp [List.getD_eq_getElem?_getD, hj]
/-- What scRunes gives for a text. -/
def RunesPost (s : ByteArray) (w : World) (e : Ending) (w' : World) : Prop :=
  Below w.heap.size w w' ∧ ((¬ (s.size ≤ 65536 ∧ Lib.validD s.data.toList = true) ∧ e = .returned (.tuple #[.slice none 0 0, .bool false])) ∨
    ((s.size ≤ 65536 ∧ Lib.validD s.data.toList = true) ∧ ∃ b cp, e = .returned (.tuple #[.slice (some ⟨b, 0, none⟩) (rsFrom s s.size 0).length cp, .bool true]) ∧ ((rsFrom s s.size 0).length ≤ cp ∧ cp ≤ 9223372036854775807) ∧ ∀ j, j < (rsFrom s s.size 0).length → w'.cell? ⟨b, j, none⟩ = some (.int .i32 ((rsFrom s s.size 0).getD j 0))))
set_option maxHeartbeats 4000000 in
set_option maxRecDepth 100000 in
theorem runes_any (s : ByteArray) (w : World) (hs : s.size ≤ 2147483647) (hT : Tabs w) : Calls Tryd.prog 42 #[.string s] w (RunesPost s w) := by
  by_cases h : s.size ≤ 65536
  · have hv := valid_any s w (by omega) hT
    have h1 : decide (65536 < (s.size : Int)) = false := by simp; omega
    have h1' : decide (65536 < s.size) = false := by simp; omega
    cases hb : Lib.validD s.data.toList with
    | false =>
      rw [hb] at hv
      have HV := Lib.hid hv
      have HB := Lib.hid hb
      clear hv hb
      go_enter Tryd.func42, Tryd.ntmps42
      go_wp2_with fail
      refine HV.out.mono ?_
      rintro e w1 ⟨rfl, hbel⟩
      go_wp2_with fail
      go_ret2
      exact ⟨hbel, .inl ⟨(fun hh => by rw [HB.out] at hh; cases hh.2), rfl⟩⟩
    | true =>
      rw [hb] at hv
      have HV := Lib.hid hv
      have HB := Lib.hid hb
      clear hv hb
      go_enter Tryd.func42, Tryd.ntmps42
      go_wp2_with fail
      refine HV.out.mono ?_
      rintro e w1 ⟨rfl, hbel⟩
      obtain ⟨c, w2, hrun, hb2, hcc, hcell⟩ := runes_run s w1 hs
      have HCC := Lib.hid hcc
      have HC := Lib.hid hcell
      have HBB := Lib.hid (hbel.trans (hb2.mono hbel.size))
      obtain ⟨m, HM⟩ : ∃ m, Hid ((rsFrom s s.size 0).length = m) := ⟨_, rfl⟩
      rw [HM.out] at hrun
      clear hcell hb2 hcc
      go_wp2_with fail
      go_ret2
      refine ⟨HBB.out, .inr ⟨⟨h, HB.out⟩, _, c, ?_, HCC.out, HC.out⟩⟩
      rw [HM.out]
      rfl
  · have h1 : decide (65536 < (s.size : Int)) = true := by simp; omega
    have h1' : decide (65536 < s.size) = true := by simp; omega
    go_enter Tryd.func42, Tryd.ntmps42
    go_wp2_with fail
    go_ret2
    exact ⟨Below.refl _ _, .inl ⟨fun hh => h hh.1, rfl⟩⟩
theorem rs_range (s : ByteArray) : ∀ (n i : Nat), ∀ c ∈ rsFrom s n i, 0 ≤ c ∧ c ≤ 1114111
  | 0, _ => by simp [rsFrom]
  | n + 1, i => by
    unfold rsFrom
    split
    · intro c hc
      rw [List.mem_cons] at hc
      rcases hc with rfl | hc
      · have b0 : (s.get! i).toNat < 256 := (s.get! i).toNat_lt
        have hd : (Utf8.decode s i).1 ≤ 1114111 := by
          rw [Lib.decode_at]
          unfold Lib.decodeN
          repeat' split
          all_goals (simp only; omega)
        rw [Int.ofNat_eq_natCast]
        omega
      · exact rs_range s n _ c hc
    · simp
end Go.Proofs.YtocbbekciphjgaaDoor.Ln
/- QeG -/
/- Line feeds, and a break with empty lines behind it, in the reference (scFeeds, scBreak): walked. -/
namespace Go.Proofs.YtocbbekciphjgaaDoor.Dq
open Go.RowKit Go.Proofs.YtocbbekciphjgaaDoor.Pa Go.Proofs.YtocbbekciphjgaaDoor.Sc Go.Proofs.YtocbbekciphjgaaDoor.Qd
set_option linter.unusedVariables false
set_option linter.unusedSimpArgs false
/-- A row of line feeds, noughts behind it. -/
def fz (n i : Nat) : List Value := List.replicate i (.int .u8 10) ++ zeros (n - i)
theorem fz_set (n i : Nat) (h : i < n) : (fz n i).set i (.int .u8 10) = fz n (i + 1) := by
  apply List.ext_getElem?
  intro j
  unfold fz zeros
  rw [List.getElem?_set]
  simp only [List.length_append, List.length_replicate, List.getElem?_append, List.getElem?_replicate]
  by_cases h1 : i = j
  · subst h1
    simp
    omega
  · rw [if_neg h1]
    repeat' split
    all_goals first | rfl | (exfalso; omega)
theorem mkn (n : Nat) (hn : n ≤ 1000000) (w : World) : (Instr.makeSlice 22 (.int .i64 n) (.int .i64 n)).run Tryd.prog w = .ok (.slice (some ⟨w.heap.size, 0, none⟩) n n) (w.alloc (.cells (zeros n).toArray 5)) := by
  obtain ⟨i0, hi, hz0, hz1, hz2⟩ := info_parts info5
  have h := run_make (P := Tryd.prog) w 22 5 i0 (.int .u8 0) Tryd.underlying22 hi hz0 .i64 .i64 (n : Int) (n : Int) (by omega) (by omega) (by rw [hz2]; omega) (by omega)
  rw [h, hz1, Nat.mul_one]
  have e : madeCells (Value.int .u8 0).cells n = (zeros n).toArray := by
    unfold madeCells zeros
    apply Array.ext
    · simp
    · intro i h1 h2
      simp [Value.cells, Nat.mod_one]
  simp [e]
set_option maxHeartbeats 4000000 in
set_option maxRecDepth 100000 in
theorem feeds_any (n : Nat) (hn : n ≤ 1000000) (w : World) : Calls Tryd.prog 45 #[.int .i64 n] w fun e w' => e = .returned (.string (strOfNums (feeds n))) ∧ Below w.heap.size w w' := by
  have hmk := mkn n hn
  have j0 : max (n : Int) 0 = (n : Int) := by omega
  have j1 : (n : Int) ≤ 1000000 := by omega
  have HMK := Lib.hid hmk
  clear hmk
  obtain ⟨w1, HW1⟩ : ∃ w1 : World, Hid (w.alloc (.cells (zeros n).toArray 5) = w1) := ⟨_, rfl⟩
  have hb1 : Bk w1 w.heap.size 5 (fz n 0) := by rw [← HW1.out]; exact Bk.new _ _ _
  have hl1 : Below w.heap.size w w1 := by rw [← HW1.out]; exact (Below.refl _ _).alloc (Nat.le_refl _) _
  have HB1 := Lib.hid hb1
  have HL1 := Lib.hid hl1
  have hmk := HMK.out w
  rw [HW1.out] at hmk
  clear hb1 hl1 HW1 HMK
  go_enter Tryd.func45, Tryd.ntmps45
  go_wp2_with fail
  go_loopg [10] n (fun g s10 wr => ∃ i : Nat, g = n - i ∧ i ≤ n ∧ s10 = .int .i64 (i : Nat) ∧ Bk wr w.heap.size 5 (fz n i) ∧ Below w.heap.size w wr)
  case atStart => exact ⟨0, rfl, Nat.zero_le _, rfl, HB1.out, HL1.out⟩
  obtain ⟨i, hg, hi, rfl, hb, hl⟩ := hrel
  have HG := Lib.hid hg
  have HB := Lib.hid hb
  have HL := Lib.hid hl
  by_cases hlt : i < n
  · have j2 : (i : Int) < (n : Int) := by omega
    have j3 : (0 : Int) ≤ (i : Int) := by omega
    have hat : ∃ v, (fz n i)[i]? = some v := ⟨_, List.getElem?_eq_getElem (by unfold fz zeros; simp; omega)⟩
    obtain ⟨v0, hv0⟩ := hat
    obtain ⟨cg, fg⟩ := at_ hb i hv0
    clear hg hb hl hv0
    go_wp2_with fail
    go_roundg (n - (i + 1))
    case measure => have := HG.out; omega
    case rel =>
      refine ⟨i + 1, rfl, by omega, rfl, ?_, ?_⟩
      · have := HB.out.set i (.int .u8 10)
        rw [fz_set n i hlt] at this
        exact this
      · exact HL.out.setCell (p := ⟨w.heap.size, i, none⟩) (Nat.le_refl _) (.int .u8 10)
  · obtain rfl : i = n := by omega
    have j2 : ¬ ((i : Int) < (i : Int)) := by omega
    have hcv : (convert 22 9 (.slice (some ⟨w.heap.size, 0, none⟩) i i)).run Tryd.prog wr = .ok (.string (strOfNums (feeds i))) wr := by
      refine run_convert_bytes_arg wr 22 5 Tryd.underlying22 Tryd.underlying5 w.heap.size 0 i i (feeds i) (feeds_len i) (fun j hj => ?_) 9 Tryd.underlying9
      have hjl : j < i := by simpa [feeds_len] using hj
      rw [Nat.zero_add, (hb.cell j).1]
      unfold fz feeds
      rw [List.getElem?_append_left (by simp; omega), List.getElem?_replicate, if_pos hjl, List.getD_eq_getElem?_getD, List.getElem?_replicate, if_pos hjl]
      rfl
    clear hg hb hl
    go_wp2_with fail
    go_ret
    exact ⟨rfl, HL.out⟩
theorem below_drewN (w : World) (m : Nat) : Below w.heap.size w (w.drewN m) := ⟨rfl, rfl, rfl, Nat.le_refl _, fun _ _ => rfl⟩
set_option maxHeartbeats 4000000 in
set_option maxRecDepth 100000 in
/-- A break, and the empty lines behind it (scBreak). -/
theorem break_any (zs : List Int) (b cp i : Nat) (w : World) (hz : Zs w b zs) (hi : i < zs.length) (hcp : zs.length ≤ cp) (hm : zs.length ≤ 1000000 ∧ cp ≤ 9223372036854775807) :
    Calls Tryd.prog 47 #[.slice (some ⟨b, 0, none⟩) zs.length cp, .int .i64 i] w fun e w' => ((∃ s j, e = .returned (.tuple #[.string s, .int .i64 j, .bool false])) ∨ ∃ n j : Nat, e = .returned (.tuple #[.string (strOfNums (fold n)), .int .i64 j, .bool true]) ∧ i + 1 ≤ j ∧ j ≤ zs.length ∧ n ≤ zs.length ∧ Emp (zs.drop (i + 1)) n (zs.drop j)) ∧ Below w.heap.size w w' := by
  have hem := empty_any zs b cp (i + 1) w hz (by omega) hcp hm
  rw [Int.natCast_add] at hem
  have HEM := Lib.hid hem
  obtain ⟨hm1, hm2⟩ := hm
  have j0 : (i : Int) ≤ 1000000 := by omega
  clear hem hz
  go_enter Tryd.func47, Tryd.ntmps47
  go_wp2_with fail
  refine HEM.out.mono ?_
  rintro e w1 ⟨h | ⟨n, j, h, h1, h2, h3, h4⟩, m, hw⟩
  · subst h
    have HW := Lib.hid hw
    clear hw
    go_wp2_with fail
    refine bodyPost_ret (by simp [results, Tryd.results47, go_sem]; try rfl) rfl ?_
    refine ⟨.inl ⟨_, _, rfl⟩, ?_⟩
    rw [HW.out]
    exact below_drewN _ _
  · subst h
    have HW := Lib.hid hw
    have H4 := Lib.hid h4
    clear hw h4
    by_cases hn : n = 0
    · subst hn
      go_wp2_with fail
      refine bodyPost_ret (by simp [results, Tryd.results47, go_sem]; try rfl) rfl ?_
      refine ⟨.inr ⟨0, j, rfl, h1, h2, h3, H4.out⟩, ?_⟩
      rw [HW.out]
      exact below_drewN _ _
    · have hnz : ((n : Int) == 0) = false := by rw [beq_eq_false_iff_ne]; omega
      have hf := feeds_any n (by omega) w1
      have HF := Lib.hid hf
      clear hf
      go_wp2_with fail
      refine HF.out.mono ?_
      rintro e w2 ⟨rfl, hb⟩
      have HB := Lib.hid hb
      clear hb
      go_wp2_with fail
      refine bodyPost_ret (by simp [results, Tryd.results47, go_sem]; try rfl) rfl ?_
      refine ⟨.inr ⟨n, j, ?_, h1, h2, h3, H4.out⟩, ?_⟩
      · unfold fold
        rw [if_neg hn]
      · have := HB.out
        rw [HW.out] at this
        exact (below_drewN w m).trans this
end Go.Proofs.YtocbbekciphjgaaDoor.Dq

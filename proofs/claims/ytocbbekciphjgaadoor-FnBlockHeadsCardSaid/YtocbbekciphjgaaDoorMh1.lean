/- QxC, QfA, QlA, QlB: parts of the proof, one behind another. -/
import Derived.Laws.IdiomStrings
import Derived.Laws.Cover4
import Derived.Lib.ValidLaws
import Derived.Lib.MapLaws
import Derived.Lib.TrimUEq
import Derived.Lib.DecodeN
import Derived.Ground.NamesProg
import Derived.WalkMore
import Derived.Shelf.Lay
import Derived.Shelf.Unicode.ValidAny
import Derived.Handy
import Derived.Deep.QuietTactic
import Derived.BigQuiet
import Derived.BigGuard
import Derived.BigCall
import Derived.Deep.LoopGhost
import Derived.LoopN
import Derived.Test.YtocbbekciphjgaaDoorMz9
import Derived.Test.YtocbbekciphjgaaDoorMz10
import Derived.Test.YtocbbekciphjgaaDoorMz19
/- QxC -/
/- The reference's look at a text (scRunes, scAll): walked. Turned from another seat by mkQeC.py. -/
namespace Go.Proofs.YtocbbekciphjgaaDoor
open Go.RowKit Go.Shelf Go.Lib
shelf_lay Lays.n196 Nm 196 at Tryd as Tryd.laysValid
end Go.Proofs.YtocbbekciphjgaaDoor
namespace Go.Proofs.YtocbbekciphjgaaDoor.Ln
open Go.RowKit Go.Shelf
set_option linter.unusedVariables false
set_option linter.unusedSimpArgs false
def bt (s : ByteArray) (i : Nat) : Nat := (s.get! i).toNat
theorem bt_lt (s : ByteArray) (i : Nat) : bt s i < 256 := (s.get! i).toNat_lt
/-- The characters of a text. -/
def rsFrom (s : ByteArray) : Nat → Nat → List Int
  | 0, _ => []
  | n + 1, i => if i < s.size then Int.ofNat (Utf8.decode s i).1 :: rsFrom s n (i + (Utf8.decode s i).2) else []
theorem runes_list (s : ByteArray) : ∀ (n i : Nat) (acc : Array Value), Conv.runesFrom s n i acc = acc ++ ((rsFrom s n i).map (Value.int .i32)).toArray
  | 0, _, acc => by simp [Conv.runesFrom, rsFrom]
  | n + 1, i, acc => by
    unfold Conv.runesFrom rsFrom
    by_cases h : i < s.size
    · rw [if_pos h, if_pos h]
      show Conv.runesFrom s n (i + (Utf8.decode s i).2) (acc.push (.int .i32 (Int.ofNat (Utf8.decode s i).1))) = _
      rw [runes_list s n]
      simp
    · rw [if_neg h, if_neg h]
      simp
theorem rs_len (s : ByteArray) : ∀ (n i : Nat), (rsFrom s n i).length ≤ n
  | 0, _ => by simp [rsFrom]
  | n + 1, i => by
    unfold rsFrom
    split
    · have := rs_len s n (i + (Utf8.decode s i).2)
      simp
      omega
    · simp
/-- Characters that may stand in a scalar's line. -/
def ct (c : Int) : Bool :=
  if c = 9 ∨ (32 ≤ c ∧ c ≤ 126) ∨ (160 ≤ c ∧ c ≤ 55295) then decide (c ≠ 8232 ∧ c ≠ 8233)
  else if 57344 ≤ c ∧ c ≤ 65533 then decide (c ≠ 65279) else decide (65536 ≤ c ∧ c ≤ 1114111)
/-- In a scalar's lines. -/
def cl (c : Int) : Bool := ct c || c == 10
theorem ct_lf : ct 10 = false := rfl
/-- What stands from here on is these characters. -/
inductive Run (s : ByteArray) : Nat → List Int → Prop
  | done : Run s s.size []
  | step {i : Nat} {l : List Int} : i < s.size → ¬ ((Utf8.decode s i).1 = 65533 ∧ (Utf8.decode s i).2 = 1) → Run s (i + (Utf8.decode s i).2) l → Run s i (Int.ofNat (Utf8.decode s i).1 :: l)
theorem run_of (s : ByteArray) : ∀ (n i : Nat), s.size - i ≤ n → i ≤ s.size → Lib.validD (s.data.toList.drop i) = true → Run s i (rsFrom s n i)
  | 0, i, hn, hi, _ => by
    obtain rfl : i = s.size := by omega
    exact .done
  | n + 1, i, hn, hi, hv => by
    have hl : s.data.toList.length = s.size := by simp
    unfold rsFrom
    by_cases h : i < s.size
    · rw [if_pos h]
      have hne : s.data.toList.drop i ≠ [] := by
        intro e
        have := congrArg List.length e
        rw [List.length_drop, hl] at this
        simp at this
        omega
      have hle := Lib.decodeL_le (s.data.toList.drop i) hne
      rw [Lib.decodeL_drop, List.length_drop, hl] at hle
      rw [Lib.validD_step _ hne, Lib.decodeL_drop] at hv
      have hd1 : 1 ≤ (Utf8.decode s i).2 := by
        rw [Lib.decode_at]
        unfold Lib.decodeN
        repeat' split
        all_goals simp
      split at hv
      · cases hv
      · rename_i hx
        rw [List.drop_drop] at hv
        exact .step h hx (run_of s n _ (by omega) (by omega) hv)
    · rw [if_neg h]
      obtain rfl : i = s.size := by omega
      exact .done
theorem key_of (n i c d x y z u : Nat) (h : i < n) (hd : (c, d) = Lib.decodeN (n - i) x y z u) (hne : ¬ (c = 65533 ∧ d = 1)) :
    (d = 1 ∧ x < 128 ∧ c = x) ∨ (d = 2 ∧ i + 1 < n ∧ 192 ≤ x ∧ x < 224 ∧ 128 ≤ y ∧ y < 192 ∧ c = x % 32 * 64 + y % 64 ∧ 128 ≤ c) ∨
      (d = 3 ∧ i + 2 < n ∧ 224 ≤ x ∧ x < 240 ∧ 128 ≤ y ∧ y < 192 ∧ 128 ≤ z ∧ z < 192 ∧ c = x % 16 * 4096 + y % 64 * 64 + z % 64 ∧ 2048 ≤ c ∧ (c < 55296 ∨ 57344 ≤ c)) ∨
      (d = 4 ∧ i + 3 < n ∧ 240 ≤ x ∧ x < 248 ∧ 128 ≤ y ∧ y < 192 ∧ 128 ≤ z ∧ z < 192 ∧ 65536 ≤ c) := by
  unfold Lib.decodeN at hd
  by_cases h1 : x < 128
  · rw [if_pos h1] at hd
    obtain ⟨rfl, rfl⟩ := Prod.mk.inj hd
    exact .inl ⟨rfl, h1, rfl⟩
  rw [if_neg h1] at hd
  by_cases h2 : x / 32 = 6 ∧ (1 < n - i ∧ y / 64 = 2)
  · rw [if_pos h2] at hd
    obtain ⟨p1, p2, p3⟩ := h2
    by_cases h3 : x % 32 * 64 + y % 64 ≥ 128
    · rw [if_pos h3] at hd
      obtain ⟨rfl, rfl⟩ := Prod.mk.inj hd
      exact .inr (.inl ⟨rfl, by omega, by omega, by omega, by omega, by omega, rfl, h3⟩)
    · rw [if_neg h3] at hd
      exact absurd (Prod.mk.inj hd) hne
  rw [if_neg h2] at hd
  by_cases h3 : x / 16 = 14 ∧ (1 < n - i ∧ y / 64 = 2) ∧ (2 < n - i ∧ z / 64 = 2)
  · rw [if_pos h3] at hd
    obtain ⟨p1, ⟨p2, p3⟩, p4, p5⟩ := h3
    split at hd
    · rename_i h4
      obtain ⟨rfl, rfl⟩ := Prod.mk.inj hd
      exact .inr (.inr (.inl ⟨rfl, by omega, by omega, by omega, by omega, by omega, by omega, by omega, rfl, h4.1, h4.2.imp id And.left⟩))
    · exact absurd (Prod.mk.inj hd) hne
  rw [if_neg h3] at hd
  split at hd
  · rename_i h4
    obtain ⟨p1, ⟨p2, p3⟩, ⟨p4, p5⟩, p6, p7⟩ := h4
    split at hd
    · rename_i h5
      obtain ⟨e1, rfl⟩ := Prod.mk.inj hd
      exact .inr (.inr (.inr ⟨rfl, by omega, by omega, by omega, by omega, by omega, by omega, by omega, by rw [e1]; exact h5.1⟩))
    · exact absurd (Prod.mk.inj hd) hne
  · exact absurd (Prod.mk.inj hd) hne
def Tabs (w : World) : Prop := Lib.Utf8Tabs (Tryd.laysValid_ren.g 3) (Tryd.laysValid_ren.g 4) w
theorem valid_any (s : ByteArray) (w : World) (hs : s.size ≤ 9223372036854775807) (hT : Tabs w) : Calls Tryd.prog 72 #[.string s] w fun e w' => e = .returned (.bool (Lib.validD s.data.toList)) ∧ Below w.heap.size w w' :=
  Any.utf8_ValidString Tryd.laysValid s w hs hT
set_option maxHeartbeats 4000000 in
set_option maxRecDepth 100000 in
theorem content_any (c : Int) (h0 : 0 ≤ c) (h1 : c ≤ 2147483647) (w : World) : Calls Tryd.prog 73 #[.int .i32 c] w fun e w' => e = .returned (.bool (ct c)) ∧ w' = w := by
  obtain ⟨b1, e1⟩ : ∃ b, (c == 9) = b := ⟨_, rfl⟩
  obtain ⟨b2, e2⟩ : ∃ b, decide (32 ≤ c) = b := ⟨_, rfl⟩
  obtain ⟨b2a, e2a⟩ : ∃ b, decide (c ≤ 126) = b := ⟨_, rfl⟩
  obtain ⟨b2b, e2b⟩ : ∃ b, decide (160 ≤ c) = b := ⟨_, rfl⟩
  obtain ⟨b3, e3⟩ : ∃ b, decide (c ≤ 55295) = b := ⟨_, rfl⟩
  obtain ⟨b4, e4⟩ : ∃ b, (c != 8232) = b := ⟨_, rfl⟩
  obtain ⟨b5, e5⟩ : ∃ b, (c != 8233) = b := ⟨_, rfl⟩
  obtain ⟨b6, e6⟩ : ∃ b, decide (57344 ≤ c) = b := ⟨_, rfl⟩
  obtain ⟨b7, e7⟩ : ∃ b, decide (c ≤ 65533) = b := ⟨_, rfl⟩
  obtain ⟨ba, ea⟩ : ∃ b, (c != 65279) = b := ⟨_, rfl⟩
  obtain ⟨b8, e8⟩ : ∃ b, decide (65536 ≤ c) = b := ⟨_, rfl⟩
  obtain ⟨b9, e9⟩ : ∃ b, decide (c ≤ 1114111) = b := ⟨_, rfl⟩
  have hr : ct c = (if (b1 || (b2 && b2a) || (b2b && b3)) then (b4 && b5) else if (b6 && b7) then ba else (b8 && b9)) := by
    subst e1 e2 e2a e2b e3 e4 e5 e6 e7 ea e8 e9
    unfold ct
    simp only [Bool.or_eq_true, Bool.and_eq_true, decide_eq_true_eq, beq_iff_eq, or_assoc]
    repeat' split
    all_goals (rw [Bool.eq_iff_iff]; simp)
  rw [hr]
  clear hr h0 h1
  cases b1
  · cases b2
    · cases b2b
      · cases b6
        · cases b8
          · go_enter Tryd.func73, Tryd.ntmps73
            go_wp2_with fail
            go_ret
            exact ⟨rfl, rfl⟩
          · cases b9
            · go_enter Tryd.func73, Tryd.ntmps73
              go_wp2_with fail
              go_ret
              exact ⟨rfl, rfl⟩
            · go_enter Tryd.func73, Tryd.ntmps73
              go_wp2_with fail
              go_ret
              exact ⟨rfl, rfl⟩
        · cases b7
          · cases b8
            · go_enter Tryd.func73, Tryd.ntmps73
              go_wp2_with fail
              go_ret
              exact ⟨rfl, rfl⟩
            · cases b9
              · go_enter Tryd.func73, Tryd.ntmps73
                go_wp2_with fail
                go_ret
                exact ⟨rfl, rfl⟩
              · go_enter Tryd.func73, Tryd.ntmps73
                go_wp2_with fail
                go_ret
                exact ⟨rfl, rfl⟩
          · cases ba
            · go_enter Tryd.func73, Tryd.ntmps73
              go_wp2_with fail
              go_ret
              exact ⟨rfl, rfl⟩
            · go_enter Tryd.func73, Tryd.ntmps73
              go_wp2_with fail
              go_ret
              exact ⟨rfl, rfl⟩
      · cases b3
        · cases b6
          · cases b8
            · go_enter Tryd.func73, Tryd.ntmps73
              go_wp2_with fail
              go_ret
              exact ⟨rfl, rfl⟩
            · cases b9
              · go_enter Tryd.func73, Tryd.ntmps73
                go_wp2_with fail
                go_ret
                exact ⟨rfl, rfl⟩
              · go_enter Tryd.func73, Tryd.ntmps73
                go_wp2_with fail
                go_ret
                exact ⟨rfl, rfl⟩
          · cases b7
            · cases b8
              · go_enter Tryd.func73, Tryd.ntmps73
                go_wp2_with fail
                go_ret
                exact ⟨rfl, rfl⟩
              · cases b9
                · go_enter Tryd.func73, Tryd.ntmps73
                  go_wp2_with fail
                  go_ret
                  exact ⟨rfl, rfl⟩
                · go_enter Tryd.func73, Tryd.ntmps73
                  go_wp2_with fail
                  go_ret
                  exact ⟨rfl, rfl⟩
            · cases ba
              · go_enter Tryd.func73, Tryd.ntmps73
                go_wp2_with fail
                go_ret
                exact ⟨rfl, rfl⟩
              · go_enter Tryd.func73, Tryd.ntmps73
                go_wp2_with fail
                go_ret
                exact ⟨rfl, rfl⟩
        · cases b4
          · cases b5
            · go_enter Tryd.func73, Tryd.ntmps73
              go_wp2_with fail
              go_ret
              exact ⟨rfl, rfl⟩
            · go_enter Tryd.func73, Tryd.ntmps73
              go_wp2_with fail
              go_ret
              exact ⟨rfl, rfl⟩
          · go_enter Tryd.func73, Tryd.ntmps73
            go_wp2_with fail
            go_ret
            exact ⟨rfl, rfl⟩
    · cases b2a
      · cases b2b
        · cases b6
          · cases b8
            · go_enter Tryd.func73, Tryd.ntmps73
              go_wp2_with fail
              go_ret
              exact ⟨rfl, rfl⟩
            · cases b9
              · go_enter Tryd.func73, Tryd.ntmps73
                go_wp2_with fail
                go_ret
                exact ⟨rfl, rfl⟩
              · go_enter Tryd.func73, Tryd.ntmps73
                go_wp2_with fail
                go_ret
                exact ⟨rfl, rfl⟩
          · cases b7
            · cases b8
              · go_enter Tryd.func73, Tryd.ntmps73
                go_wp2_with fail
                go_ret
                exact ⟨rfl, rfl⟩
              · cases b9
                · go_enter Tryd.func73, Tryd.ntmps73
                  go_wp2_with fail
                  go_ret
                  exact ⟨rfl, rfl⟩
                · go_enter Tryd.func73, Tryd.ntmps73
                  go_wp2_with fail
                  go_ret
                  exact ⟨rfl, rfl⟩
            · cases ba
              · go_enter Tryd.func73, Tryd.ntmps73
                go_wp2_with fail
                go_ret
                exact ⟨rfl, rfl⟩
              · go_enter Tryd.func73, Tryd.ntmps73
                go_wp2_with fail
                go_ret
                exact ⟨rfl, rfl⟩
        · cases b3
          · cases b6
            · cases b8
              · go_enter Tryd.func73, Tryd.ntmps73
                go_wp2_with fail
                go_ret
                exact ⟨rfl, rfl⟩
              · cases b9
                · go_enter Tryd.func73, Tryd.ntmps73
                  go_wp2_with fail
                  go_ret
                  exact ⟨rfl, rfl⟩
                · go_enter Tryd.func73, Tryd.ntmps73
                  go_wp2_with fail
                  go_ret
                  exact ⟨rfl, rfl⟩
            · cases b7
              · cases b8
                · go_enter Tryd.func73, Tryd.ntmps73
                  go_wp2_with fail
                  go_ret
                  exact ⟨rfl, rfl⟩
                · cases b9
                  · go_enter Tryd.func73, Tryd.ntmps73
                    go_wp2_with fail
                    go_ret
                    exact ⟨rfl, rfl⟩
                  · go_enter Tryd.func73, Tryd.ntmps73
                    go_wp2_with fail
                    go_ret
                    exact ⟨rfl, rfl⟩
              · cases ba
                · go_enter Tryd.func73, Tryd.ntmps73
                  go_wp2_with fail
                  go_ret
                  exact ⟨rfl, rfl⟩
                · go_enter Tryd.func73, Tryd.ntmps73
                  go_wp2_with fail
                  go_ret
                  exact ⟨rfl, rfl⟩
          · cases b4
            · cases b5
              · go_enter Tryd.func73, Tryd.ntmps73
                go_wp2_with fail
                go_ret
                exact ⟨rfl, rfl⟩
              · go_enter Tryd.func73, Tryd.ntmps73
                go_wp2_with fail
                go_ret
                exact ⟨rfl, rfl⟩
            · go_enter Tryd.func73, Tryd.ntmps73
              go_wp2_with fail
              go_ret
              exact ⟨rfl, rfl⟩
      · cases b4
        · cases b5
          · go_enter Tryd.func73, Tryd.ntmps73
            go_wp2_with fail
            go_ret
            exact ⟨rfl, rfl⟩
          · go_enter Tryd.func73, Tryd.ntmps73
            go_wp2_with fail
            go_ret
            exact ⟨rfl, rfl⟩
        · go_enter Tryd.func73, Tryd.ntmps73
          go_wp2_with fail
          go_ret
          exact ⟨rfl, rfl⟩
  · cases b4
    · cases b5
      · go_enter Tryd.func73, Tryd.ntmps73
        go_wp2_with fail
        go_ret
        exact ⟨rfl, rfl⟩
      · go_enter Tryd.func73, Tryd.ntmps73
        go_wp2_with fail
        go_ret
        exact ⟨rfl, rfl⟩
    · go_enter Tryd.func73, Tryd.ntmps73
      go_wp2_with fail
      go_ret
      exact ⟨rfl, rfl⟩

def okc (fd : Bool) (c : Int) : Bool := ct c || (fd && c == 10)
theorem take_all {zs : List Int} {p : Int → Bool} {i : Nat} (h : i < zs.length) (ha : (zs.take i).all p = true) (hc : p (zs.getD i 0) = true) : (zs.take (i + 1)).all p = true := by
  rw [List.take_add_one, List.all_append, ha]
  rw [List.getD_eq_getElem?_getD, List.getElem?_eq_getElem h] at hc
  simp only [Option.getD_some] at hc
  rw [List.getElem?_eq_getElem h]
  simp [hc]
theorem not_all {zs : List Int} {p : Int → Bool} {i : Nat} (h : i < zs.length) (hc : p (zs.getD i 0) = false) : zs.all p = false := by
  rw [List.getD_eq_getElem?_getD, List.getElem?_eq_getElem h] at hc
  simp only [Option.getD_some] at hc
  rw [List.all_eq_false]
  exact ⟨_, List.getElem_mem h, by rw [hc]; simp⟩
set_option maxHeartbeats 4000000 in
set_option maxRecDepth 100000 in
theorem all_any (zs : List Int) (b cp : Nat) (fd : Bool) (w : World) (hm : zs.length ≤ 70000) (hz : ∀ c ∈ zs, 0 ≤ c ∧ c ≤ 1114111) (hc : ∀ j, j < zs.length → w.cell? ⟨b, j, none⟩ = some (.int .i32 (zs.getD j 0))) :
    Calls Tryd.prog 43 #[.slice (some ⟨b, 0, none⟩) zs.length cp, .bool fd] w fun e w' => e = .returned (.bool (zs.all (okc fd))) ∧ w' = w := by
  have HC := Lib.hid hc
  have HZ := Lib.hid hz
  clear hc hz
  go_enter Tryd.func43, Tryd.ntmps43
  go_wp2_with fail
  go_loopg [9] zs.length (fun g s9 wr => wr = w ∧ ∃ i : Nat, i ≤ zs.length ∧ g = zs.length - i ∧ s9 = .int .i64 (i : Nat) ∧ (zs.take i).all (okc fd) = true)
  case atStart => exact ⟨rfl, 0, Nat.zero_le _, rfl, rfl, rfl⟩
  obtain ⟨rfl, i, hi, hgk, rfl, ha⟩ := hrel
  have HGK := Lib.hid hgk
  have HA := Lib.hid ha
  clear hgk ha
  by_cases hlt : i < zs.length
  · have j1 : (i : Int) < (zs.length : Int) := by omega
    have j0 : (0 : Int) ≤ (i : Int) := by omega
    have hcell := HC.out i hlt
    have hr := HZ.out (zs.getD i 0) (by rw [List.getD_eq_getElem?_getD, List.getElem?_eq_getElem hlt]; exact List.getElem_mem hlt)
    obtain ⟨c, HCC⟩ : ∃ c, Hid (zs.getD i 0 = c) := ⟨_, rfl⟩
    rw [HCC.out] at hcell hr
    have hct := content_any c hr.1 (by omega) wr
    cases hk : okc fd c with
    | true =>
      have HK := Lib.hid hk
      unfold okc at hk
      cases hx : ct c with
      | true =>
        rw [hx] at hct
        have HCT := Lib.hid hct
        clear hk hr hct hx
        go_wp2_with fail
        refine HCT.out.mono ?_
        rintro e w1 ⟨rfl, rfl⟩
        go_wp2_with fail
        go_roundg (zs.length - (i + 1))
        case measure => have := HGK.out; omega
        case rel => exact ⟨rfl, i + 1, by omega, rfl, rfl, take_all hlt HA.out (by rw [HCC.out]; exact HK.out)⟩
      | false =>
        rw [hx, Bool.false_or, Bool.and_eq_true] at hk
        obtain ⟨rfl, h10⟩ := hk
        rw [hx] at hct
        have HCT := Lib.hid hct
        clear hr hct hx
        go_wp2_with fail
        refine HCT.out.mono ?_
        rintro e w1 ⟨rfl, rfl⟩
        go_wp2_with fail
        go_roundg (zs.length - (i + 1))
        case measure => have := HGK.out; omega
        case rel => exact ⟨rfl, i + 1, by omega, rfl, rfl, take_all hlt HA.out (by rw [HCC.out]; exact HK.out)⟩
    | false =>
      have hno : zs.all (okc fd) = false := not_all hlt (by rw [HCC.out]; exact hk)
      have HNO := Lib.hid hno
      unfold okc at hk
      rw [Bool.or_eq_false_iff] at hk
      obtain ⟨hx, hk⟩ := hk
      rw [hx] at hct
      have HCT := Lib.hid hct
      clear hr hct hx hno
      cases fd with
      | false =>
        clear hk
        go_wp2_with fail
        refine HCT.out.mono ?_
        rintro e w1 ⟨rfl, rfl⟩
        go_wp2_with fail
        go_ret
        refine ⟨?_, rfl⟩
        rw [HNO.out]
        rfl
      | true =>
        rw [Bool.true_and] at hk
        go_wp2_with fail
        refine HCT.out.mono ?_
        rintro e w1 ⟨rfl, rfl⟩
        go_wp2_with fail
        go_ret
        refine ⟨?_, rfl⟩
        rw [HNO.out]
        rfl
  · obtain rfl : i = zs.length := by omega
    have ht : zs.all (okc fd) = true := by
      have := HA.out
      rw [List.take_of_length_le (Nat.le_refl _)] at this
      exact this
    have HTT := Lib.hid ht
    clear ht
    have j1 : ¬ ((zs.length : Int) < (zs.length : Int)) := by omega
    go_wp2_with fail
    go_ret
    refine ⟨?_, rfl⟩
    rw [HTT.out]
    rfl
theorem runes_run (s : ByteArray) (w : World) (hs : s.size ≤ 2147483647) : ∃ c w', (convert 9 84 (.string s)).run Tryd.prog w = .ok (.slice (some ⟨w.heap.size, 0, none⟩) (rsFrom s s.size 0).length c) w' ∧ Below w.heap.size w w' ∧ ((rsFrom s s.size 0).length ≤ c ∧ c ≤ 9223372036854775807) ∧
    ∀ j, j < (rsFrom s s.size 0).length → w'.cell? ⟨w.heap.size, j, none⟩ = some (.int .i32 ((rsFrom s s.size 0).getD j 0)) := by
  have hl := rs_len s s.size 0
  have he := runes_list s s.size 0 #[]
  rw [Array.empty_append] at he
  have hr := run_runes_of_string (P := Tryd.prog) w 9 84 21 s Tryd.underlying9 Tryd.underlying84 Tryd.underlying21 (by rw [he]; simp; omega)
  rw [he] at hr
  simp only [List.size_toArray, List.length_map] at hr
  have hc1 := grownCap_ge w (rsFrom s s.size 0).length 0 21
  have hc2 := grownCap_le_maxLen w (rsFrom s s.size 0).length 0 21 (by unfold maxLen; omega)
  have hc3 : maxLen = 9223372036854775807 := by decide
  rw [hc3] at hc2
  obtain ⟨zs, hzs⟩ : ∃ zs, rsFrom s s.size 0 = zs := ⟨_, rfl⟩
  rw [hzs] at hr hl hc1 hc2 ⊢
  refine ⟨_, _, hr, (Below.refl _ _).drew.alloc (Nat.le_refl _) _, ⟨hc1, hc2⟩, fun j hj => ?_⟩
  have hh : ∀ C : Array Value, (w.drew.alloc (.cells C 21)).cell? ⟨w.heap.size, j, none⟩ = C[j]? := fun C => by
    have h1 : (w.drew.alloc (.cells C 21)).heap[w.heap.size]? = some (.cells C 21 (0, 0)) := by
      show (w.heap.push (.cells C 21))[w.heap.size]? = _
      simp
    unfold World.cell?
    show (match (w.drew.alloc (.cells C 21)).heap[w.heap.size]? with | some (.cells c _ _) => c[j]? | _ => none) = C[j]?
    rw [h1]
  rw [hh, Array.getElem?_append_left (by simp; exact hj)]
  simp [List.getD_eq_getElem?_getD, hj]
/-- What scRunes gives for a text. -/
def RunesPost (s : ByteArray) (w : World) (e : Ending) (w' : World) : Prop :=
  Below w.heap.size w w' ∧ ((¬ (s.size ≤ 65536 ∧ Lib.validD s.data.toList = true) ∧ e = .returned (.tuple #[.slice none 0 0, .bool false])) ∨
    ((s.size ≤ 65536 ∧ Lib.validD s.data.toList = true) ∧ ∃ b cp, e = .returned (.tuple #[.slice (some ⟨b, 0, none⟩) (rsFrom s s.size 0).length cp, .bool true]) ∧ ((rsFrom s s.size 0).length ≤ cp ∧ cp ≤ 9223372036854775807) ∧ ∀ j, j < (rsFrom s s.size 0).length → w'.cell? ⟨b, j, none⟩ = some (.int .i32 ((rsFrom s s.size 0).getD j 0))))
set_option maxHeartbeats 4000000 in
set_option maxRecDepth 100000 in
theorem runes_any (s : ByteArray) (w : World) (hs : s.size ≤ 2147483647) (hT : Tabs w) : Calls Tryd.prog 42 #[.string s] w (RunesPost s w) := by
  by_cases h : s.size ≤ 65536
  · have hv := valid_any s w (by omega) hT
    have h1 : decide (65536 < (s.size : Int)) = false := by simp; omega
    have h1' : decide (65536 < s.size) = false := by simp; omega
    cases hb : Lib.validD s.data.toList with
    | false =>
      rw [hb] at hv
      have HV := Lib.hid hv
      have HB := Lib.hid hb
      clear hv hb
      go_enter Tryd.func42, Tryd.ntmps42
      go_wp2_with fail
      refine HV.out.mono ?_
      rintro e w1 ⟨rfl, hbel⟩
      go_wp2_with fail
      go_ret2
      exact ⟨hbel, .inl ⟨(fun hh => by rw [HB.out] at hh; cases hh.2), rfl⟩⟩
    | true =>
      rw [hb] at hv
      have HV := Lib.hid hv
      have HB := Lib.hid hb
      clear hv hb
      go_enter Tryd.func42, Tryd.ntmps42
      go_wp2_with fail
      refine HV.out.mono ?_
      rintro e w1 ⟨rfl, hbel⟩
      obtain ⟨c, w2, hrun, hb2, hcc, hcell⟩ := runes_run s w1 hs
      have HCC := Lib.hid hcc
      have HC := Lib.hid hcell
      have HBB := Lib.hid (hbel.trans (hb2.mono hbel.size))
      obtain ⟨m, HM⟩ : ∃ m, Hid ((rsFrom s s.size 0).length = m) := ⟨_, rfl⟩
      rw [HM.out] at hrun
      clear hcell hb2 hcc
      go_wp2_with fail
      go_ret2
      refine ⟨HBB.out, .inr ⟨⟨h, HB.out⟩, _, c, ?_, HCC.out, HC.out⟩⟩
      rw [HM.out]
      rfl
  · have h1 : decide (65536 < (s.size : Int)) = true := by simp; omega
    have h1' : decide (65536 < s.size) = true := by simp; omega
    go_enter Tryd.func42, Tryd.ntmps42
    go_wp2_with fail
    go_ret2
    exact ⟨Below.refl _ _, .inl ⟨fun hh => h hh.1, rfl⟩⟩
theorem rs_range (s : ByteArray) : ∀ (n i : Nat), ∀ c ∈ rsFrom s n i, 0 ≤ c ∧ c ≤ 1114111
  | 0, _ => by simp [rsFrom]
  | n + 1, i => by
    unfold rsFrom
    split
    · intro c hc
      rw [List.mem_cons] at hc
      rcases hc with rfl | hc
      · have b0 : (s.get! i).toNat < 256 := (s.get! i).toNat_lt
        have hd : (Utf8.decode s i).1 ≤ 1114111 := by
          rw [Lib.decode_at]
          unfold Lib.decodeN
          repeat' split
          all_goals (simp only; omega)
        rw [Int.ofNat_eq_natCast]
        omega
      · exact rs_range s n _ c hc
    · simp
end Go.Proofs.YtocbbekciphjgaaDoor.Ln
/- QfA -/
/- A block scalar's text: its header, its indentation and breaks, its lines, and what they say. Plain laws, with no program in sight. -/
namespace Go.Proofs.YtocbbekciphjgaaDoor.Bs
open Go.Proofs.YtocbbekciphjgaaDoor.Rdp Go.Proofs.YtocbbekciphjgaaDoor.Qd
set_option linter.unusedVariables false
set_option linter.unusedSimpArgs false
/-- Indentation spaces and line breaks, from a column on. d: the indentation, 0: it is not known; the greatest column so far; how many breaks there are, the greatest column, and where they end. -/
inductive Brk (d : Nat) : Nat → Nat → List Int → Nat → Nat → Nat → List Int → Prop
  | stop {mx col : Nat} {r : List Int} : fb r ≠ 10 → ((d = 0 ∨ col < d) → fb r ≠ 32 ∧ fb r ≠ 9) → Brk d mx col r 0 (max mx col) col r
  | sp {mx col n m k : Nat} {r q : List Int} : (d = 0 ∨ col < d) → Brk d mx (col + 1) r n m k q → Brk d mx col (32 :: r) n m k q
  | nl {mx col n m k : Nat} {r q : List Int} : Brk d (max mx col) 0 r n m k q → Brk d mx col (10 :: r) (n + 1) m k q
def wht (c : Int) : Bool := c == 32 || c == 9
/-- Line feeds. -/
def nls (n : Nat) : List Int := List.replicate n 10
/-- What stands between two lines. -/
def joint (fold bl wh lb : Bool) (tb : Nat) : List Int :=
  (if fold && !bl && !wh && lb then (if tb = 0 then [32] else []) else (if lb then [10] else [])) ++ nls tb
/-- The lines. d: the indentation; what has been read, whether a break stands behind it, and how many more, whether the last line began with white; the column, what is still to come; what there is in the end. -/
inductive Cnt (d : Nat) (fold : Bool) : List Int → Bool → Nat → Bool → Nat → List Int → List Int → Bool → Nat → Prop
  | stop {s r : List Int} {lb bl : Bool} {tb col : Nat} : (col ≠ d ∨ r = []) → Cnt d fold s lb tb bl col r s lb tb
  | line {s row r q S : List Int} {lb bl B : Bool} {tb n m k N : Nat} {x : Int} : (∀ y ∈ x :: row, y ≠ 10) → Brk d 0 0 r n m k q → Cnt d fold (s ++ joint fold bl (wht x) lb tb ++ x :: row) true n (wht x) k q S B N → Cnt d fold s lb tb bl d (x :: row ++ 10 :: r) S B N
/-- A header's end: white, a comment. none: it is none. -/
inductive Tl : List Int → Option (List Int) → Prop
  | wht {c : Int} {r : List Int} {o : Option (List Int)} : (c = 32 ∨ c = 9) → Tl r o → Tl (c :: r) o
  | nl {r : List Int} : Tl (10 :: r) (some r)
  | cm {row r : List Int} : (∀ x ∈ row, x ≠ 10) → Tl (35 :: row ++ 10 :: r) (some r)
  | bad {c : Int} {r : List Int} : c ≠ 32 → c ≠ 9 → c ≠ 10 → c ≠ 35 → Tl (c :: r) none
/-- A chomping indicator's worth: 1 keep, -1 strip. -/
def sgv (c : Int) : Int := if c = 43 then 1 else -1
/-- A header: the chomping (-1 strip, 0 clip, 1 keep), the indentation indicator, what comes behind its line. -/
inductive Hd : List Int → Int → Nat → Option (List Int) → Prop
  | non {c : Int} {r : List Int} {o : Option (List Int)} : c ≠ 43 → c ≠ 45 → ¬ (48 ≤ c ∧ c ≤ 57) → Tl (c :: r) o → Hd (c :: r) 0 0 o
  | sg {c e : Int} {r : List Int} {o : Option (List Int)} : (c = 43 ∨ c = 45) → ¬ (48 ≤ e ∧ e ≤ 57) → Tl (e :: r) o → Hd (c :: e :: r) (sgv c) 0 o
  | sd {c : Int} {e : Nat} {r : List Int} {o : Option (List Int)} : (c = 43 ∨ c = 45) → 1 ≤ e → e ≤ 9 → Tl r o → Hd (c :: (48 + e : Int) :: r) (sgv c) e o
  | s0 {c : Int} {r : List Int} : (c = 43 ∨ c = 45) → Hd (c :: 48 :: r) (sgv c) 0 none
  | dg {c : Int} {e : Nat} {r : List Int} {o : Option (List Int)} : 1 ≤ e → e ≤ 9 → c ≠ 43 → c ≠ 45 → Tl (c :: r) o → Hd ((48 + e : Int) :: c :: r) 0 e o
  | ds {c : Int} {e : Nat} {r : List Int} {o : Option (List Int)} : 1 ≤ e → e ≤ 9 → (c = 43 ∨ c = 45) → Tl r o → Hd ((48 + e : Int) :: c :: r) (sgv c) e o
  | d0 {r : List Int} : Hd (48 :: r) 0 0 none
/-- What a block scalar says. n: the indentation of the node around, -1: none. -/
inductive Block (fold : Bool) (n : Int) : List Int → Option (List Int) → Prop
  | bad {l : List Int} {ch : Int} {e : Nat} : Hd l ch e none → Block fold n l none
  | says {l r q S : List Int} {ch : Int} {e d nb m k N : Nat} {B : Bool} : Hd l ch e (some r) → Brk (if e = 0 then 0 else (max n 0).toNat + e) 0 0 r nb m k q → d = (if e = 0 then max (max m (n + 1).toNat) 1 else (max n 0).toNat + e) → Cnt d fold [] false nb false k q S B N →
      Block fold n l (some (S ++ (if ch ≠ -1 ∧ B = true then [10] else []) ++ (if ch = 1 then nls N else [])))
/-- What a reference takes for a header's beginning: the chomping (0 strip, 1 clip, 2 keep), the indicator, what stands behind them. -/
inductive Pre : List Int → Int → Nat → List Int → Prop
  | non {r : List Int} : (∀ c t, r = c :: t → ¬ (49 ≤ c ∧ c ≤ 57) ∧ c ≠ 45 ∧ c ≠ 43) → Pre r 1 0 r
  | dg {r : List Int} {e : Nat} : 1 ≤ e → e ≤ 9 → (∀ c t, r = c :: t → c ≠ 45 ∧ c ≠ 43) → Pre ((48 + e : Int) :: r) 1 e r
  | ds {r : List Int} {e : Nat} {c : Int} : 1 ≤ e → e ≤ 9 → (c = 43 ∨ c = 45) → Pre ((48 + e : Int) :: c :: r) (sgv c + 1) e r
  | sg {r : List Int} {c : Int} : (c = 43 ∨ c = 45) → (∀ e t, r = e :: t → ¬ (49 ≤ e ∧ e ≤ 57)) → Pre (c :: r) (sgv c + 1) 0 r
  | sd {r : List Int} {e : Nat} {c : Int} : 1 ≤ e → e ≤ 9 → (c = 43 ∨ c = 45) → Pre (c :: (48 + e : Int) :: r) (sgv c + 1) e r
theorem Tl.digit {c : Int} {r : List Int} (h : 48 ≤ c ∧ c ≤ 57) : Tl (c :: r) none := .bad (by omega) (by omega) (by omega) (by omega)
/-- White, and then nothing, or a comment: the header is one. -/
theorem Tl.ends {tl : List Int} : ∀ (ws t : List Int), (∀ c ∈ ws, c = 32 ∨ c = 9) → (t = [] ∨ ∃ t', t = 35 :: t' ∧ ∀ x ∈ t', x ≠ 10) → Tl (ws ++ t ++ 10 :: tl) (some tl)
  | [], t, _, h => by
    rcases h with rfl | ⟨t', rfl, h⟩
    · exact .nl
    · exact .cm h
  | c :: ws, t, hw, h => .wht (hw c (by simp)) (Tl.ends ws t (fun x hx => hw x (by simp [hx])) h)
theorem Tl.wrong {tl : List Int} : ∀ (ws : List Int) (c : Int) (t : List Int), (∀ c ∈ ws, c = 32 ∨ c = 9) → c ≠ 32 → c ≠ 9 → c ≠ 10 → c ≠ 35 → Tl (ws ++ c :: t ++ 10 :: tl) none
  | [], c, t, _, h1, h2, h3, h4 => .bad h1 h2 h3 h4
  | c :: ws, d, t, hw, h1, h2, h3, h4 => .wht (hw c (by simp)) (Tl.wrong ws d t (fun x hx => hw x (by simp [hx])) h1 h2 h3 h4)
theorem Hd.of_pre {l r tl : List Int} {ch : Int} {e : Nat} {o : Option (List Int)} (h : Pre l ch e r) (ht : Tl (r ++ 10 :: tl) o) (h0 : ∀ t, r ≠ 48 :: t) : Hd (l ++ 10 :: tl) (ch - 1) e o := by
  cases h with
  | non h =>
    cases l with
    | nil => exact .non (by omega) (by omega) (by omega) ht
    | cons c t =>
      have := h c t rfl
      have hn : c ≠ 48 := fun e => h0 t (by rw [e])
      exact .non this.2.2 this.2.1 (by omega) ht
  | dg h1 h2 h =>
    cases r with
    | nil => exact .dg h1 h2 (by omega) (by omega) ht
    | cons c t => exact .dg h1 h2 (h c t rfl).2 (h c t rfl).1 ht
  | ds h1 h2 h =>
    rename_i c
    have e1 : sgv c + 1 - 1 = sgv c := by omega
    rw [e1]
    exact .ds h1 h2 h ht
  | sg h h' =>
    rename_i c
    have e1 : sgv c + 1 - 1 = sgv c := by omega
    rw [e1]
    cases r with
    | nil => exact .sg h (by omega) ht
    | cons c' t =>
      have hn : c' ≠ 48 := fun e => h0 t (by rw [e])
      have := h' c' t rfl
      exact .sg h (by omega) ht
  | sd h1 h2 h =>
    rename_i c
    have e1 : sgv c + 1 - 1 = sgv c := by omega
    rw [e1]
    exact .sd h h1 h2 ht
theorem Hd.of_zero {l t tl : List Int} {ch : Int} {e : Nat} (h : Pre l ch e (48 :: t)) : ∃ ch' e', Hd (l ++ 10 :: tl) ch' e' none := by
  cases h with
  | non h => exact ⟨_, _, .d0⟩
  | dg h1 h2 h => exact ⟨_, _, .dg h1 h2 (by omega) (by omega) (Tl.digit (by omega))⟩
  | ds h1 h2 h => exact ⟨_, _, .ds h1 h2 h (Tl.digit (by omega))⟩
  | sg h h' => exact ⟨_, _, .s0 h⟩
  | sd h1 h2 h => exact ⟨_, _, .sd h h1 h2 (Tl.digit (by omega))⟩
/-- The header is one. -/
theorem Hd.says {l ws t tl : List Int} {ch : Int} {e : Nat} (h : Pre l ch e (ws ++ t)) (hw : ∀ c ∈ ws, c = 32 ∨ c = 9) (ht : t = [] ∨ ∃ t', t = 35 :: t' ∧ ∀ x ∈ t', x ≠ 10) : Hd (l ++ 10 :: tl) (ch - 1) e (some tl) := by
  refine Hd.of_pre h ?_ ?_
  · exact Tl.ends ws t hw ht
  · intro t' e'
    cases ws with
    | nil =>
      rcases ht with rfl | ⟨t2, rfl, _⟩
      · cases e'
      · exact absurd (List.cons.inj e').1 (by omega)
    | cons c ws =>
      have := hw c (by simp)
      have := (List.cons.inj e').1
      omega
/-- The header is none. -/
theorem Hd.wrong {l ws t tl : List Int} {ch c : Int} {e : Nat} (h : Pre l ch e (ws ++ c :: t)) (hw : ∀ c ∈ ws, c = 32 ∨ c = 9) (h1 : c ≠ 32) (h2 : c ≠ 9) (h3 : c ≠ 10) (h4 : c ≠ 35) : ∃ ch' e', Hd (l ++ 10 :: tl) ch' e' none := by
  by_cases h0 : ∃ t', ws ++ c :: t = 48 :: t'
  · obtain ⟨t', e'⟩ := h0
    rw [e'] at h
    exact Hd.of_zero h
  · exact ⟨_, _, Hd.of_pre h (Tl.wrong ws c t hw h1 h2 h3 h4) (fun t' e' => h0 ⟨t', e'⟩)⟩
/-- Spaces. -/
def sps (n : Nat) : List Int := List.replicate n 32
theorem Brk.sps {d : Nat} {n m k : Nat} {mx : Nat} {r q : List Int} : ∀ (a col : Nat), (d = 0 ∨ col + a ≤ d) → Brk d mx (col + a) r n m k q → Brk d mx col (Bs.sps a ++ r) n m k q
  | 0, col, _, h => h
  | a + 1, col, hd, h => by
    show Brk d mx col (32 :: (Bs.sps a ++ r)) n m k q
    refine .sp (by omega) (Brk.sps a (col + 1) (by omega) ?_)
    have e : col + 1 + a = col + (a + 1) := by omega
    rw [e]
    exact h
/-- Ten spaces, a letter, and an empty line, behind any header: what they say. -/
theorem block_ten {fold : Bool} {l r : List Int} {ch : Int} {e : Nat} (he : e ≤ 9) (h : Hd l ch e (some (Bs.sps 10 ++ [97, 10, 10]))) :
    Block fold 0 l (some (Bs.sps (if e = 0 then 0 else 10 - e) ++ [97] ++ (if ch ≠ -1 then [10] else []) ++ (if ch = 1 then [10] else []))) := by
  have f97 : ∀ t : List Int, fb (97 :: t) = 97 := fun t => rfl
  by_cases h0 : e = 0
  · subst h0
    rw [if_pos rfl]
    have hb : Brk 0 0 0 (Bs.sps 10 ++ [97, 10, 10]) 0 10 10 [97, 10, 10] := by
      refine Brk.sps 10 0 (.inl rfl) ?_
      exact .stop (mx := 0) (col := 10) (by rw [f97]; omega) (fun _ => by rw [f97]; omega)
    have hb2 : Brk 10 0 0 [10] 1 0 0 [] := .nl (.stop (mx := 0) (col := 0) (by decide) (fun _ => by decide))
    have hc : Cnt 10 fold [] false 0 false 10 [97, 10, 10] [97] true 1 := by
      have := Cnt.line (d := 10) (fold := fold) (s := []) (lb := false) (bl := false) (tb := 0) (x := 97) (row := []) (r := [10]) (S := [97]) (B := true) (N := 1) (by intro y hy; simp at hy; omega) hb2 (by
        have e : ([] : List Int) ++ joint fold false (wht 97) false 0 ++ [97] = [97] := by cases fold <;> rfl
        rw [e]
        exact .stop (.inr rfl))
      exact this
    have := Block.says (fold := fold) (n := 0) h (by exact hb) (d := 10) rfl hc
    have e : (if ch ≠ -1 ∧ true = true then [10] else ([] : List Int)) = (if ch ≠ -1 then [10] else []) := by simp
    rw [e] at this
    exact this
  · rw [if_neg h0]
    have hd : (max (0 : Int) 0).toNat + e = e := by simp
    have hb : Brk e 0 0 (Bs.sps 10 ++ [97, 10, 10]) 0 e e (Bs.sps (10 - e) ++ [97, 10, 10]) := by
      have e1 : Bs.sps 10 = Bs.sps e ++ Bs.sps (10 - e) := by
        unfold Bs.sps
        rw [List.replicate_append_replicate]
        congr 1
        omega
      rw [e1, List.append_assoc]
      refine Brk.sps e 0 (.inr (by omega)) ?_
      rw [Nat.zero_add]
      have := Brk.stop (d := e) (mx := 0) (col := e) (r := Bs.sps (10 - e) ++ [97, 10, 10]) (by
        have : 10 - e = (9 - e) + 1 := by omega
        rw [this]
        show (32 : Int) ≠ 10
        omega) (fun h => by omega)
      rw [Nat.zero_max] at this
      exact this
    have hb2 : Brk e 0 0 [10] 1 0 0 [] := .nl (.stop (mx := 0) (col := 0) (by decide) (fun _ => by decide))
    have h9 : 10 - e = (9 - e) + 1 := by omega
    have hc : Cnt e fold [] false 0 false e (Bs.sps (10 - e) ++ [97, 10, 10]) (Bs.sps (10 - e) ++ [97]) true 1 := by
      have := Cnt.line (d := e) (fold := fold) (s := []) (lb := false) (bl := false) (tb := 0) (x := 32) (row := Bs.sps (9 - e) ++ [97]) (r := [10]) (S := Bs.sps (10 - e) ++ [97]) (B := true) (N := 1) (by
        intro y hy
        simp only [List.mem_cons, List.mem_append, Bs.sps, List.mem_replicate, List.not_mem_nil, or_false] at hy
        omega) hb2 (by
        have e : ([] : List Int) ++ joint fold false (wht 32) false 0 ++ 32 :: (Bs.sps (9 - e) ++ [97]) = Bs.sps (10 - e) ++ [97] := by rw [h9]; cases fold <;> rfl
        rw [e]
        exact .stop (.inr rfl))
      have e2 : (32 : Int) :: (Bs.sps (9 - e) ++ [97]) ++ 10 :: [10] = Bs.sps (10 - e) ++ [97, 10, 10] := by
        rw [h9]
        show _ = 32 :: (Bs.sps (9 - e) ++ [97, 10, 10])
        simp
      rw [e2] at this
      exact this
    have := Block.says (fold := fold) (n := 0) h (by rw [if_neg h0, hd]; exact hb) (d := e) (by rw [if_neg h0, hd]) hc
    have e : (if ch ≠ -1 ∧ true = true then [10] else ([] : List Int)) = (if ch ≠ -1 then [10] else []) := by simp
    rw [e] at this
    exact this
end Go.Proofs.YtocbbekciphjgaaDoor.Bs
/- QlA -/
/- How many spaces a line begins with (spec.scLeading): the walk, for any line. -/
namespace Go.Proofs.YtocbbekciphjgaaDoor.Bk2
open Go.RowKit Go.Proofs.YtocbbekciphjgaaDoor.Rdp Go.Proofs.YtocbbekciphjgaaDoor.Pa Go.Proofs.YtocbbekciphjgaaDoor.Sc Go.Proofs.YtocbbekciphjgaaDoor.Qd Go.Proofs.YtocbbekciphjgaaDoor.Bs Go.Proofs.YtocbbekciphjgaaDoor.Dq Go.Proofs.YtocbbekciphjgaaDoor.Ln
set_option linter.unusedVariables false
set_option linter.unusedSimpArgs false
set_option maxHeartbeats 4000000 in
set_option maxRecDepth 100000 in
theorem lead_any (zs : List Int) (b cp : Nat) (w : World) (hz : Zs w b zs) (hcp : zs.length ≤ cp) (hm : zs.length ≤ 65536) (hc : cp ≤ 9223372036854775807) :
    Calls Tryd.prog 80 #[.slice (some ⟨b, 0, none⟩) zs.length cp] w fun e w' => (∃ n : Nat, e = .returned (.int .i64 (n : Nat)) ∧ n ≤ zs.length ∧ (∀ j, j < n → zs.getD j 0 = 32) ∧ (n < zs.length → zs.getD n 0 ≠ 32)) ∧ w' = w := by
  have j2 : (zs.length : Int) ≤ (cp : Int) := by omega
  have j3 : (cp : Int) ≤ 9223372036854775807 := by omega
  have j4 : (zs.length : Int) ≤ 65536 := by omega
  have HZ := Lib.hid hz
  clear hz
  go_enter Tryd.func80, Tryd.ntmps80
  go_wp2_with fail
  go_loopg [3] (zs.length) (fun g s3 wr => wr = w ∧ ∃ (i : Nat), g = zs.length - i ∧ i ≤ zs.length ∧ s3 = .int .i64 (i : Nat) ∧ (∀ j, j < i → zs.getD j 0 = 32))
  case atStart => exact ⟨rfl, 0, by omega, by omega, rfl, by intro j hj; omega⟩
  obtain ⟨rfl, i, hg, hi, rfl, hall⟩ := hrel
  have HG := Lib.hid hg
  have HALL := Lib.hid hall
  clear hg hall
  by_cases hlt : i < zs.length
  · have hx := HZ.out i hlt
    obtain ⟨x, HX⟩ : ∃ x, Hid (zs.getD i 0 = x) := ⟨_, rfl⟩
    rw [HX.out] at hx
    have j5 : (i : Int) < (zs.length : Int) := by omega
    have j6 : (0 : Int) ≤ (i : Int) := by omega
    by_cases h32 : x = 32
    · have HE := Lib.hid h32
      have q1 : (x == 32) = true := by rw [h32]; rfl
      clear h32
      go_wp2_with fail
      go_roundg (zs.length - (i + 1))
      case measure => have := HG.out; omega
      case rel =>
        refine ⟨rfl, i + 1, rfl, by omega, rfl, fun j hj => ?_⟩
        by_cases hji : j < i
        · exact HALL.out j hji
        · obtain rfl : j = i := by omega
          rw [HX.out, HE.out]
    · have HE := Lib.hid h32
      have q1 : (x == 32) = false := nb h32
      clear h32
      go_wp2_with fail
      go_ret
      exact ⟨⟨i, rfl, hi, HALL.out, fun _ => by rw [HX.out]; exact HE.out⟩, rfl⟩
  · obtain rfl : i = zs.length := by omega
    have j5 : ¬ ((zs.length : Int) < (zs.length : Int)) := by omega
    go_wp2_with fail
    go_ret
    exact ⟨⟨zs.length, rfl, Nat.le_refl _, HALL.out, fun h => absurd h (Nat.lt_irrefl _)⟩, rfl⟩
/-- Ten spaces and a letter. -/
def ten : List Int := [32, 32, 32, 32, 32, 32, 32, 32, 32, 32, 97]
theorem lead_ten (b cp : Nat) (w : World) (hz : Zs w b ten) (hcp : 11 ≤ cp) (hc : cp ≤ 9223372036854775807) :
    Calls Tryd.prog 80 #[.slice (some ⟨b, 0, none⟩) 11 cp] w fun e w' => e = .returned (.int .i64 10) ∧ w' = w := by
  refine (lead_any ten b cp w hz hcp (by decide) hc).mono ?_
  rintro e w' ⟨⟨n, rfl, h1, h2, h3⟩, rfl⟩
  have hn : n = 10 := by
    apply Classical.byContradiction
    intro hh
    have h1' : n ≤ 11 := h1
    by_cases h : n < 10
    · have := h3 (by show n < 11; omega)
      have : ∀ m, m < 10 → ten.getD m 0 = 32 := by decide
      exact h3 (by show n < 11; omega) (this n h)
    · have := h2 10 (by omega)
      exact absurd this (by decide)
  subst hn
  exact ⟨rfl, rfl⟩
theorem lead_nil (b cp : Nat) (w : World) (hc : cp ≤ 9223372036854775807) :
    Calls Tryd.prog 80 #[.slice (some ⟨b, 0, none⟩) 0 cp] w fun e w' => e = .returned (.int .i64 0) ∧ w' = w := by
  refine (lead_any [] b cp w (fun j hj => by simp at hj) (Nat.zero_le _) (by decide) hc).mono ?_
  rintro e w' ⟨⟨n, rfl, h1, h2, h3⟩, rfl⟩
  obtain rfl : n = 0 := by simpa using h1
  exact ⟨rfl, rfl⟩
end Go.Proofs.YtocbbekciphjgaaDoor.Bk2
/- QlB -/
/- The indentation of ten spaces and a letter, and of an empty line (spec.scIndent): the walk. Printed by genQlB.py. -/
namespace Go.Proofs.YtocbbekciphjgaaDoor.Bk2
open Go.RowKit Go.Proofs.YtocbbekciphjgaaDoor.Rdp Go.Proofs.YtocbbekciphjgaaDoor.Pa Go.Proofs.YtocbbekciphjgaaDoor.Sc Go.Proofs.YtocbbekciphjgaaDoor.Qd Go.Proofs.YtocbbekciphjgaaDoor.Bs Go.Proofs.YtocbbekciphjgaaDoor.Dq Go.Proofs.YtocbbekciphjgaaDoor.Ln
set_option linter.unusedVariables false
set_option linter.unusedSimpArgs false
set_option maxHeartbeats 16000000 in
set_option maxRecDepth 100000 in
theorem indent_none (g gc b1 c1 b2 c2 : Nat) (w : World) (h1 : w.cell? ⟨g, 0, none⟩ = some (.slice (some ⟨b1, 0, none⟩) 11 c1)) (h2 : w.cell? ⟨g, 1, none⟩ = some (.slice (some ⟨b2, 0, none⟩) 0 c2)) (hz : Zs w b1 ten) (hc0 : 11 ≤ c1) (hc1 : c1 ≤ 9223372036854775807) (hc2 : c2 ≤ 9223372036854775807) :
    Calls Tryd.prog 52 #[.slice (some ⟨g, 0, none⟩) 2 gc, .int .i64 0, .int .i64 0] w fun r w' => r = .returned (.tuple #[.int .i64 10, .bool true]) ∧ w' = w := by
  have hl1 := lead_ten b1 c1 w hz hc0 hc1
  have hl2 := lead_nil b2 c2 w hc2
  have h97 : w.cell? ⟨b1, 10, none⟩ = some (.int .i32 97) := hz 10 (by decide)
  have HL1 := Lib.hid hl1
  have HL2 := Lib.hid hl2
  have hc0' : (11 : Int) ≤ (c1 : Int) := by omega
  have hc1' : (c1 : Int) ≤ 9223372036854775807 := by omega
  clear hl1 hl2 hz
  go_enter Tryd.func52, Tryd.ntmps52
  go_wp2_with fail
  refine wp_loop_rounds 3 ?_
  rw [rounds_succ]
  go_wp2_with fail
  refine HL1.out.mono ?_
  rintro r w1 ⟨rfl, rfl⟩
  go_wp2_with fail
  rw [rounds_succ]
  go_wp2_with fail
  refine HL2.out.mono ?_
  rintro r w1 ⟨rfl, rfl⟩
  go_wp2_with fail
  rw [rounds_succ]
  go_wp2_with fail
  refine wp_loop_rounds 3 ?_
  rw [rounds_succ]
  go_wp2_with fail
  refine HL1.out.mono ?_
  rintro r w1 ⟨rfl, rfl⟩
  go_wp2_with fail
  refine bodyPost_ret (by simp [results, Tryd.results52, go_sem]; try rfl) rfl ?_
  exact ⟨rfl, rfl⟩
set_option maxHeartbeats 16000000 in
set_option maxRecDepth 100000 in
theorem indent_some (g gc b1 c1 b2 c2 : Nat) (e : Nat) (he0 : 1 ≤ e) (he1 : e ≤ 9) (w : World) (h1 : w.cell? ⟨g, 0, none⟩ = some (.slice (some ⟨b1, 0, none⟩) 11 c1)) (h2 : w.cell? ⟨g, 1, none⟩ = some (.slice (some ⟨b2, 0, none⟩) 0 c2)) (hz : Zs w b1 ten) (hc0 : 11 ≤ c1) (hc1 : c1 ≤ 9223372036854775807) (hc2 : c2 ≤ 9223372036854775807) :
    Calls Tryd.prog 52 #[.slice (some ⟨g, 0, none⟩) 2 gc, .int .i64 (e : Nat), .int .i64 0] w fun r w' => r = .returned (.tuple #[.int .i64 (e : Nat), .bool true]) ∧ w' = w := by
  have hl1 := lead_ten b1 c1 w hz hc0 hc1
  have hl2 := lead_nil b2 c2 w hc2
  have h97 : w.cell? ⟨b1, 10, none⟩ = some (.int .i32 97) := hz 10 (by decide)
  have HL1 := Lib.hid hl1
  have HL2 := Lib.hid hl2
  have hc0' : (11 : Int) ≤ (c1 : Int) := by omega
  have hc1' : (c1 : Int) ≤ 9223372036854775807 := by omega
  have k0 : (0 : Int) < (e : Int) := by omega
  have k1 : decide ((0 : Int) < (e : Int)) = true := decide_eq_true (by omega)
  have k2 : ((e : Int) == 0) = false := by simp; omega
  have k3 : decide ((10 : Int) < (e : Int)) = false := decide_eq_false (by omega)
  have k3' : ¬ ((10 : Int) < (e : Int)) := by omega
  have k4 : decide ((e : Int) < 1) = false := decide_eq_false (by omega)
  have k4' : ¬ ((e : Int) < 1) := by omega
  have k5 : (e : Int) ≤ 9 := by omega
  have k6 : (0 : Int) ≤ (e : Int) := by omega
  clear hl1 hl2 hz
  go_enter Tryd.func52, Tryd.ntmps52
  go_wp2_with fail
  refine wp_loop_rounds 3 ?_
  rw [rounds_succ]
  go_wp2_with fail
  refine HL1.out.mono ?_
  rintro r w1 ⟨rfl, rfl⟩
  go_wp2_with fail
  rw [rounds_succ]
  go_wp2_with fail
  refine HL2.out.mono ?_
  rintro r w1 ⟨rfl, rfl⟩
  go_wp2_with fail
  rw [rounds_succ]
  go_wp2_with fail
  refine wp_loop_rounds 3 ?_
  rw [rounds_succ]
  go_wp2_with fail
  refine HL1.out.mono ?_
  rintro r w1 ⟨rfl, rfl⟩
  go_wp2_with fail
  refine bodyPost_ret (by simp [results, Tryd.results52, go_sem]; try rfl) rfl ?_
  exact ⟨rfl, rfl⟩
end Go.Proofs.YtocbbekciphjgaaDoor.Bk2

/- The form of a number of base 60, as the package tells it: the walks. For texts of at most 1000 bytes. -/
import Derived.Test.YtacmdmbdfkjhmaaRSixtyA
namespace Go.Proofs.YtacmdmbdfkjhmaaR.Sixty
open Go.RowKit
/-- What stands behind the first digits: groups of a colon and one or two digits, then perhaps a point. -/
def tail (s : ByteArray) : Nat → Nat → Bool
  | 0, _ => false
  | f + 1, i =>
    if i < s.size ∧ bt s i = 58 then
      let n := stop dg s (i + 1) (s.size - (i + 1)) - (i + 1)
      if n = 0 ∨ 2 < n then false
      else if n = 2 ∧ 53 < bt s (i + 1) then false
      else tail s f (i + 1 + n)
    else if i < s.size ∧ bt s i = 46 then stop du s (i + 1) (s.size - (i + 1)) == s.size
    else i == s.size
theorem tail_more (s : ByteArray) (f : Nat) : ∀ i, i ≤ s.size → s.size - i < f → tail s (f + 1) i = tail s f i := by
  induction f with
  | zero => intro i h0 h; omega
  | succ f ih =>
    intro i h0 h
    have hst := stop_ge dg s (s.size - (i + 1)) (i + 1)
    rw [tail, tail]
    split
    · rename_i h1
      dsimp only
      split
      · rfl
      split
      · rfl
      · exact ih _ (by omega) (by omega)
    · rfl
theorem tail_same (s : ByteArray) (i : Nat) (hi : i ≤ s.size) (d : Nat) : tail s (s.size - i + 1 + d) i = tail s (s.size - i + 1) i := by
  induction d with
  | zero => rfl
  | succ d ih => rw [← Nat.add_assoc, tail_more s _ i hi (by omega), ih]
def tl (s : ByteArray) (i : Nat) : Bool := tail s (s.size - i + 1) i
theorem tl_eq (s : ByteArray) (i : Nat) (_hi : i ≤ s.size) : tl s i =
    if i < s.size ∧ bt s i = 58 then
      (let n := stop dg s (i + 1) (s.size - (i + 1)) - (i + 1)
      if n = 0 ∨ 2 < n then false
      else if n = 2 ∧ 53 < bt s (i + 1) then false
      else tl s (i + 1 + n))
    else if i < s.size ∧ bt s i = 46 then stop du s (i + 1) (s.size - (i + 1)) == s.size
    else i == s.size := by
  have hst := stop_ge dg s (s.size - (i + 1)) (i + 1)
  rw [tl, tail]
  split
  · rename_i h1
    dsimp only
    split
    · rfl
    split
    · rfl
    · rename_i h2 h3
      unfold tl
      have := tail_same s (i + 1 + (stop dg s (i + 1) (s.size - (i + 1)) - (i + 1))) (by omega) ((s.size - i) - (s.size - (i + 1 + (stop dg s (i + 1) (s.size - (i + 1)) - (i + 1))) + 1))
      rw [← this]
      congr 1
      omega
  · rfl
theorem tl_58 {s : ByteArray} {i n : Nat} (hi : i < s.size) (h : bt s i = 58) (hn : stop dg s (i + 1) (s.size - (i + 1)) = i + 1 + n) :
    tl s i = if n = 0 ∨ 2 < n then false else if n = 2 ∧ 53 < bt s (i + 1) then false else tl s (i + 1 + n) := by
  rw [tl_eq s i (by omega), if_pos ⟨hi, h⟩]
  dsimp only
  rw [show stop dg s (i + 1) (s.size - (i + 1)) - (i + 1) = n by omega]
theorem tl_46 {s : ByteArray} {i : Nat} (hi : i < s.size) (h : bt s i = 46) : tl s i = (stop du s (i + 1) (s.size - (i + 1)) == s.size) := by
  rw [tl_eq s i (by omega), if_neg (by omega), if_pos ⟨hi, h⟩]
theorem tl_else {s : ByteArray} {i : Nat} (hi : i ≤ s.size) (h : ¬ (i < s.size ∧ bt s i = 58)) (h' : ¬ (i < s.size ∧ bt s i = 46)) : tl s i = (i == s.size) := by
  rw [tl_eq s i hi, if_neg h, if_neg h']
/-- From the place behind the sign on. -/
def road (s : ByteArray) (i : Nat) : Bool :=
  if i < s.size ∧ dg (bt s i) = true then
    (if stop du s i (s.size - i) < s.size ∧ bt s (stop du s i (s.size - i)) = 58 then tl s (stop du s i (s.size - i)) else false)
  else false
theorem digits_from (s : ByteArray) (i : Nat) (w : World) (hs : s.size ≤ 1000) (hi : i ≤ s.size) (n : Nat) (hn : stop dg s i (s.size - i) = i + n) :
    Calls Try.prog 75 #[.string (s.extract i s.size)] w fun e w' => e = .returned (.int .i64 n) ∧ w = w' := by
  have hz : (s.extract i s.size).size = s.size - i := by simp [ByteArray.size_extract]
  have h := digits_any (s.extract i s.size) w (by omega)
  have h2 := stop_suffix dg s i (s.size - i) 0 (by omega)
  rw [hz, show stop dg (s.extract i s.size) 0 (s.size - i) = n by rw [Nat.add_zero] at h2; omega] at h
  exact h
theorem some_digits {s : ByteArray} {i : Nat} : (stop dg s i (s.size - i) = i) ↔ ¬ (i < s.size ∧ dg (bt s i) = true) := by
  constructor
  · rintro h ⟨h1, h2⟩
    have := stop_ge dg s (s.size - (i + 1)) (i + 1)
    rw [stop_yes h1 h2] at h
    omega
  · intro h
    by_cases h1 : i < s.size
    · exact stop_no (by simpa using fun h2 => h ⟨h1, h2⟩)
    · exact stop_end (by omega)
set_option maxHeartbeats 1000000 in
theorem float_plus (s : ByteArray) (w : World) (hs : s.size ≤ 1000) (h0 : 0 < s.size) (hf : ((s[0].toNat : Int) == 45) = false) (hg : ((s[0].toNat : Int) == 43) = true) :
    Calls Try.prog 72 #[.string s] w fun e w' => e = .returned (.bool (road s 1)) ∧ w = w' := by
  obtain ⟨n, hn⟩ : ∃ n, stop dg s 1 (s.size - 1) = 1 + n := ⟨stop dg s 1 (s.size - 1) - 1, by have := stop_ge dg s (s.size - 1) 1; omega⟩
  have hd := fun w => digits_from s 1 w hs (by omega) n hn
  have hse := some_digits (s := s) (i := 1)
  have Hd := Lib.hid hd
  clear hd
  by_cases hz : n = 0
  · subst hz
    have hr : road s 1 = false := by unfold road; rw [if_neg (hse.1 (by omega))]
    rw [hr]
    have Hn := Lib.hid hn
    clear hn hse hr
    go_enter Try.func72, Try.ntmps72
    go_wp2_with fail
    refine (Hd.out _).mono ?_
    rintro e w' ⟨rfl, rfl⟩
    go_wp2_with fail
    go_ret
    exact ⟨rfl, rfl⟩
  have hyes : 1 < s.size ∧ dg (bt s 1) = true := by
    apply Classical.byContradiction
    intro h
    have := hse.2 h
    omega
  have hnb : ((n : Int) == 0) = false := by simpa using hz
  obtain ⟨r, hr⟩ : ∃ r, stop du s 1 (s.size - 1) = r := ⟨_, rfl⟩
  have hrle : r ≤ s.size := by have := stop_ge du s (s.size - 1) 1; omega
  have hroad : road s 1 = if r < s.size ∧ bt s r = 58 then tl s r else false := by unfold road; rw [if_pos hyes, hr]
  have hda : ∀ w, Calls Try.prog 76 #[.string s, .int .i64 1] w fun e w' => e = .returned (.int .i64 (r : Nat)) ∧ w = w' := by
    intro w
    have := digitsAnd_any s 1 w hs (by omega) (by omega)
    rw [show ((1 : Int)).toNat = 1 from rfl, hr] at this
    exact this
  have Hda := Lib.hid hda
  have Hroad := Lib.hid hroad
  have Hbt := Lib.hid (bt_of s)
  clear hda hroad hyes hse hr hn hz
  by_cases hrs : r < s.size
  · by_cases hc : bt s r = 58
    · have hcb : ((s[r].toNat : Int) != 58) = false := by rw [← bt_of s r hrs, hc]; rfl
      have hcb2 : ((s[r].toNat : Int) == 58) = true := by rw [← bt_of s r hrs, hc]; rfl
      have hfin : road s 1 = tl s r := by rw [Hroad.out, if_pos ⟨hrs, hc⟩]
      rw [hfin]
      clear hfin
      have Hc := Lib.hid hc
      have hrb : decide (s.size ≤ r) = false := by simp; omega
      clear hc
      go_enter Try.func72, Try.ntmps72
      go_wp2_with fail
      refine (Hd.out _).mono ?_
      rintro e w' ⟨rfl, rfl⟩
      go_wp2_with fail
      refine (Hda.out _).mono ?_
      rintro e w' ⟨rfl, rfl⟩
      go_wp2_with fail
      clear hcb hcb2
      go_loop [3, 4] (fun i _ => ∃ k : Nat, k ≤ s.size ∧ i = .int .i64 k ∧ tl s r = tl s k) (fun i _ => s.size - (intOf i).toNat)
      case atStart => exact ⟨r, by omega, rfl, rfl⟩
      case round =>
        obtain ⟨k, hk, rfl, htl⟩ := hrel
        have Htl := Lib.hid htl
        clear htl
        clear hrle
        by_cases hks : k < s.size
        · have hb := bt_of s k hks
          by_cases hkc : bt s k = 58
          · have hkb : ((s[k].toNat : Int) == 58) = true := by rw [← hb, hkc]; rfl
            obtain ⟨m, hm⟩ : ∃ m, stop dg s (k + 1) (s.size - (k + 1)) = k + 1 + m := ⟨stop dg s (k + 1) (s.size - (k + 1)) - (k + 1), by have := stop_ge dg s (s.size - (k + 1)) (k + 1); omega⟩
            have hml : k + 1 + m ≤ s.size := by have := stop_ge dg s (s.size - (k + 1)) (k + 1); omega
            have h58 := tl_58 hks hkc hm
            have hdk := fun w => digits_from s (k + 1) w hs (by omega) m hm
            have Hdk := Lib.hid hdk
            have H58 := Lib.hid h58
            clear hdk h58 hm hb hkc
            by_cases hm0 : m = 0
            · subst hm0
              have hfin : tl s r = false := by rw [Htl.out, H58.out]; simp
              have Hfin := Lib.hid hfin
              clear hfin
              go_wp2_with fail
              refine (Hdk.out _).mono ?_
              rintro e w' ⟨rfl, rfl⟩
              go_wp2_with fail
              go_ret
              exact ⟨ret_bool Hfin.out.symm, rfl⟩
            have hm0b : ((m : Int) == 0) = false := by simpa using hm0
            by_cases hm2 : 2 < m
            · have hfin : tl s r = false := by rw [Htl.out, H58.out, if_pos (.inr hm2)]
              have Hfin := Lib.hid hfin
              clear hfin
              have hm2b : decide ((2 : Int) < (m : Int)) = true := by simp; omega
              go_wp2_with fail
              refine (Hdk.out _).mono ?_
              rintro e w' ⟨rfl, rfl⟩
              go_wp2_with fail
              go_ret
              exact ⟨ret_bool Hfin.out.symm, rfl⟩
            have hm2b : decide ((2 : Int) < (m : Int)) = false := by simp; omega
            by_cases he2 : m = 2
            · subst he2
              have hb1 := bt_of s (k + 1) (by omega)
              have hk1 : k + 1 < s.size := by omega
              by_cases h53 : 53 < bt s (k + 1)
              · have h53b : (53 : Int) < (s[k + 1].toNat : Int) := by rw [← hb1]; exact h53
                have hfin : tl s r = false := by rw [Htl.out, H58.out, if_neg (by omega), if_pos ⟨rfl, h53⟩]
                have Hfin := Lib.hid hfin
                clear hfin hb1 h53
                go_wp2_with fail
                refine (Hdk.out _).mono ?_
                rintro e w' ⟨rfl, rfl⟩
                go_wp2_with fail
                go_ret
                exact ⟨ret_bool Hfin.out.symm, rfl⟩
              · have h53b : ¬ (53 : Int) < (s[k + 1].toNat : Int) := by rw [← hb1]; exact h53
                have hnext : tl s r = tl s (k + 1 + 2) := by rw [Htl.out, H58.out, if_neg (by omega), if_neg (fun h => h53 h.2)]
                have Hnext := Lib.hid hnext
                clear hnext hb1 h53
                go_wp2_with fail
                refine (Hdk.out _).mono ?_
                rintro e w' ⟨rfl, rfl⟩
                go_wp2_with fail
                go_round
                case rel => first | exact ⟨k + 1 + 2, by omega, by go_num, Hnext.out⟩ | (refine ⟨trivial, ?_⟩; (repeat apply Exists.intro); exact ⟨⟨k + 1 + 2, by omega, by go_num, Hnext.out⟩, rfl⟩)
                case measure => simp [intOf]; omega
            · have he2b : ((m : Int) == 2) = false := by simpa using (by omega : ¬ (m : Int) = 2)
              have hnext : tl s r = tl s (k + 1 + m) := by rw [Htl.out, H58.out, if_neg (by omega), if_neg (fun h => he2 h.1)]
              have Hnext := Lib.hid hnext
              clear hnext
              go_wp2_with fail
              refine (Hdk.out _).mono ?_
              rintro e w' ⟨rfl, rfl⟩
              go_wp2_with fail
              go_round
              case rel => first | exact ⟨k + 1 + m, by omega, by go_num, Hnext.out⟩ | (refine ⟨trivial, ?_⟩; (repeat apply Exists.intro); exact ⟨⟨k + 1 + m, by omega, by go_num, Hnext.out⟩, rfl⟩)
              case measure => simp [intOf]; omega
          · have hkb : ((s[k].toNat : Int) == 58) = false := by rw [← hb]; simpa using hkc
            by_cases hkp : bt s k = 46
            · have hkpb : ((s[k].toNat : Int) == 46) = true := by rw [← hb, hkp]; rfl
              have hfin : tl s r = (stop du s (k + 1) (s.size - (k + 1)) == s.size) := by rw [Htl.out, tl_46 hks hkp]
              obtain ⟨q, hq⟩ : ∃ q, stop du s (k + 1) (s.size - (k + 1)) = q := ⟨_, rfl⟩
              have hdq : ∀ w, Calls Try.prog 76 #[.string s, .int .i64 ((k : Int) + 1)] w fun e w' => e = .returned (.int .i64 (q : Nat)) ∧ w = w' := by
                intro w
                have := digitsAnd_any s ((k : Int) + 1) w hs (by omega) (by omega)
                rw [show ((k : Int) + 1).toNat = k + 1 from by omega, hq] at this
                exact this
              have Hdq := Lib.hid hdq
              rw [hq] at hfin
              have Hfin := Lib.hid hfin
              clear hfin hdq hq hb hkc hkp
              go_wp2_with fail
              refine (Hdq.out _).mono ?_
              rintro e w' ⟨rfl, rfl⟩
              go_wp2_with fail
              go_ret
              exact ⟨ret_bool (by rw [Hfin.out, Bool.eq_iff_iff]; simp; omega), rfl⟩
            · have hkpb : ((s[k].toNat : Int) == 46) = false := by rw [← hb]; simpa using hkp
              have hfin : tl s r = (k == s.size) := by rw [Htl.out, tl_else hk (fun h => hkc h.2) (fun h => hkp h.2)]
              have Hfin := Lib.hid hfin
              clear hfin hb hkc hkp
              go_wp2_with fail
              go_ret
              exact ⟨ret_bool (by rw [Hfin.out, Bool.eq_iff_iff]; simp; omega), rfl⟩
        · have hfin : tl s r = (k == s.size) := by rw [Htl.out, tl_else hk (fun h => hks h.1) (fun h => hks h.1)]
          have Hfin := Lib.hid hfin
          clear hfin
          go_wp2_with fail
          go_ret
          exact ⟨ret_bool (by rw [Hfin.out, Bool.eq_iff_iff]; simp; omega), rfl⟩
    · have hcb : ((s[r].toNat : Int) != 58) = true := by rw [← bt_of s r hrs]; simpa using hc
      have hfin : road s 1 = false := by rw [Hroad.out, if_neg (fun h => hc h.2)]
      rw [hfin]
      clear hfin hc
      go_enter Try.func72, Try.ntmps72
      go_wp2_with fail
      refine (Hd.out _).mono ?_
      rintro e w' ⟨rfl, rfl⟩
      go_wp2_with fail
      refine (Hda.out _).mono ?_
      rintro e w' ⟨rfl, rfl⟩
      go_wp2_with fail
      go_ret
      exact ⟨rfl, rfl⟩
  · have hfin : road s 1 = false := by rw [Hroad.out, if_neg (fun h => hrs h.1)]
    rw [hfin]
    clear hfin
    go_enter Try.func72, Try.ntmps72
    go_wp2_with fail
    refine (Hd.out _).mono ?_
    rintro e w' ⟨rfl, rfl⟩
    go_wp2_with fail
    refine (Hda.out _).mono ?_
    rintro e w' ⟨rfl, rfl⟩
    go_wp2_with fail
    go_ret
    exact ⟨rfl, rfl⟩
set_option maxHeartbeats 1000000 in
theorem float_minus (s : ByteArray) (w : World) (hs : s.size ≤ 1000) (h0 : 0 < s.size) (hf : ((s[0].toNat : Int) == 45) = true) :
    Calls Try.prog 72 #[.string s] w fun e w' => e = .returned (.bool (road s 1)) ∧ w = w' := by
  obtain ⟨n, hn⟩ : ∃ n, stop dg s 1 (s.size - 1) = 1 + n := ⟨stop dg s 1 (s.size - 1) - 1, by have := stop_ge dg s (s.size - 1) 1; omega⟩
  have hd := fun w => digits_from s 1 w hs (by omega) n hn
  have hse := some_digits (s := s) (i := 1)
  have Hd := Lib.hid hd
  clear hd
  by_cases hz : n = 0
  · subst hz
    have hr : road s 1 = false := by unfold road; rw [if_neg (hse.1 (by omega))]
    rw [hr]
    have Hn := Lib.hid hn
    clear hn hse hr
    go_enter Try.func72, Try.ntmps72
    go_wp2_with fail
    refine (Hd.out _).mono ?_
    rintro e w' ⟨rfl, rfl⟩
    go_wp2_with fail
    go_ret
    exact ⟨rfl, rfl⟩
  have hyes : 1 < s.size ∧ dg (bt s 1) = true := by
    apply Classical.byContradiction
    intro h
    have := hse.2 h
    omega
  have hnb : ((n : Int) == 0) = false := by simpa using hz
  obtain ⟨r, hr⟩ : ∃ r, stop du s 1 (s.size - 1) = r := ⟨_, rfl⟩
  have hrle : r ≤ s.size := by have := stop_ge du s (s.size - 1) 1; omega
  have hroad : road s 1 = if r < s.size ∧ bt s r = 58 then tl s r else false := by unfold road; rw [if_pos hyes, hr]
  have hda : ∀ w, Calls Try.prog 76 #[.string s, .int .i64 1] w fun e w' => e = .returned (.int .i64 (r : Nat)) ∧ w = w' := by
    intro w
    have := digitsAnd_any s 1 w hs (by omega) (by omega)
    rw [show ((1 : Int)).toNat = 1 from rfl, hr] at this
    exact this
  have Hda := Lib.hid hda
  have Hroad := Lib.hid hroad
  have Hbt := Lib.hid (bt_of s)
  clear hda hroad hyes hse hr hn hz
  by_cases hrs : r < s.size
  · by_cases hc : bt s r = 58
    · have hcb : ((s[r].toNat : Int) != 58) = false := by rw [← bt_of s r hrs, hc]; rfl
      have hcb2 : ((s[r].toNat : Int) == 58) = true := by rw [← bt_of s r hrs, hc]; rfl
      have hfin : road s 1 = tl s r := by rw [Hroad.out, if_pos ⟨hrs, hc⟩]
      rw [hfin]
      clear hfin
      have Hc := Lib.hid hc
      have hrb : decide (s.size ≤ r) = false := by simp; omega
      clear hc
      go_enter Try.func72, Try.ntmps72
      go_wp2_with fail
      refine (Hd.out _).mono ?_
      rintro e w' ⟨rfl, rfl⟩
      go_wp2_with fail
      refine (Hda.out _).mono ?_
      rintro e w' ⟨rfl, rfl⟩
      go_wp2_with fail
      clear hcb hcb2
      go_loop [3, 4] (fun i _ => ∃ k : Nat, k ≤ s.size ∧ i = .int .i64 k ∧ tl s r = tl s k) (fun i _ => s.size - (intOf i).toNat)
      case atStart => exact ⟨r, by omega, rfl, rfl⟩
      case round =>
        obtain ⟨k, hk, rfl, htl⟩ := hrel
        have Htl := Lib.hid htl
        clear htl
        clear hrle
        by_cases hks : k < s.size
        · have hb := bt_of s k hks
          by_cases hkc : bt s k = 58
          · have hkb : ((s[k].toNat : Int) == 58) = true := by rw [← hb, hkc]; rfl
            obtain ⟨m, hm⟩ : ∃ m, stop dg s (k + 1) (s.size - (k + 1)) = k + 1 + m := ⟨stop dg s (k + 1) (s.size - (k + 1)) - (k + 1), by have := stop_ge dg s (s.size - (k + 1)) (k + 1); omega⟩
            have hml : k + 1 + m ≤ s.size := by have := stop_ge dg s (s.size - (k + 1)) (k + 1); omega
            have h58 := tl_58 hks hkc hm
            have hdk := fun w => digits_from s (k + 1) w hs (by omega) m hm
            have Hdk := Lib.hid hdk
            have H58 := Lib.hid h58
            clear hdk h58 hm hb hkc
            by_cases hm0 : m = 0
            · subst hm0
              have hfin : tl s r = false := by rw [Htl.out, H58.out]; simp
              have Hfin := Lib.hid hfin
              clear hfin
              go_wp2_with fail
              refine (Hdk.out _).mono ?_
              rintro e w' ⟨rfl, rfl⟩
              go_wp2_with fail
              go_ret
              exact ⟨ret_bool Hfin.out.symm, rfl⟩
            have hm0b : ((m : Int) == 0) = false := by simpa using hm0
            by_cases hm2 : 2 < m
            · have hfin : tl s r = false := by rw [Htl.out, H58.out, if_pos (.inr hm2)]
              have Hfin := Lib.hid hfin
              clear hfin
              have hm2b : decide ((2 : Int) < (m : Int)) = true := by simp; omega
              go_wp2_with fail
              refine (Hdk.out _).mono ?_
              rintro e w' ⟨rfl, rfl⟩
              go_wp2_with fail
              go_ret
              exact ⟨ret_bool Hfin.out.symm, rfl⟩
            have hm2b : decide ((2 : Int) < (m : Int)) = false := by simp; omega
            by_cases he2 : m = 2
            · subst he2
              have hb1 := bt_of s (k + 1) (by omega)
              have hk1 : k + 1 < s.size := by omega
              by_cases h53 : 53 < bt s (k + 1)
              · have h53b : (53 : Int) < (s[k + 1].toNat : Int) := by rw [← hb1]; exact h53
                have hfin : tl s r = false := by rw [Htl.out, H58.out, if_neg (by omega), if_pos ⟨rfl, h53⟩]
                have Hfin := Lib.hid hfin
                clear hfin hb1 h53
                go_wp2_with fail
                refine (Hdk.out _).mono ?_
                rintro e w' ⟨rfl, rfl⟩
                go_wp2_with fail
                go_ret
                exact ⟨ret_bool Hfin.out.symm, rfl⟩
              · have h53b : ¬ (53 : Int) < (s[k + 1].toNat : Int) := by rw [← hb1]; exact h53
                have hnext : tl s r = tl s (k + 1 + 2) := by rw [Htl.out, H58.out, if_neg (by omega), if_neg (fun h => h53 h.2)]
                have Hnext := Lib.hid hnext
                clear hnext hb1 h53
                go_wp2_with fail
                refine (Hdk.out _).mono ?_
                rintro e w' ⟨rfl, rfl⟩
                go_wp2_with fail
                go_round
                case rel => first | exact ⟨k + 1 + 2, by omega, by go_num, Hnext.out⟩ | (refine ⟨trivial, ?_⟩; (repeat apply Exists.intro); exact ⟨⟨k + 1 + 2, by omega, by go_num, Hnext.out⟩, rfl⟩)
                case measure => simp [intOf]; omega
            · have he2b : ((m : Int) == 2) = false := by simpa using (by omega : ¬ (m : Int) = 2)
              have hnext : tl s r = tl s (k + 1 + m) := by rw [Htl.out, H58.out, if_neg (by omega), if_neg (fun h => he2 h.1)]
              have Hnext := Lib.hid hnext
              clear hnext
              go_wp2_with fail
              refine (Hdk.out _).mono ?_
              rintro e w' ⟨rfl, rfl⟩
              go_wp2_with fail
              go_round
              case rel => first | exact ⟨k + 1 + m, by omega, by go_num, Hnext.out⟩ | (refine ⟨trivial, ?_⟩; (repeat apply Exists.intro); exact ⟨⟨k + 1 + m, by omega, by go_num, Hnext.out⟩, rfl⟩)
              case measure => simp [intOf]; omega
          · have hkb : ((s[k].toNat : Int) == 58) = false := by rw [← hb]; simpa using hkc
            by_cases hkp : bt s k = 46
            · have hkpb : ((s[k].toNat : Int) == 46) = true := by rw [← hb, hkp]; rfl
              have hfin : tl s r = (stop du s (k + 1) (s.size - (k + 1)) == s.size) := by rw [Htl.out, tl_46 hks hkp]
              obtain ⟨q, hq⟩ : ∃ q, stop du s (k + 1) (s.size - (k + 1)) = q := ⟨_, rfl⟩
              have hdq : ∀ w, Calls Try.prog 76 #[.string s, .int .i64 ((k : Int) + 1)] w fun e w' => e = .returned (.int .i64 (q : Nat)) ∧ w = w' := by
                intro w
                have := digitsAnd_any s ((k : Int) + 1) w hs (by omega) (by omega)
                rw [show ((k : Int) + 1).toNat = k + 1 from by omega, hq] at this
                exact this
              have Hdq := Lib.hid hdq
              rw [hq] at hfin
              have Hfin := Lib.hid hfin
              clear hfin hdq hq hb hkc hkp
              go_wp2_with fail
              refine (Hdq.out _).mono ?_
              rintro e w' ⟨rfl, rfl⟩
              go_wp2_with fail
              go_ret
              exact ⟨ret_bool (by rw [Hfin.out, Bool.eq_iff_iff]; simp; omega), rfl⟩
            · have hkpb : ((s[k].toNat : Int) == 46) = false := by rw [← hb]; simpa using hkp
              have hfin : tl s r = (k == s.size) := by rw [Htl.out, tl_else hk (fun h => hkc h.2) (fun h => hkp h.2)]
              have Hfin := Lib.hid hfin
              clear hfin hb hkc hkp
              go_wp2_with fail
              go_ret
              exact ⟨ret_bool (by rw [Hfin.out, Bool.eq_iff_iff]; simp; omega), rfl⟩
        · have hfin : tl s r = (k == s.size) := by rw [Htl.out, tl_else hk (fun h => hks h.1) (fun h => hks h.1)]
          have Hfin := Lib.hid hfin
          clear hfin
          go_wp2_with fail
          go_ret
          exact ⟨ret_bool (by rw [Hfin.out, Bool.eq_iff_iff]; simp; omega), rfl⟩
    · have hcb : ((s[r].toNat : Int) != 58) = true := by rw [← bt_of s r hrs]; simpa using hc
      have hfin : road s 1 = false := by rw [Hroad.out, if_neg (fun h => hc h.2)]
      rw [hfin]
      clear hfin hc
      go_enter Try.func72, Try.ntmps72
      go_wp2_with fail
      refine (Hd.out _).mono ?_
      rintro e w' ⟨rfl, rfl⟩
      go_wp2_with fail
      refine (Hda.out _).mono ?_
      rintro e w' ⟨rfl, rfl⟩
      go_wp2_with fail
      go_ret
      exact ⟨rfl, rfl⟩
  · have hfin : road s 1 = false := by rw [Hroad.out, if_neg (fun h => hrs h.1)]
    rw [hfin]
    clear hfin
    go_enter Try.func72, Try.ntmps72
    go_wp2_with fail
    refine (Hd.out _).mono ?_
    rintro e w' ⟨rfl, rfl⟩
    go_wp2_with fail
    refine (Hda.out _).mono ?_
    rintro e w' ⟨rfl, rfl⟩
    go_wp2_with fail
    go_ret
    exact ⟨rfl, rfl⟩
set_option maxHeartbeats 1000000 in
theorem float_none (s : ByteArray) (w : World) (hs : s.size ≤ 1000) (h0 : 0 < s.size) (hf : ((s[0].toNat : Int) == 45) = false) (hg : ((s[0].toNat : Int) == 43) = false) :
    Calls Try.prog 72 #[.string s] w fun e w' => e = .returned (.bool (road s 0)) ∧ w = w' := by
  obtain ⟨n, hn⟩ : ∃ n, stop dg s 0 (s.size - 0) = 0 + n := ⟨stop dg s 0 (s.size - 0) - 0, by have := stop_ge dg s (s.size - 0) 0; omega⟩
  have hd : ∀ w, Calls Try.prog 75 #[.string s] w fun e w' => e = .returned (.int .i64 n) ∧ w = w' := by
    intro w
    have h := digits_any s w hs
    rw [show stop dg s 0 s.size = n by have := hn; simp at this; exact this] at h
    exact h
  have hse := some_digits (s := s) (i := 0)
  have Hd := Lib.hid hd
  clear hd
  by_cases hz : n = 0
  · subst hz
    have hr : road s 0 = false := by unfold road; rw [if_neg (hse.1 (by omega))]
    rw [hr]
    have Hn := Lib.hid hn
    clear hn hse hr
    go_enter Try.func72, Try.ntmps72
    go_wp2_with fail
    refine (Hd.out _).mono ?_
    rintro e w' ⟨rfl, rfl⟩
    go_wp2_with fail
    go_ret
    exact ⟨rfl, rfl⟩
  have hyes : 0 < s.size ∧ dg (bt s 0) = true := by
    apply Classical.byContradiction
    intro h
    have := hse.2 h
    omega
  have hnb : ((n : Int) == 0) = false := by simpa using hz
  obtain ⟨r, hr⟩ : ∃ r, stop du s 0 (s.size - 0) = r := ⟨_, rfl⟩
  have hrle : r ≤ s.size := by have := stop_ge du s (s.size - 0) 0; omega
  have hroad : road s 0 = if r < s.size ∧ bt s r = 58 then tl s r else false := by unfold road; rw [if_pos hyes, hr]
  have hda : ∀ w, Calls Try.prog 76 #[.string s, .int .i64 0] w fun e w' => e = .returned (.int .i64 (r : Nat)) ∧ w = w' := by
    intro w
    have := digitsAnd_any s 0 w hs (by omega) (by omega)
    rw [show ((0 : Int)).toNat = 0 from rfl, hr] at this
    exact this
  have Hda := Lib.hid hda
  have Hroad := Lib.hid hroad
  have Hbt := Lib.hid (bt_of s)
  clear hda hroad hyes hse hr hn hz
  by_cases hrs : r < s.size
  · by_cases hc : bt s r = 58
    · have hcb : ((s[r].toNat : Int) != 58) = false := by rw [← bt_of s r hrs, hc]; rfl
      have hcb2 : ((s[r].toNat : Int) == 58) = true := by rw [← bt_of s r hrs, hc]; rfl
      have hfin : road s 0 = tl s r := by rw [Hroad.out, if_pos ⟨hrs, hc⟩]
      rw [hfin]
      clear hfin
      have Hc := Lib.hid hc
      have hrb : decide (s.size ≤ r) = false := by simp; omega
      clear hc
      go_enter Try.func72, Try.ntmps72
      go_wp2_with fail
      refine (Hd.out _).mono ?_
      rintro e w' ⟨rfl, rfl⟩
      go_wp2_with fail
      refine (Hda.out _).mono ?_
      rintro e w' ⟨rfl, rfl⟩
      go_wp2_with fail
      clear hcb hcb2
      go_loop [3, 4] (fun i _ => ∃ k : Nat, k ≤ s.size ∧ i = .int .i64 k ∧ tl s r = tl s k) (fun i _ => s.size - (intOf i).toNat)
      case atStart => exact ⟨r, by omega, rfl, rfl⟩
      case round =>
        obtain ⟨k, hk, rfl, htl⟩ := hrel
        have Htl := Lib.hid htl
        clear htl
        clear hrle
        by_cases hks : k < s.size
        · have hb := bt_of s k hks
          by_cases hkc : bt s k = 58
          · have hkb : ((s[k].toNat : Int) == 58) = true := by rw [← hb, hkc]; rfl
            obtain ⟨m, hm⟩ : ∃ m, stop dg s (k + 1) (s.size - (k + 1)) = k + 1 + m := ⟨stop dg s (k + 1) (s.size - (k + 1)) - (k + 1), by have := stop_ge dg s (s.size - (k + 1)) (k + 1); omega⟩
            have hml : k + 1 + m ≤ s.size := by have := stop_ge dg s (s.size - (k + 1)) (k + 1); omega
            have h58 := tl_58 hks hkc hm
            have hdk := fun w => digits_from s (k + 1) w hs (by omega) m hm
            have Hdk := Lib.hid hdk
            have H58 := Lib.hid h58
            clear hdk h58 hm hb hkc
            by_cases hm0 : m = 0
            · subst hm0
              have hfin : tl s r = false := by rw [Htl.out, H58.out]; simp
              have Hfin := Lib.hid hfin
              clear hfin
              go_wp2_with fail
              refine (Hdk.out _).mono ?_
              rintro e w' ⟨rfl, rfl⟩
              go_wp2_with fail
              go_ret
              exact ⟨ret_bool Hfin.out.symm, rfl⟩
            have hm0b : ((m : Int) == 0) = false := by simpa using hm0
            by_cases hm2 : 2 < m
            · have hfin : tl s r = false := by rw [Htl.out, H58.out, if_pos (.inr hm2)]
              have Hfin := Lib.hid hfin
              clear hfin
              have hm2b : decide ((2 : Int) < (m : Int)) = true := by simp; omega
              go_wp2_with fail
              refine (Hdk.out _).mono ?_
              rintro e w' ⟨rfl, rfl⟩
              go_wp2_with fail
              go_ret
              exact ⟨ret_bool Hfin.out.symm, rfl⟩
            have hm2b : decide ((2 : Int) < (m : Int)) = false := by simp; omega
            by_cases he2 : m = 2
            · subst he2
              have hb1 := bt_of s (k + 1) (by omega)
              have hk1 : k + 1 < s.size := by omega
              by_cases h53 : 53 < bt s (k + 1)
              · have h53b : (53 : Int) < (s[k + 1].toNat : Int) := by rw [← hb1]; exact h53
                have hfin : tl s r = false := by rw [Htl.out, H58.out, if_neg (by omega), if_pos ⟨rfl, h53⟩]
                have Hfin := Lib.hid hfin
                clear hfin hb1 h53
                go_wp2_with fail
                refine (Hdk.out _).mono ?_
                rintro e w' ⟨rfl, rfl⟩
                go_wp2_with fail
                go_ret
                exact ⟨ret_bool Hfin.out.symm, rfl⟩
              · have h53b : ¬ (53 : Int) < (s[k + 1].toNat : Int) := by rw [← hb1]; exact h53
                have hnext : tl s r = tl s (k + 1 + 2) := by rw [Htl.out, H58.out, if_neg (by omega), if_neg (fun h => h53 h.2)]
                have Hnext := Lib.hid hnext
                clear hnext hb1 h53
                go_wp2_with fail
                refine (Hdk.out _).mono ?_
                rintro e w' ⟨rfl, rfl⟩
                go_wp2_with fail
                go_round
                case rel => first | exact ⟨k + 1 + 2, by omega, by go_num, Hnext.out⟩ | (refine ⟨trivial, ?_⟩; (repeat apply Exists.intro); exact ⟨⟨k + 1 + 2, by omega, by go_num, Hnext.out⟩, rfl⟩)
                case measure => simp [intOf]; omega
            · have he2b : ((m : Int) == 2) = false := by simpa using (by omega : ¬ (m : Int) = 2)
              have hnext : tl s r = tl s (k + 1 + m) := by rw [Htl.out, H58.out, if_neg (by omega), if_neg (fun h => he2 h.1)]
              have Hnext := Lib.hid hnext
              clear hnext
              go_wp2_with fail
              refine (Hdk.out _).mono ?_
              rintro e w' ⟨rfl, rfl⟩
              go_wp2_with fail
              go_round
              case rel => first | exact ⟨k + 1 + m, by omega, by go_num, Hnext.out⟩ | (refine ⟨trivial, ?_⟩; (repeat apply Exists.intro); exact ⟨⟨k + 1 + m, by omega, by go_num, Hnext.out⟩, rfl⟩)
              case measure => simp [intOf]; omega
          · have hkb : ((s[k].toNat : Int) == 58) = false := by rw [← hb]; simpa using hkc
            by_cases hkp : bt s k = 46
            · have hkpb : ((s[k].toNat : Int) == 46) = true := by rw [← hb, hkp]; rfl
              have hfin : tl s r = (stop du s (k + 1) (s.size - (k + 1)) == s.size) := by rw [Htl.out, tl_46 hks hkp]
              obtain ⟨q, hq⟩ : ∃ q, stop du s (k + 1) (s.size - (k + 1)) = q := ⟨_, rfl⟩
              have hdq : ∀ w, Calls Try.prog 76 #[.string s, .int .i64 ((k : Int) + 1)] w fun e w' => e = .returned (.int .i64 (q : Nat)) ∧ w = w' := by
                intro w
                have := digitsAnd_any s ((k : Int) + 1) w hs (by omega) (by omega)
                rw [show ((k : Int) + 1).toNat = k + 1 from by omega, hq] at this
                exact this
              have Hdq := Lib.hid hdq
              rw [hq] at hfin
              have Hfin := Lib.hid hfin
              clear hfin hdq hq hb hkc hkp
              go_wp2_with fail
              refine (Hdq.out _).mono ?_
              rintro e w' ⟨rfl, rfl⟩
              go_wp2_with fail
              go_ret
              exact ⟨ret_bool (by rw [Hfin.out, Bool.eq_iff_iff]; simp; omega), rfl⟩
            · have hkpb : ((s[k].toNat : Int) == 46) = false := by rw [← hb]; simpa using hkp
              have hfin : tl s r = (k == s.size) := by rw [Htl.out, tl_else hk (fun h => hkc h.2) (fun h => hkp h.2)]
              have Hfin := Lib.hid hfin
              clear hfin hb hkc hkp
              go_wp2_with fail
              go_ret
              exact ⟨ret_bool (by rw [Hfin.out, Bool.eq_iff_iff]; simp; omega), rfl⟩
        · have hfin : tl s r = (k == s.size) := by rw [Htl.out, tl_else hk (fun h => hks h.1) (fun h => hks h.1)]
          have Hfin := Lib.hid hfin
          clear hfin
          go_wp2_with fail
          go_ret
          exact ⟨ret_bool (by rw [Hfin.out, Bool.eq_iff_iff]; simp; omega), rfl⟩
    · have hcb : ((s[r].toNat : Int) != 58) = true := by rw [← bt_of s r hrs]; simpa using hc
      have hfin : road s 0 = false := by rw [Hroad.out, if_neg (fun h => hc h.2)]
      rw [hfin]
      clear hfin hc
      go_enter Try.func72, Try.ntmps72
      go_wp2_with fail
      refine (Hd.out _).mono ?_
      rintro e w' ⟨rfl, rfl⟩
      go_wp2_with fail
      refine (Hda.out _).mono ?_
      rintro e w' ⟨rfl, rfl⟩
      go_wp2_with fail
      go_ret
      exact ⟨rfl, rfl⟩
  · have hfin : road s 0 = false := by rw [Hroad.out, if_neg (fun h => hrs h.1)]
    rw [hfin]
    clear hfin
    go_enter Try.func72, Try.ntmps72
    go_wp2_with fail
    refine (Hd.out _).mono ?_
    rintro e w' ⟨rfl, rfl⟩
    go_wp2_with fail
    refine (Hda.out _).mono ?_
    rintro e w' ⟨rfl, rfl⟩
    go_wp2_with fail
    go_ret
    exact ⟨rfl, rfl⟩
end Go.Proofs.YtacmdmbdfkjhmaaR.Sixty

/- QeN, QeO, Zz: parts of the proof, one behind another. -/
import Derived.Test.YtocbbekciphjgaaDoorRows
import Derived.ChangeSame
import Derived.ChangeVars
import Derived.JoinedOf
import Derived.RowKit
import Derived.RowKitTokens
import Derived.LaidLaws
import Derived.LaidHandle
import Derived.Stop.ErrReads
import Derived.Stop.Joined
import Derived.Test.YtocbbekciphjgaaDoorMz40
import Derived.Test.YtocbbekciphjgaaDoorMz43
/- QeN -/
/- FnDoubleScans and FnSingleScans: the laws' walks (a quoted text is scanned as the reference says). -/
namespace Go.Proofs.YtocbbekciphjgaaDoor.Dq
open Go.RowKit Go.Proofs.YtocbbekciphjgaaDoor.Pa Go.Proofs.YtocbbekciphjgaaDoor.Sc Go.Proofs.YtocbbekciphjgaaDoor.Qd Go.Proofs.YtocbbekciphjgaaDoor.Rdp Go.Proofs.YtocbbekciphjgaaDoor.Ln
set_option linter.unusedVariables false
set_option linter.unusedSimpArgs false
set_option maxHeartbeats 4000000 in
set_option maxRecDepth 100000 in
/-- A scalar's token of that value and style, and no fault. -/
theorem told_ok (s0 s1 s2 e0 e1 e2 : Int) (sV : ByteArray) (st : Int) (w : World) :
    Calls Tryd.prog 21 #[.agg #[.int .i64 21, .int .i64 s0, .int .i64 s1, .int .i64 s2, .int .i64 e0, .int .i64 e1, .int .i64 e2, .string sV, .string ⟨#[]⟩, .string ⟨#[]⟩, .int .i64 st, .int .i64 0, .int .i64 0, .int .i64 0], .agg #[.int .i64 0, .int .i64 0, .int .i64 0, .int .i64 0, .int .i64 0, .int .i64 0, .int .i64 0, .int .i64 0, .int .i64 0], .string sV, .int .i64 st, .int .i64 2] w fun e w' => e = .returned (.bool true) ∧ Below w.heap.size w w' := by
  have t1 : (st == st) = true := by simp
  go_enter Tryd.func21, Tryd.ntmps21
  go_wp2_with fail
  go_ret
  exact ⟨rfl, ((Below.refl _ _).alloc (Nat.le_refl _) _).alloc (by simp) _⟩
set_option maxHeartbeats 4000000 in
set_option maxRecDepth 100000 in
/-- A fault, where there is to be one. -/
theorem told_bad (V : Value) (C D : Array Value) (k : Int) (hk : (k != 0) = true) (want : ByteArray) (st : Int) (w : World) (a0 a1 a2 b0 b1 b2 z2 z3 : Int) (hV : V = .agg #[.int .i64 0, .int .i64 0, .int .i64 0, .int .i64 0, .int .i64 0, .int .i64 0, .int .i64 0, .string ⟨#[]⟩, .string ⟨#[]⟩, .string ⟨#[]⟩, .int .i64 0, .int .i64 0, .int .i64 0, .int .i64 0]) :
    Calls Tryd.prog 21 #[V, .agg #[.int .i64 2, .int .i64 a0, .int .i64 a1, .int .i64 a2, .int .i64 b0, .int .i64 b1, .int .i64 b2, .int .i64 z2, .int .i64 z3], .string want, .int .i64 st, .int .i64 1] w fun e w' => e = .returned (.bool true) ∧ Below w.heap.size w w' := by
  subst hV
  go_enter Tryd.func21, Tryd.ntmps21
  go_wp2_with fail
  go_ret
  exact ⟨rfl, ((Below.refl _ _).alloc (Nat.le_refl _) _).alloc (by simp) _⟩
theorem us_byte {l : List Int} (h : ∀ c ∈ l, Ch c) : ∀ x ∈ us l, 0 ≤ x ∧ x < 256 := by
  induction l with
  | nil => simp [us]
  | cons c l ih =>
    intro x hx
    have hx' : x ∈ u8 c ++ us l := hx
    rcases List.mem_append.1 hx' with h1 | h1
    · have := Ch.range (h c (List.mem_cons_self ..))
      exact u8_byte (by omega) x h1
    · exact ih (fun c hc => h c (List.mem_cons_of_mem _ hc)) x h1
theorem q_us (q : Int) (hq : q < 128) (zs : List Int) : us (q :: (zs ++ [q, 10])) = [q] ++ us zs ++ [q, 10] := by
  show u8 q ++ us (zs ++ [q, 10]) = _
  rw [us_app]
  have e : us [q, 10] = [q, 10] := by
    show u8 q ++ (u8 10 ++ []) = _
    rw [u8_1 hq, u8_1 (by omega)]
    rfl
  rw [e, u8_1 hq, List.append_assoc]
theorem q_str (q : Int) (hq : q < 128) (zs : List Int) : strOfNums [q] ++ strOfNums (us zs) ++ strOfNums [q, 10] = strOfNums (us (q :: (zs ++ [q, 10]))) := by rw [q_us q hq, str_append, str_append]
theorem q_ch {q : Int} (hq : Ch q) {zs : List Int} (h : ∀ c ∈ zs, Ch c) : ∀ y ∈ q :: (zs ++ [q, 10]), Ch y := by
  intro y hy
  simp only [List.mem_cons, List.mem_append, List.not_mem_nil, or_false] at hy
  rcases hy with rfl | hy | rfl | rfl
  · exact hq
  · exact h y hy
  · exact hq
  · exact .inr (.inl rfl)
theorem q_last (q : Int) (zs : List Int) : Lfd (q :: (zs ++ [q, 10])) := .inr ⟨q :: (zs ++ [q]), by simp⟩
set_option maxHeartbeats 8000000 in
set_option maxRecDepth 100000 in
theorem double_law (s : ByteArray) (hs : s.size ≤ 2147483647) (w : World) (E : Value) (hE : w.cell? ⟨2, 0, none⟩ = some E) (hEof : IsEof E) (hT : Tabs w) :
    Calls Tryd.prog 7 #[.string s] w fun e w' => e = .returned (.bool true) ∧ Below w.heap.size w w' := by
  have hg : 2 < w.heap.size := World.block_lt_of_cell? w ⟨2, 0, none⟩ hE
  have h0 : decide (2147483647 < (s.size : Int)) = false := by simp; omega
  have h0' : decide (2147483647 < s.size) = false := by simp; omega
  have hsp := double_any s w hs hT
  have HSP := Lib.hid hsp
  have HE := Lib.hid hE
  have HEE := Lib.hid hEof
  clear hsp hE hEof hT
  go_enter Tryd.func7, Tryd.ntmps7
  go_wp2_with fail
  refine HSP.out.mono ?_
  rintro e w1 ⟨⟨t, rfl⟩ | ⟨zs, hzs, hch, hzl, hsl, ⟨t, rfl, hbad⟩ | ⟨v, rfl, hD⟩⟩, hb1⟩
  · have HB1 := Lib.hid hb1
    clear hb1
    go_wp2_with fail
    go_ret
    exact ⟨rfl, HB1.out⟩
  · have HBD := Lib.hid hbad
    have hw1 := hb1.size
    have hT : strOfNums [34] ++ s ++ strOfNums [34, 10] = strOfNums (us (34 :: (zs ++ [34, 10]))) := by rw [hzs, q_str 34 (by decide)]
    obtain ⟨T, HT⟩ : ∃ T, Hid (us (34 :: (zs ++ [34, 10])) = T) := ⟨_, Lib.hid rfl⟩
    rw [HT.out] at hT
    have hch2 := q_ch (q := 34) (by unfold Ch; omega) hch
    have hTb : ∀ x, x ∈ T → 0 ≤ x ∧ x < 256 := by
      rw [← HT.out]
      exact us_byte hch2
    have hTl : T.length ≤ 65539 := by
      have h1 := congrArg ByteArray.size hT
      rw [str_size, ByteArray.size_append, ByteArray.size_append, str_size, str_size] at h1
      simp only [List.length_cons, List.length_nil] at h1
      omega
    obtain ⟨cc, w4, hrun, hcap, hb4, hin4, hs4⟩ := conv_str T hTb w1
    rw [← hT, show strOfNums [34] = ⟨#[34]⟩ from rfl, show strOfNums [34, 10] = ⟨#[34, 10]⟩ from rfl] at hrun
    have hbw4 : Below w.heap.size w w4 := hb1.trans (hb4.mono hw1)
    have hE4 : w4.cell? ⟨2, 0, none⟩ = some E := by rw [hbw4.cell (p := ⟨2, 0, none⟩) hg]; exact HE.out
    have hB : Begun (some ⟨w1.heap.size, 0, none⟩) T cc E 34 (zs ++ [34, 10]) w4 := ⟨hE4, HEE.out, hin4, HT.out.symm, by decide, hch2, q_last _ _, by omega, hcap⟩
    have hv := double_bad (some ⟨w1.heap.size, 0, none⟩) T cc E 34 (zs ++ [34, 10]) w4 hB (HBD.out.full [] [])
    simp only [full, nine] at hv
    have hsz1 : (ByteArray.mk #[34]).size + s.size ≤ 9223372036854775807 := by
      show 1 + s.size ≤ _
      omega
    have hsz2 : (ByteArray.mk #[34]).size + s.size + (ByteArray.mk #[34, 10]).size ≤ 9223372036854775807 := by
      show 1 + s.size + 2 ≤ _
      omega
    have HV := Lib.hid hv
    have HBW4 := Lib.hid hbw4
    clear hb4 hin4 hE4 hv hbw4 hB hch hch2 hTb hT hzs hbad
    go_wp2_with fail
    refine HV.out.mono ?_
    rintro e w5 ⟨⟨a0, a1, a2, b0, b1, b2, z2, z3, rfl⟩, hb5⟩
    have hs5 := hb5.size
    have HB5 := Lib.hid (HBW4.out.trans (hb5.mono HBW4.out.size))
    have hto := fun W => told_bad _ #[] #[] 1 rfl t 3 W a0 a1 a2 b0 b1 b2 z2 z3 rfl
    have HTO := Lib.hid hto
    clear hb5 hrun hto
    rw [show strOfNums ([] : List Int) = ⟨#[]⟩ from rfl, show sty 0 = 0 from rfl]
    go_wp2_with fail
    refine (HTO.out _).mono ?_
    rintro e w6 ⟨rfl, hb6⟩
    have HB6 := Lib.hid hb6
    clear hb6
    go_wp2_with fail
    go_ret
    have hlw := HB5.out.size
    refine ⟨rfl, Below.trans ?_ (HB6.out.mono ?_)⟩
    · exact (HB5.out.alloc hlw _).alloc (by rw [World.size_alloc]; omega) _
    · rw [World.size_alloc, World.size_alloc]
      omega
  · have HD := Lib.hid hD
    have hw1 := hb1.size
    have hT : strOfNums [34] ++ s ++ strOfNums [34, 10] = strOfNums (us (34 :: (zs ++ [34, 10]))) := by rw [hzs, q_str 34 (by decide)]
    obtain ⟨T, HT⟩ : ∃ T, Hid (us (34 :: (zs ++ [34, 10])) = T) := ⟨_, Lib.hid rfl⟩
    rw [HT.out] at hT
    have hch2 := q_ch (q := 34) (by unfold Ch; omega) hch
    have hTb : ∀ x, x ∈ T → 0 ≤ x ∧ x < 256 := by
      rw [← HT.out]
      exact us_byte hch2
    have hTl : T.length ≤ 65539 := by
      have h1 := congrArg ByteArray.size hT
      rw [str_size, ByteArray.size_append, ByteArray.size_append, str_size, str_size] at h1
      simp only [List.length_cons, List.length_nil] at h1
      omega
    obtain ⟨cc, w4, hrun, hcap, hb4, hin4, hs4⟩ := conv_str T hTb w1
    rw [← hT, show strOfNums [34] = ⟨#[34]⟩ from rfl, show strOfNums [34, 10] = ⟨#[34, 10]⟩ from rfl] at hrun
    have hbw4 : Below w.heap.size w w4 := hb1.trans (hb4.mono hw1)
    have hE4 : w4.cell? ⟨2, 0, none⟩ = some E := by rw [hbw4.cell (p := ⟨2, 0, none⟩) hg]; exact HE.out
    have hB : Begun (some ⟨w1.heap.size, 0, none⟩) T cc E 34 (zs ++ [34, 10]) w4 := ⟨hE4, HEE.out, hin4, HT.out.symm, by decide, hch2, q_last _ _, by omega, hcap⟩
    have hv := double_ok (some ⟨w1.heap.size, 0, none⟩) T cc E 34 (zs ++ [34, 10]) w4 hB v HD.out.full
    simp only [full, nine] at hv
    have hsz1 : (ByteArray.mk #[34]).size + s.size ≤ 9223372036854775807 := by
      show 1 + s.size ≤ _
      omega
    have hsz2 : (ByteArray.mk #[34]).size + s.size + (ByteArray.mk #[34, 10]).size ≤ 9223372036854775807 := by
      show 1 + s.size + 2 ≤ _
      omega
    obtain ⟨sV, HSV⟩ : ∃ sV, Hid (strOfNums (us v) = sV) := ⟨_, Lib.hid rfl⟩
    rw [HSV.out] at hv ⊢
    have HV := Lib.hid hv
    have HBW4 := Lib.hid hbw4
    clear hb4 hin4 hE4 hv hbw4 hB hch hch2 hTb hT hzs hD
    go_wp2_with fail
    refine HV.out.mono ?_
    rintro e w5 ⟨⟨s0, s1, s2, e0, e1, e2, rfl⟩, hb5⟩
    have hs5 := hb5.size
    have HB5 := Lib.hid (HBW4.out.trans (hb5.mono HBW4.out.size))
    have hto := fun W => told_ok s0 s1 s2 e0 e1 e2 sV 3 W
    have HTO := Lib.hid hto
    clear hb5 hrun hto
    rw [show strOfNums ([] : List Int) = ⟨#[]⟩ from rfl, show sty 8 = 3 from rfl]
    go_wp2_with fail
    refine (HTO.out _).mono ?_
    rintro e w6 ⟨rfl, hb6⟩
    have HB6 := Lib.hid hb6
    clear hb6
    go_wp2_with fail
    go_ret
    have hlw := HB5.out.size
    refine ⟨rfl, Below.trans ?_ (HB6.out.mono ?_)⟩
    · exact (HB5.out.alloc hlw _).alloc (by rw [World.size_alloc]; omega) _
    · rw [World.size_alloc, World.size_alloc]
      omega
set_option maxHeartbeats 8000000 in
set_option maxRecDepth 100000 in
theorem single_law (s : ByteArray) (hs : s.size ≤ 2147483647) (w : World) (E : Value) (hE : w.cell? ⟨2, 0, none⟩ = some E) (hEof : IsEof E) (hT : Tabs w) :
    Calls Tryd.prog 8 #[.string s] w fun e w' => e = .returned (.bool true) ∧ Below w.heap.size w w' := by
  have hg : 2 < w.heap.size := World.block_lt_of_cell? w ⟨2, 0, none⟩ hE
  have h0 : decide (2147483647 < (s.size : Int)) = false := by simp; omega
  have h0' : decide (2147483647 < s.size) = false := by simp; omega
  have hsp := single_any s w hs hT
  have HSP := Lib.hid hsp
  have HE := Lib.hid hE
  have HEE := Lib.hid hEof
  clear hsp hE hEof hT
  go_enter Tryd.func8, Tryd.ntmps8
  go_wp2_with fail
  refine HSP.out.mono ?_
  rintro e w1 ⟨⟨t, rfl⟩ | ⟨zs, hzs, hch, hzl, hsl, v, rfl, hD⟩, hb1⟩
  · have HB1 := Lib.hid hb1
    clear hb1
    go_wp2_with fail
    go_ret
    exact ⟨rfl, HB1.out⟩
  · have HD := Lib.hid hD
    have hw1 := hb1.size
    have hT : strOfNums [39] ++ s ++ strOfNums [39, 10] = strOfNums (us (39 :: (zs ++ [39, 10]))) := by rw [hzs, q_str 39 (by decide)]
    obtain ⟨T, HT⟩ : ∃ T, Hid (us (39 :: (zs ++ [39, 10])) = T) := ⟨_, Lib.hid rfl⟩
    rw [HT.out] at hT
    have hch2 := q_ch (q := 39) (by unfold Ch; omega) hch
    have hTb : ∀ x, x ∈ T → 0 ≤ x ∧ x < 256 := by
      rw [← HT.out]
      exact us_byte hch2
    have hTl : T.length ≤ 65539 := by
      have h1 := congrArg ByteArray.size hT
      rw [str_size, ByteArray.size_append, ByteArray.size_append, str_size, str_size] at h1
      simp only [List.length_cons, List.length_nil] at h1
      omega
    obtain ⟨cc, w4, hrun, hcap, hb4, hin4, hs4⟩ := conv_str T hTb w1
    rw [← hT, show strOfNums [39] = ⟨#[39]⟩ from rfl, show strOfNums [39, 10] = ⟨#[39, 10]⟩ from rfl] at hrun
    have hbw4 : Below w.heap.size w w4 := hb1.trans (hb4.mono hw1)
    have hE4 : w4.cell? ⟨2, 0, none⟩ = some E := by rw [hbw4.cell (p := ⟨2, 0, none⟩) hg]; exact HE.out
    have hB : Begun (some ⟨w1.heap.size, 0, none⟩) T cc E 39 (zs ++ [39, 10]) w4 := ⟨hE4, HEE.out, hin4, HT.out.symm, by decide, hch2, q_last _ _, by omega, hcap⟩
    have hv := single_ok (some ⟨w1.heap.size, 0, none⟩) T cc E 39 (zs ++ [39, 10]) w4 hB v HD.out.full
    simp only [full, nine] at hv
    have hsz1 : (ByteArray.mk #[39]).size + s.size ≤ 9223372036854775807 := by
      show 1 + s.size ≤ _
      omega
    have hsz2 : (ByteArray.mk #[39]).size + s.size + (ByteArray.mk #[39, 10]).size ≤ 9223372036854775807 := by
      show 1 + s.size + 2 ≤ _
      omega
    obtain ⟨sV, HSV⟩ : ∃ sV, Hid (strOfNums (us v) = sV) := ⟨_, Lib.hid rfl⟩
    rw [HSV.out] at hv ⊢
    have HV := Lib.hid hv
    have HBW4 := Lib.hid hbw4
    clear hb4 hin4 hE4 hv hbw4 hB hch hch2 hTb hT hzs hD
    go_wp2_with fail
    refine HV.out.mono ?_
    rintro e w5 ⟨⟨s0, s1, s2, e0, e1, e2, rfl⟩, hb5⟩
    have hs5 := hb5.size
    have HB5 := Lib.hid (HBW4.out.trans (hb5.mono HBW4.out.size))
    have hto := fun W => told_ok s0 s1 s2 e0 e1 e2 sV 2 W
    have HTO := Lib.hid hto
    clear hb5 hrun hto
    rw [show strOfNums ([] : List Int) = ⟨#[]⟩ from rfl, show sty 4 = 2 from rfl]
    go_wp2_with fail
    refine (HTO.out _).mono ?_
    rintro e w6 ⟨rfl, hb6⟩
    have HB6 := Lib.hid hb6
    clear hb6
    go_wp2_with fail
    go_ret
    have hlw := HB5.out.size
    refine ⟨rfl, Below.trans ?_ (HB6.out.mono ?_)⟩
    · exact (HB5.out.alloc hlw _).alloc (by rw [World.size_alloc]; omega) _
    · rw [World.size_alloc, World.size_alloc]
      omega
end Go.Proofs.YtocbbekciphjgaaDoor.Dq
/- QeO -/
/- The laws of the quoted texts, for texts of any length. -/
namespace Go.Proofs.YtocbbekciphjgaaDoor.Dq
open Go.RowKit Go.Proofs.YtocbbekciphjgaaDoor.Pa Go.Proofs.YtocbbekciphjgaaDoor.Ln
set_option linter.unusedVariables false
set_option maxHeartbeats 1000000 in
theorem double_great (s : ByteArray) (hh : 2147483647 < s.size) (hm : s.size ≤ 140737488351232) (w : World) :
    Calls Tryd.prog 7 #[.string s] w fun e w' => e = .returned (.bool true) ∧ Below w.heap.size w w' := by
  have h0 : decide (2147483647 < (s.size : Int)) = true := by simp; omega
  have h0' : decide (2147483647 < s.size) = true := by simp; omega
  go_enter Tryd.func7, Tryd.ntmps7
  go_wp2_with fail
  go_ret
  exact ⟨rfl, Below.refl _ _⟩
theorem double_walk (s : ByteArray) (w : World) (E : Value) (hE : w.cell? ⟨2, 0, none⟩ = some E) (hEof : IsEof E) (hT : Tabs w) (hm : s.size ≤ 140737488351232) :
    Calls Tryd.prog 7 #[.string s] w fun e w' => e = .returned (.bool true) ∧ Below w.heap.size w w' := by
  by_cases hs : s.size ≤ 2147483647
  · exact double_law s hs w E hE hEof hT
  · exact double_great s (by omega) hm w
set_option maxHeartbeats 1000000 in
theorem single_great (s : ByteArray) (hh : 2147483647 < s.size) (hm : s.size ≤ 140737488351232) (w : World) :
    Calls Tryd.prog 8 #[.string s] w fun e w' => e = .returned (.bool true) ∧ Below w.heap.size w w' := by
  have h0 : decide (2147483647 < (s.size : Int)) = true := by simp; omega
  have h0' : decide (2147483647 < s.size) = true := by simp; omega
  go_enter Tryd.func8, Tryd.ntmps8
  go_wp2_with fail
  go_ret
  exact ⟨rfl, Below.refl _ _⟩
theorem single_walk (s : ByteArray) (w : World) (E : Value) (hE : w.cell? ⟨2, 0, none⟩ = some E) (hEof : IsEof E) (hT : Tabs w) (hm : s.size ≤ 140737488351232) :
    Calls Tryd.prog 8 #[.string s] w fun e w' => e = .returned (.bool true) ∧ Below w.heap.size w w' := by
  by_cases hs : s.size ≤ 2147483647
  · exact single_law s hs w E hE hEof hT
  · exact single_great s (by omega) hm w
end Go.Proofs.YtocbbekciphjgaaDoor.Dq
/- Zz -/
/- What the listed variable io.EOF holds when the call begins: the one cell, out of the row's premise; and a world that meets it. -/
namespace Go.Proofs.YtocbbekciphjgaaDoor.Eof
open Go.ChangeShapes Go.WideShapes Go.RowKit
set_option linter.unusedVariables false
theorem named : Tryd.prog.globalNamed "io.EOF" = some 2 := by kernel_rfl
theorem typed : (Tryd.prog.globals[2]?).map (·.type) = some 172 := by kernel_rfl
theorem cells209 : Tryd.prog.cellsOf 209 = 1 := by kernel_rfl
theorem cells9 : Tryd.prog.cellsOf 9 = 1 := by kernel_rfl
theorem star : "*" ++ "errors.errorString" = "*errors.errorString" := by decide
theorem row181 (u : TypeId) (h : Tryd.prog.typeName? 3 u = some "*errors.errorString") : u = 181 :=
  typeName_ptr_named (nm := "errors.errorString") (by rw [star]; kernel_rfl) (by kernel_rfl) (by decide) u (by rw [star]; exact h)
set_option maxRecDepth 100000 in
theorem eof_of_laid {W : World} (h : laidMetH Tryd.prog [("io.EOF", Rows.laid_io_EOF)] W) : ∃ a : Addr, W.cell? ⟨2, 0, none⟩ = some (.iface 181 (.pointer (some a))) := by
  have h' : laidMet Tryd.prog [("io.EOF", Rows.laid_io_EOF)] W := h
  obtain ⟨ps, ⟨g0, t0, cs0, f0, p0, q0, hg0, ht0, hv0, hd0, hq0, e0⟩, hnd, hrows⟩ := h'
  obtain rfl := Option.some.inj (named.symm.trans hg0)
  obtain rfl := Option.some.inj (typed.symm.trans ht0)
  have hq0' : q0 = [] := hq0
  subst hq0'
  subst e0
  obtain ⟨l0⟩ := cs0
  have ok0 : ∀ u v, l0 = [.iface u v] → Value.okWide Tryd.prog W .any 0 u v := fun u v e => by
    subst e
    exact (hrows 2 0 (by simp [MemPlace.row])).2 u v (by simpa using World.var?_cell hg0 hv0 0)
  obtain ⟨a0, s0, rfl, hc0, hs0, hz0, rfl⟩ := errorString_of_trod Tryd.underlying172 row181 Tryd.underlying181 Tryd.underlying209 rfl rfl Tryd.underlying9 cells209 cells9 hd0 ok0
  exact ⟨a0, by simpa using World.var?_cell hg0 hv0 0⟩
noncomputable def low : Nat := (World.holding Tryd.prog default ⟨#[], #[], []⟩).heap.size
/-- A world that meets it: the settled one, the variable's cell laid. -/
noncomputable def laidWorld (os : Os) : World :=
  let w0 := World.holding Tryd.prog os ⟨#[.cells #[.string ⟨#[69, 79, 70]⟩] 209], #[], []⟩
  { w0 with heap := w0.heap.modify 2 fun
      | .cells _ t frozen => .cells #[.iface 181 (.pointer (some ⟨low, 0, none⟩))] t frozen
      | o => o }
theorem laidWorld_met (os : Os) (args : Array Value) : laidMetH Tryd.prog [("io.EOF", Rows.laid_io_EOF)] ((laidWorld os).forCall (fun _ _ => 0) ⟨#[], args, []⟩).memory :=
  laidMetH_of_parts (laidMet_of_run (ps := [.cell 2 0, .cell low 0]) 8 (by kernel_rfl) (by kernel_rfl) (by kernel_rfl)) (by kernel_rfl)
end Go.Proofs.YtocbbekciphjgaaDoor.Eof

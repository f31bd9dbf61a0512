/- QkC, QkD, ScI, ScJ, QxD, QxN: parts of the proof, one behind another. -/
import Derived.Handy
import Derived.Laws.BytesArg
import Derived.Laws.IdiomStrings
import Derived.Test.YtocbbekciphjgaaDoorMz6
import Derived.Test.YtocbbekciphjgaaDoorMh2
import Derived.Test.YtocbbekciphjgaaDoorMh3
/- QkC -/
/- The reference's header of a block scalar (spec.Header): its start, the walks. Printed by genQk.py. -/
namespace Go.Proofs.YtocbbekciphjgaaDoor.Hr
open Go.RowKit Go.Proofs.YtocbbekciphjgaaDoor.Rdp Go.Proofs.YtocbbekciphjgaaDoor.Pa Go.Proofs.YtocbbekciphjgaaDoor.Sc Go.Proofs.YtocbbekciphjgaaDoor.Qd Go.Proofs.YtocbbekciphjgaaDoor.Bs Go.Proofs.YtocbbekciphjgaaDoor.Dq Go.Proofs.YtocbbekciphjgaaDoor.Ln
set_option linter.unusedVariables false
set_option linter.unusedSimpArgs false
set_option maxHeartbeats 32000000 in
set_option maxRecDepth 100000 in
theorem p0 {s : ByteArray} {a : Act} {w : World} {K : Act → World → Prop} {Q : Exit → Act → World → Prop} (hz : a.tmps.size = 138) (hdf : a.defers = []) (h0 : gt a 0 = .string s)
    (hK : ∀ a', a'.tmps.size = 138 → a'.defers = [] → gt a' 0 = .string s → gt a' 3 = .int .i64 0 → K a' w) :
    a0.wp Tryd.prog (Exit.then K Q) a w := by
  have HKK := Lib.hid hK
  rw [lit138 a hz hdf, h0]
  clear hK h0 hz hdf
  conv => arg 2; whnf
  go_wp2_with fail
  exact HKK.out _ rfl rfl rfl rfl
set_option maxHeartbeats 32000000 in
set_option maxRecDepth 100000 in
theorem p1 {s : ByteArray} {a : Act} {w : World} {K : Act → World → Prop} {Q : Exit → Act → World → Prop} (hz : a.tmps.size = 138) (hdf : a.defers = []) (h0 : gt a 0 = .string s) (h3 : gt a 3 = .int .i64 0) (hs : s.size ≤ 2147483647) (hT : Tabs w)
    (hX : ∀ a' w', a'.tmps.size = 138 → a'.defers = [] → gt a' 5 = .slice none 0 0 → gt a' 6 = .bool false → Below w.heap.size w w' → K a' w')
    (hK : ∀ a' w' b cp, a'.tmps.size = 138 → a'.defers = [] → gt a' 3 = .int .i64 0 → gt a' 5 = .slice (some ⟨b, 0, none⟩) (rsFrom s s.size 0).length cp → gt a' 6 = .bool true → Below w.heap.size w w' → (s.size ≤ 65536 ∧ Lib.validD s.data.toList = true) → ((rsFrom s s.size 0).length ≤ cp ∧ cp ≤ 9223372036854775807) → Zs w' b (rsFrom s s.size 0) → K a' w') :
    a1.wp Tryd.prog (Exit.then K Q) a w := by
  have hru := runes_any s w hs hT
  have HRU := Lib.hid hru
  have HKK := Lib.hid hK
  have HXX := Lib.hid hX
  rw [lit138 a hz hdf, h0, h3]
  clear hK hX h0 h3 hz hdf hru hT
  conv => arg 2; whnf
  go_wp2_with fail
  refine HRU.out.mono ?_
  rintro e w1 ⟨hb1, ⟨hno, rfl⟩ | ⟨hv, b, cp, rfl, hcp, hcell⟩⟩
  · have HB := Lib.hid hb1
    clear hb1 hno
    go_wp2_with fail
    exact HXX.out _ _ rfl rfl rfl rfl HB.out
  · have HB := Lib.hid hb1
    have HV := Lib.hid hv
    have HCP := Lib.hid hcp
    have HZ := Lib.hid hcell
    clear hb1 hv hcp hcell
    go_wp2_with fail
    exact HKK.out _ _ b cp rfl rfl rfl rfl rfl HB.out HV.out HCP.out HZ.out
set_option maxHeartbeats 32000000 in
set_option maxRecDepth 100000 in
theorem p2x {s : ByteArray} {a : Act} {w : World} {K : Act → World → Prop} {Q : Exit → Act → World → Prop} (hz : a.tmps.size = 138) (hdf : a.defers = []) (h5 : gt a 5 = .slice none 0 0) (h6 : gt a 6 = .bool false)
    (hX : (∀ a', a'.defers = [] → gt a' 2 = .int .i64 0 → gt a' 3 = .int .i64 0 → gt a' 4 = .int .i64 0 → Q .ret a' w)) :
    a2.wp Tryd.prog (Exit.then K Q) a w := by
  have HXX := Lib.hid hX
  rw [lit138 a hz hdf, h5, h6]
  clear hX h5 h6 hz hdf
  conv => arg 2; whnf
  go_wp2_with fail
  exact HXX.out _ rfl rfl rfl rfl
set_option maxHeartbeats 32000000 in
set_option maxRecDepth 100000 in
theorem p2 {zs : List Int} {b cp : Nat} {s : ByteArray} {a : Act} {w : World} {K : Act → World → Prop} {Q : Exit → Act → World → Prop} (hz : a.tmps.size = 138) (hdf : a.defers = []) (h3 : gt a 3 = .int .i64 0) (h5 : gt a 5 = .slice (some ⟨b, 0, none⟩) zs.length cp) (h6 : gt a 6 = .bool true) (hC : Cd w b cp zs)
    (hX : (∀ a', a'.defers = [] → gt a' 2 = .int .i64 0 → gt a' 3 = .int .i64 0 → gt a' 4 = .int .i64 0 → Q .ret a' w))
    (hK : zs.all (okc false) = true → ∀ a', a'.tmps.size = 138 → a'.defers = [] → gt a' 3 = .int .i64 0 → gt a' 5 = .slice (some ⟨b, 0, none⟩) zs.length cp → K a' w) :
    a2.wp Tryd.prog (Exit.then K Q) a w := by
  have hal := all_any zs b cp false w (by have := hC.len; omega) hC.rg hC.cells
  obtain ⟨q, hq⟩ : ∃ q, zs.all (okc false) = q := ⟨_, rfl⟩
  rw [hq] at hal hK
  have HAL := Lib.hid hal
  have HXX := Lib.hid hX
  have HKK := Lib.hid hK
  rw [lit138 a hz hdf, h3, h5, h6]
  clear hX hK h3 h5 h6 hz hdf hal hq hC
  conv => arg 2; whnf
  cases q
  · go_wp2_with fail
    refine HAL.out.mono ?_
    rintro e w' ⟨rfl, rfl⟩
    go_wp2_with fail
    exact HXX.out _ rfl rfl rfl rfl
  · go_wp2_with fail
    refine HAL.out.mono ?_
    rintro e w' ⟨rfl, rfl⟩
    go_wp2_with fail
    first
      | exact HKK.out rfl _ rfl rfl rfl rfl
      | exact HKK.out trivial _ rfl rfl rfl rfl
set_option maxHeartbeats 32000000 in
set_option maxRecDepth 100000 in
theorem p4 {zs : List Int} {b cp : Nat} {a : Act} {w : World} {K : Act → World → Prop} {Q : Exit → Act → World → Prop} (hz : a.tmps.size = 138) (hdf : a.defers = []) (h3 : gt a 3 = .int .i64 0) (h5 : gt a 5 = .slice (some ⟨b, 0, none⟩) zs.length cp)
    (hK : ∀ a', a'.tmps.size = 138 → a'.defers = [] → gt a' 2 = .int .i64 1 → gt a' 3 = .int .i64 0 → gt a' 5 = .slice (some ⟨b, 0, none⟩) zs.length cp → K a' w) :
    a4.wp Tryd.prog (Exit.then K Q) a w := by
  have HKK := Lib.hid hK
  rw [lit138 a hz hdf, h3, h5]
  clear hK h3 h5 hz hdf
  conv => arg 2; whnf
  go_wp2_with fail
  exact HKK.out _ rfl rfl rfl rfl rfl
set_option maxHeartbeats 32000000 in
set_option maxRecDepth 100000 in
theorem p5 {zs : List Int} {b cp : Nat} {a : Act} {w : World} {K : Act → World → Prop} {Q : Exit → Act → World → Prop} (hz : a.tmps.size = 138) (hdf : a.defers = []) (h2 : gt a 2 = .int .i64 1) (h3 : gt a 3 = .int .i64 0) (h5 : gt a 5 = .slice (some ⟨b, 0, none⟩) zs.length cp)
    (hK : ∀ a' v8, Fd zs.length b cp 1 0 0 v8 a' → K a' w) :
    a5.wp Tryd.prog (Exit.then K Q) a w := by
  have HKK := Lib.hid hK
  rw [lit138 a hz hdf, h2, h3, h5]
  clear hK h2 h3 h5 hz hdf
  conv => arg 2; whnf
  go_wp2_with fail
  exact HKK.out _ _ ⟨rfl, rfl, rfl, rfl, rfl, rfl, rfl⟩
end Go.Proofs.YtocbbekciphjgaaDoor.Hr
/- QkD -/
/- The reference's header of a block scalar (spec.Header): the contract. Printed by genQk.py. -/
namespace Go.Proofs.YtocbbekciphjgaaDoor.Hr
open Go.RowKit Go.Proofs.YtocbbekciphjgaaDoor.Rdp Go.Proofs.YtocbbekciphjgaaDoor.Pa Go.Proofs.YtocbbekciphjgaaDoor.Sc Go.Proofs.YtocbbekciphjgaaDoor.Qd Go.Proofs.YtocbbekciphjgaaDoor.Bs Go.Proofs.YtocbbekciphjgaaDoor.Dq Go.Proofs.YtocbbekciphjgaaDoor.Ln
set_option linter.unusedVariables false
set_option linter.unusedSimpArgs false
theorem getD_cons {zs : List Int} {i : Nat} (h : i < zs.length) : zs.drop i = zs.getD i 0 :: zs.drop (i + 1) := drop_at h
/-- The two indicators: what is found of them. -/
theorem pre_any {b cp : Nat} {zs : List Int} {w : World} (hC : Cd w b cp zs) {v8 : Value} {a : Act} {K : Act → World → Prop} {Q : Exit → Act → World → Prop} {Z : Code} (hF : Fd zs.length b cp 1 0 0 v8 a)
    (hK : ∀ a' (ch : Int) (e i : Nat), Fd zs.length b cp ch (e : Int) i v8 a' → i ≤ zs.length → Pre zs ch e (zs.drop i) → (ch = 0 ∨ ch = 1 ∨ ch = 2) → e ≤ 9 → Z.wp Tryd.prog (Exit.then K Q) a' w) :
    (Code.seq aD1 (.seq aD2 Z)).wp Tryd.prog (Exit.then K Q) a w := by
  have sg43 : sgv 43 + 1 = 2 := rfl
  have sg45 : sgv 45 + 1 = 0 := rfl
  by_cases hd : 0 < zs.length ∧ 49 ≤ zs.getD 0 0 ∧ zs.getD 0 0 ≤ 57
  · obtain ⟨h0, hd1, hd2⟩ := hd
    refine wp_seq (d1y hC hF h0 hd1 hd2 fun a1 hF1 => ?_)
    obtain ⟨e, he⟩ : ∃ e : Nat, zs.getD 0 0 - 48 = (e : Int) := ⟨(zs.getD 0 0 - 48).toNat, by omega⟩
    rw [he] at hF1
    have hz0 : zs = (48 + e : Int) :: zs.drop 1 := by
      have := drop_at h0
      rw [List.drop_zero] at this
      rw [← show zs.getD 0 0 = 48 + (e : Int) by omega]
      exact this
    by_cases hs : 1 < zs.length ∧ (zs.getD 1 0 = 45 ∨ zs.getD 1 0 = 43)
    · obtain ⟨h1, hs⟩ := hs
      have hz1 : zs.drop 1 = zs.getD 1 0 :: zs.drop 2 := drop_at h1
      have hp : Pre zs (sgv (zs.getD 1 0) + 1) e (zs.drop 2) := by
        have := Pre.ds (r := zs.drop 2) (e := e) (c := zs.getD 1 0) (by omega) (by omega) (by omega)
        rw [← hz1, ← hz0] at this
        exact this
      rcases hs with hs | hs
      · refine wp_seq (d2d45 hC hF1 h1 hs (by omega) fun a2 hF2 => ?_)
        rw [hs, sg45] at hp
        exact hK a2 0 e 2 hF2 (by omega) hp (by omega) (by omega)
      · refine wp_seq (d2d43 hC hF1 h1 hs (by omega) fun a2 hF2 => ?_)
        rw [hs, sg43] at hp
        exact hK a2 2 e 2 hF2 (by omega) hp (by omega) (by omega)
    · refine wp_seq (d2n1 hC hF1 hs fun a2 hF2 => ?_)
      have hp : Pre zs 1 e (zs.drop 1) := by
        have := Pre.dg (r := zs.drop 1) (e := e) (by omega) (by omega) (fun c t hct => by
          have h1 : 1 < zs.length := by
            apply Classical.byContradiction
            intro hh
            rw [List.drop_eq_nil_of_le (by omega)] at hct
            cases hct
          rw [drop_at h1] at hct
          obtain ⟨rfl, _⟩ := List.cons.inj hct
          exact ⟨fun h => hs ⟨h1, .inl h⟩, fun h => hs ⟨h1, .inr h⟩⟩)
        rw [← hz0] at this
        exact this
      exact hK a2 1 e 1 hF2 (by omega) hp (by omega) (by omega)
  · refine wp_seq (d1n hC hF hd fun a1 hF1 => ?_)
    by_cases hs : 0 < zs.length ∧ (zs.getD 0 0 = 45 ∨ zs.getD 0 0 = 43)
    · obtain ⟨h0, hs⟩ := hs
      have hz0 : zs = zs.getD 0 0 :: zs.drop 1 := by
        have := drop_at h0
        rw [List.drop_zero] at this
        exact this
      by_cases hd1 : 1 < zs.length ∧ 49 ≤ zs.getD 1 0 ∧ zs.getD 1 0 ≤ 57
      · obtain ⟨h1, hd2, hd3⟩ := hd1
        obtain ⟨e, he⟩ : ∃ e : Nat, zs.getD 1 0 - 48 = (e : Int) := ⟨(zs.getD 1 0 - 48).toNat, by omega⟩
        have hz1 : zs.drop 1 = (48 + e : Int) :: zs.drop 2 := by
          rw [drop_at h1, show zs.getD 1 0 = 48 + (e : Int) by omega]
        have hp : Pre zs (sgv (zs.getD 0 0) + 1) e (zs.drop 2) := by
          have := Pre.sd (r := zs.drop 2) (e := e) (c := zs.getD 0 0) (by omega) (by omega) (by omega)
          rw [← hz1, ← hz0] at this
          exact this
        rcases hs with hs | hs
        · refine wp_seq (d2y45 hC hF1 h0 hs h1 hd2 hd3 fun a2 hF2 => ?_)
          rw [hs, sg45] at hp
          rw [he] at hF2
          exact hK a2 0 e 2 hF2 (by omega) hp (by omega) (by omega)
        · refine wp_seq (d2y43 hC hF1 h0 hs h1 hd2 hd3 fun a2 hF2 => ?_)
          rw [hs, sg43] at hp
          rw [he] at hF2
          exact hK a2 2 e 2 hF2 (by omega) hp (by omega) (by omega)
      · have hp : Pre zs (sgv (zs.getD 0 0) + 1) 0 (zs.drop 1) := by
          have := Pre.sg (r := zs.drop 1) (c := zs.getD 0 0) (by omega) (fun e t het => by
            have h1 : 1 < zs.length := by
              apply Classical.byContradiction
              intro hh
              rw [List.drop_eq_nil_of_le (by omega)] at het
              cases het
            rw [drop_at h1] at het
            obtain ⟨rfl, _⟩ := List.cons.inj het
            exact fun h => hd1 ⟨h1, h.1, h.2⟩)
          rw [← hz0] at this
          exact this
        have fin : ∀ a2 (ch : Int), Fd zs.length b cp ch 0 1 v8 a2 → sgv (zs.getD 0 0) + 1 = ch → (ch = 0 ∨ ch = 1 ∨ ch = 2) → Z.wp Tryd.prog (Exit.then K Q) a2 w := by
          intro a2 ch hF2 hc hch
          rw [hc] at hp
          exact hK a2 ch 0 1 hF2 (by omega) hp hch (by omega)
        by_cases h1 : 1 < zs.length
        · by_cases h2 : zs.getD 1 0 < 49
          · rcases hs with hs | hs
            · exact wp_seq (d2l45 hC hF1 h0 hs h1 h2 fun a2 hF2 => fin a2 0 hF2 (by rw [hs]; rfl) (by omega))
            · exact wp_seq (d2l43 hC hF1 h0 hs h1 h2 fun a2 hF2 => fin a2 2 hF2 (by rw [hs]; rfl) (by omega))
          · have h3 : 57 < zs.getD 1 0 := by
              apply Classical.byContradiction
              intro hh
              exact hd1 ⟨h1, by omega, by omega⟩
            rcases hs with hs | hs
            · exact wp_seq (d2g45 hC hF1 h0 hs h1 (by omega) h3 fun a2 hF2 => fin a2 0 hF2 (by rw [hs]; rfl) (by omega))
            · exact wp_seq (d2g43 hC hF1 h0 hs h1 (by omega) h3 fun a2 hF2 => fin a2 2 hF2 (by rw [hs]; rfl) (by omega))
        · rcases hs with hs | hs
          · exact wp_seq (d2s45 hC hF1 h0 hs hd1 (by omega) fun a2 hF2 => fin a2 0 hF2 (by rw [hs]; rfl) (by omega))
          · exact wp_seq (d2s43 hC hF1 h0 hs hd1 (by omega) fun a2 hF2 => fin a2 2 hF2 (by rw [hs]; rfl) (by omega))
    · refine wp_seq (d2n0 hC hF1 hs fun a2 hF2 => ?_)
      have hp : Pre zs 1 0 (zs.drop 0) := by
        rw [List.drop_zero]
        refine .non fun c t hct => ?_
        have h0 : 0 < zs.length := by rw [hct]; simp
        have hg : zs.getD 0 0 = c := by rw [hct]; rfl
        rw [← hg]
        exact ⟨fun h => hd ⟨h0, h.1, h.2⟩, fun h => hs ⟨h0, .inl h⟩, fun h => hs ⟨h0, .inr h⟩⟩
      exact hK a2 1 0 0 hF2 (by omega) hp (by omega) (by omega)
theorem wh_cases {c : Int} (h : wh c = true) : c = 32 ∨ c = 9 := by
  unfold wh at h
  simpa using h
/-- White. -/
theorem white_loop {b cp : Nat} {zs : List Int} {w : World} (hC : Cd w b cp zs) {ch inc : Int} {a : Act} {K : Act → World → Prop} {Q : Exit → Act → World → Prop} {i0 : Nat} (hF : Fd zs.length b cp ch inc i0 (.bool false) a) (hi : i0 ≤ zs.length)
    (hX : ∀ a' i, Fd zs.length b cp ch inc i (.bool (decide (i0 < i))) a' → i0 ≤ i → i ≤ zs.length → (i < zs.length → wh (zs.getD i 0) = false) → (∀ c ∈ (zs.drop i0).take (i - i0), c = 32 ∨ c = 9) → K a' w) :
    (Code.block 0 (Code.loop aL)).wp Tryd.prog (Exit.then K Q) a w := by
  refine wp_block ?_
  have hlen := hC.len
  refine wp_loop_ghost_k (fun g a2 w2 => w2 = w ∧ ∃ i, g = zs.length - i ∧ i0 ≤ i ∧ i ≤ zs.length ∧ Fd zs.length b cp ch inc i (.bool (decide (i0 < i))) a2 ∧ (∀ c ∈ (zs.drop i0).take (i - i0), c = 32 ∨ c = 9)) (zs.length - i0) ⟨rfl, i0, rfl, Nat.le_refl _, hi, by simpa using hF, by simp⟩ ?_
  rintro g a2 w2 ⟨rfl, i, rfl, h1, h2, hF2, hw⟩ J K2 hJ hK2
  rw [aL_eq]
  refine wp_seq (wp_seq (s16 hC hF2 fun a3 hF3 e112 => ?_))
  by_cases hlt : i < zs.length
  · rw [show decide (i < zs.length) = true by simpa using hlt, Bool.true_and] at e112
    cases hq : wh (zs.getD i 0) with
    | false =>
      rw [hq] at e112
      refine wp_cond_split (t := false) (show a3.tmps.getD 112 undef = _ from e112) (fun h => by cases h) (fun _ => wp_exit ?_)
      exact hX a3 i hF3 h1 h2 (fun _ => hq) hw
    | true =>
      rw [hq] at e112
      refine wp_cond_split (t := true) (show a3.tmps.getD 112 undef = _ from e112) (fun _ => wp_skip ?_) (fun h => by cases h)
      refine wp_block ?_
      rw [then_block]
      refine s17 hC hF3 (by omega) fun a4 hF4 => ?_
      refine hK2 _ _ (Handed.intro (zs.length - (i + 1)) (by omega) (hJ _ _ _ ⟨rfl, i + 1, rfl, by omega, by omega, ?_, ?_⟩))
      · rw [show decide (i0 < i + 1) = true by simp; omega]
        exact hF4
      · intro c hc
        rw [show i + 1 - i0 = (i - i0) + 1 by omega, List.take_add_one, List.mem_append] at hc
        rcases hc with hc | hc
        · exact hw c hc
        · rw [List.getElem?_drop, show i0 + (i - i0) = i by omega] at hc
          rw [List.getElem?_eq_getElem hlt] at hc
          simp only [Option.toList_some, List.mem_singleton] at hc
          subst hc
          have : zs.getD i 0 = zs[i] := by rw [List.getD_eq_getElem?_getD, List.getElem?_eq_getElem hlt]; rfl
          rw [this] at hq
          exact wh_cases hq
  · rw [show decide (i < zs.length) = false by simpa using hlt, Bool.false_and] at e112
    refine wp_cond_split (t := false) (show a3.tmps.getD 112 undef = _ from e112) (fun h => by cases h) (fun _ => wp_exit ?_)
    exact hX a3 i hF3 h1 h2 (fun h => absurd h hlt) hw
/-- What a header comes to. -/
def HdP (zs : List Int) (e : Ending) : Prop :=
  (∃ x y : Int, e = .returned (.tuple #[.int .i64 x, .int .i64 y, .int .i64 0])) ∨ (e = .returned (.tuple #[.int .i64 0, .int .i64 0, .int .i64 1]) ∧ ∀ tl, ∃ ch e', Hd (zs ++ 10 :: tl) ch e' none) ∨
  ∃ (ch : Int) (inc : Nat), e = .returned (.tuple #[.int .i64 ch, .int .i64 (inc : Nat), .int .i64 2]) ∧ (ch = 0 ∨ ch = 1 ∨ ch = 2) ∧ inc ≤ 9 ∧ ∀ tl, Hd (zs ++ 10 :: tl) (ch - 1) inc (some tl)
noncomputable def fr24 (s : ByteArray) : Act := { tmps := #[.string s] ++ Array.replicate (Tryd.f24.ntmps - 1) undef, defers := [] }
theorem ntmps24 : Tryd.f24.ntmps = 138 := by kernel_rfl
theorem fr24_size (s : ByteArray) : (fr24 s).tmps.size = 138 := by
  unfold fr24
  rw [ntmps24]
  simp
theorem fr24_at (s : ByteArray) : gt (fr24 s) 0 = .string s := by
  unfold gt fr24
  rw [ntmps24]
  simp [Array.getElem?_append]
theorem res24 : Tryd.f24.results = #[.tmp 2, .tmp 3, .tmp 4] := by kernel_rfl
theorem results24 (a : Act) (x y z : Int) (h2 : gt a 2 = .int .i64 x) (h3 : gt a 3 = .int .i64 y) (h4 : gt a 4 = .int .i64 z) (w : World) : (results Tryd.f24 a.tmps).run Tryd.prog w = .ok (.tuple #[.int .i64 x, .int .i64 y, .int .i64 z]) w := by
  have e2 : a.tmps.getD 2 undef = .int .i64 x := h2
  have e3 : a.tmps.getD 3 undef = .int .i64 y := h3
  have e4 : a.tmps.getD 4 undef = .int .i64 z := h4
  unfold results
  rw [res24]
  simp only [Array.mapM_eq_mapM_toList, List.mapM_cons, List.mapM_nil, e2, e3, e4]
  simp [e2, e3, e4]
theorem okc_ne {c : Int} (h : okc false c = true) : c ≠ 10 := by
  rintro rfl
  cases h
theorem header_any (s : ByteArray) (w : World) (hs : s.size ≤ 2147483647) (hT : Tabs w) :
    Calls Tryd.prog 24 #[.string s] w fun e w' => ((∃ x y : Int, e = .returned (.tuple #[.int .i64 x, .int .i64 y, .int .i64 0])) ∨ (HdP (rsFrom s s.size 0) e ∧ (s.size ≤ 65536 ∧ Lib.validD s.data.toList = true) ∧ (rsFrom s s.size 0).all (okc false) = true)) ∧ Below w.heap.size w w' := by
  refine calls_of_wp (fn := Tryd.f24) (c := aZ) Tryd.func24 abody_eq ?_
  show aZ.wp Tryd.prog _ (fr24 s) w
  obtain ⟨P, hP⟩ : ∃ P : Ending → World → Prop, P = fun e w' => ((∃ x y : Int, e = .returned (.tuple #[.int .i64 x, .int .i64 y, .int .i64 0])) ∨ (HdP (rsFrom s s.size 0) e ∧ (s.size ≤ 65536 ∧ Lib.validD s.data.toList = true) ∧ (rsFrom s s.size 0).all (okc false) = true)) ∧ Below w.heap.size w w' := ⟨_, rfl⟩
  rw [← hP]
  have hret : ∀ (x y z : Int) (a' : Act) (w' : World), a'.defers = [] → gt a' 2 = .int .i64 x → gt a' 3 = .int .i64 y → gt a' 4 = .int .i64 z → P (.returned (.tuple #[.int .i64 x, .int .i64 y, .int .i64 z])) w' → bodyPost Tryd.prog Tryd.f24 P .ret a' w' := fun x y z a' w' hd h2 h3 h4 h => ⟨hd, _, results24 a' x y z h2 h3 h4 w', h⟩
  rw [aZ_eq, ← then_self (bodyPost Tryd.prog Tryd.f24 P)]
  refine wp_seq (p0 (fr24_size s) rfl (fr24_at s) fun a1 z1 d1 x0 x3 => ?_)
  refine wp_seq (p1 z1 d1 x0 x3 hs hT ?_ ?_)
  · intro a2 w2 z2 d2 y5 y6 hb2
    refine wp_seq (p2x (s := s) z2 d2 y5 y6 fun a3 d3 q2 q3 q4 => ?_)
    exact hret 0 0 0 a3 w2 d3 q2 q3 q4 (by rw [hP]; exact ⟨.inl ⟨_, _, rfl⟩, hb2⟩)
  · intro a2 w2 b cp z2 d2 y3 y5 y6 hb2 hv hcp hz
    have hlen : (rsFrom s s.size 0).length ≤ s.size := rs_len s s.size 0
    have hC : Cd w2 b cp (rsFrom s s.size 0) := ⟨hz, hcp.1, hcp.2, by omega, rs_range s _ _⟩
    generalize rsFrom s s.size 0 = zs at *
    refine wp_seq (p2 (s := s) z2 d2 y3 y5 y6 hC (fun a3 d3 q2 q3 q4 => ?_) ?_)
    · exact hret 0 0 0 a3 w2 d3 q2 q3 q4 (by rw [hP]; exact ⟨.inl ⟨_, _, rfl⟩, hb2⟩)
    · intro hall a3 z3 d3 t3 t5
      have hno : ∀ c ∈ zs, c ≠ 10 := fun c hc => okc_ne (List.all_eq_true.1 hall c hc)
      have done : ∀ e, HdP zs e → P e w2 := fun e h => by rw [hP]; exact ⟨.inr ⟨h, hv, hall⟩, hb2⟩
      refine wp_seq (p4 z3 d3 t3 t5 fun a4 z4 d4 m2 m3 m5 => ?_)
      refine wp_seq (p5 z4 d4 m2 m3 m5 fun a5 v8 hF5 => ?_)
      refine pre_any hC hF5 fun a6 ch e i hF6 hi hp hch he => ?_
      refine wp_seq (s15 hC hF6 fun a7 hF7 => ?_)
      refine wp_seq (white_loop hC hF7 hi fun a8 j hF8 hij hj hnw hws => ?_)
      have hsplit : zs.drop i = (zs.drop i).take (j - i) ++ zs.drop j := by
        conv => lhs; rw [← List.take_append_drop (j - i) (zs.drop i)]
        rw [List.drop_drop, show i + (j - i) = j by omega]
      rw [hsplit] at hp
      have hsub : ∀ c ∈ zs.drop j, c ≠ 10 := fun c hc => hno c (List.mem_of_mem_drop hc)
      by_cases hend : j = zs.length
      · refine e1 hC hF8 hend fun a9 d9 q2 q3 q4 => ?_
        refine hret _ _ _ a9 w2 d9 q2 q3 q4 (done _ (.inr (.inr ⟨ch, e, rfl, hch, he, fun tl => ?_⟩)))
        exact Hd.says hp hws (.inl (by rw [hend, List.drop_length]))
      · have hlt : j < zs.length := by omega
        have hdj := drop_at hlt
        by_cases h35 : zs.getD j 0 = 35
        · by_cases hij2 : i < j
          · rw [show decide (i < j) = true by simpa using hij2] at hF8
            refine e2 hC hF8 hlt h35 fun a9 d9 q2 q3 q4 => ?_
            refine hret _ _ _ a9 w2 d9 q2 q3 q4 (done _ (.inr (.inr ⟨ch, e, rfl, hch, he, fun tl => ?_⟩)))
            refine Hd.says hp hws (.inr ⟨zs.drop (j + 1), by rw [hdj, h35], fun x hx => hno x (List.mem_of_mem_drop hx)⟩)
          · rw [show decide (i < j) = false by simpa using hij2] at hF8
            refine e3 hC hF8 hlt h35 fun a9 d9 q2 q3 q4 => ?_
            exact hret _ _ _ a9 w2 d9 q2 q3 q4 (done _ (.inl ⟨_, _, rfl⟩))
        · have hw : ∀ tl, ∃ ch' e', Hd (zs ++ 10 :: tl) ch' e' none := fun tl => by
            have hnwj := hnw hlt
            have h10 := hsub (zs.getD j 0) (by rw [hdj]; simp)
            rw [hdj] at hp
            refine Hd.wrong hp hws ?_ ?_ h10 h35
            · intro hh; rw [hh] at hnwj; cases hnwj
            · intro hh; rw [hh] at hnwj; cases hnwj
          by_cases hij2 : i < j
          · rw [show decide (i < j) = true by simpa using hij2] at hF8
            refine e4t hC hF8 hlt h35 fun a9 d9 q2 q3 q4 => ?_
            exact hret _ _ _ a9 w2 d9 q2 q3 q4 (done _ (.inr (.inl ⟨rfl, hw⟩)))
          · rw [show decide (i < j) = false by simpa using hij2] at hF8
            refine e4f hC hF8 hlt h35 fun a9 d9 q2 q3 q4 => ?_
            exact hret _ _ _ a9 w2 d9 q2 q3 q4 (done _ (.inr (.inl ⟨rfl, hw⟩)))
end Go.Proofs.YtocbbekciphjgaaDoor.Hr
/- ScI -/
/- The law's own functions (digits, ndSpaces): the walks. -/
namespace Go.Proofs.YtocbbekciphjgaaDoor.Sc
open Go.RowKit Go.Proofs.YtocbbekciphjgaaDoor.Rdp Go.Proofs.YtocbbekciphjgaaDoor.Pa
set_option linter.unusedVariables false
set_option linter.unusedSimpArgs false
/-- The digits of a number below 100. -/
def dig (n : Nat) : List Int := if n < 10 then [48 + (n : Int)] else [48 + (n / 10 : Nat), 48 + (n % 10 : Nat)]
theorem conv_bytes (xs : List Int) (g c : Nat) (w : World) (h : ∀ i, i < xs.length → w.cell? ⟨g, i, none⟩ = some (.int .u8 (xs.getD i 0))) : (convert 22 9 (.slice (some ⟨g, 0, none⟩) xs.length c)).run Tryd.prog w = .ok (.string (strOfNums xs)) w := by
  refine run_convert_bytes_arg w 22 5 Tryd.underlying22 Tryd.underlying5 g 0 xs.length c xs rfl ?_ 9 Tryd.underlying9
  intro i hi
  rw [Nat.zero_add]
  exact h i hi
set_option maxHeartbeats 1000000 in
set_option maxRecDepth 100000 in
theorem dig1 (n : Nat) (hn : n < 10) (w : World) : Calls Tryd.prog 13 #[.int .i64 n] w fun e w' => e = .returned (.string (strOfNums (dig n))) ∧ Below w.heap.size w w' := by
  have h1 : decide ((n : Int) < 10) = true := by simp; omega
  have hd : dig n = [48 + (n : Int)] := by unfold dig; rw [if_pos hn]
  rw [hd]
  have hc := conv_bytes [48 + (n : Int)] w.heap.size 1 (w.alloc (.cells #[.int .u8 (48 + n)] 5)) (fun i hi => by
    have : i = 0 := by simp at hi; omega
    subst this
    simp)
  simp only [List.length_cons, List.length_nil] at hc
  go_enter Tryd.func13, Tryd.ntmps13
  go_wp2_with fail
  go_ret
  exact ⟨rfl, (Below.refl _ _).alloc (Nat.le_refl _) _⟩
set_option maxHeartbeats 1000000 in
set_option maxRecDepth 100000 in
theorem dig2 (a b : Nat) (ha : 1 ≤ a) (ha9 : a ≤ 9) (hb : b ≤ 9) (w : World) : Calls Tryd.prog 13 #[.int .i64 (10 * a + b : Nat)] w fun e w' => e = .returned (.string (strOfNums (dig (10 * a + b)))) ∧ Below w.heap.size w w' := by
  have h1 : decide (((10 * a + b : Nat) : Int) < 10) = false := by simp; omega
  have hd : dig (10 * a + b) = [48 + (a : Int), 48 + (b : Int)] := by
    unfold dig
    rw [if_neg (by omega), show (10 * a + b) / 10 = a by omega, show (10 * a + b) % 10 = b by omega]
  rw [hd]
  have q1 : Int.tdiv ((10 * a + b : Nat) : Int) 10 = (a : Int) := by rw [Int.tdiv_eq_ediv_of_nonneg (by omega)]; omega
  have q2 : Int.tmod ((10 * a + b : Nat) : Int) 10 = (b : Int) := by rw [Int.tmod_eq_emod_of_nonneg (by omega)]; omega
  have hc := conv_bytes [48 + (a : Int), 48 + (b : Int)] w.heap.size 2 (w.alloc (.cells #[.int .u8 (48 + a), .int .u8 (48 + b)] 5)) (fun i hi => by
    have : i = 0 ∨ i = 1 := by simp at hi; omega
    rcases this with rfl | rfl <;> simp)
  simp only [List.length_cons, List.length_nil] at hc
  obtain ⟨N, HN⟩ : ∃ N : Int, ((10 * a + b : Nat) : Int) = N := ⟨_, rfl⟩
  rw [HN] at h1 q1 q2 ⊢
  go_enter Tryd.func13, Tryd.ntmps13
  go_wp2_with fail
  go_ret
  exact ⟨rfl, (Below.refl _ _).alloc (Nat.le_refl _) _⟩
set_option maxHeartbeats 1000000 in
set_option maxRecDepth 100000 in
theorem mk_sp (n : Nat) (hn : n ≤ 1000000) (w : World) : (Instr.makeSlice 22 (.int .i64 n) (.int .i64 n)).run Tryd.prog w = .ok (.slice (some ⟨w.heap.size, 0, none⟩) n n) (w.alloc (.cells (zeros n).toArray 5)) := by
  obtain ⟨i0, hi, hz0, hz1, hz2⟩ := info_parts info5
  have h := run_make (P := Tryd.prog) w 22 5 i0 (.int .u8 0) Tryd.underlying22 hi hz0 .i64 .i64 (n : Int) (n : Int) (by omega) (by omega) (by rw [hz2]; omega) (by omega)
  rw [h, hz1, Nat.mul_one]
  have e : madeCells (Value.int .u8 0).cells n = (zeros n).toArray := by
    unfold madeCells zeros
    apply Array.ext
    · simp
    · intro i h1 h2
      simp [Value.cells, Nat.mod_one]
  simp [e]
set_option maxHeartbeats 1000000 in
set_option maxRecDepth 100000 in
theorem sp0 (w : World) : Calls Tryd.prog 14 #[.int .i64 0] w fun e w' => e = .returned (.string (strOfNums [])) ∧ Below w.heap.size w w' := by
  have hm : (Instr.makeSlice 22 (.int .i64 0) (.int .i64 0)).run Tryd.prog w = .ok (.slice (some ⟨w.heap.size, 0, none⟩) 0 0) (w.alloc (.cells #[] 5)) := mk_sp 0 (by omega) w
  have hc := conv_bytes [] w.heap.size 0 (w.alloc (.cells #[] 5)) (fun i hi => by
    simp at hi)
  simp only [List.length_nil] at hc
  go_enter Tryd.func14, Tryd.ntmps14
  go_wp2_with fail
  go_rounds 1
  go_ret
  exact ⟨rfl, (Below.refl _ _).alloc (Nat.le_refl _) _⟩
set_option maxHeartbeats 1000000 in
set_option maxRecDepth 100000 in
theorem sp1 (w : World) : Calls Tryd.prog 14 #[.int .i64 1] w fun e w' => e = .returned (.string (strOfNums [32])) ∧ Below w.heap.size w w' := by
  have hm : (Instr.makeSlice 22 (.int .i64 1) (.int .i64 1)).run Tryd.prog w = .ok (.slice (some ⟨w.heap.size, 0, none⟩) 1 1) (w.alloc (.cells #[.int .u8 0] 5)) := mk_sp 1 (by omega) w
  have hc := conv_bytes [32] w.heap.size 1 (w.alloc (.cells #[.int .u8 32] 5)) (fun i hi => by
    have : i = 0 := by simp at hi; omega
    rcases this with rfl <;> simp)
  simp only [List.length_cons, List.length_nil] at hc
  go_enter Tryd.func14, Tryd.ntmps14
  go_wp2_with fail
  go_rounds 2
  go_ret
  exact ⟨rfl, (Below.refl _ _).alloc (Nat.le_refl _) _⟩
set_option maxHeartbeats 1000000 in
set_option maxRecDepth 100000 in
theorem sp2 (w : World) : Calls Tryd.prog 14 #[.int .i64 2] w fun e w' => e = .returned (.string (strOfNums [32, 32])) ∧ Below w.heap.size w w' := by
  have hm : (Instr.makeSlice 22 (.int .i64 2) (.int .i64 2)).run Tryd.prog w = .ok (.slice (some ⟨w.heap.size, 0, none⟩) 2 2) (w.alloc (.cells #[.int .u8 0, .int .u8 0] 5)) := mk_sp 2 (by omega) w
  have hc := conv_bytes [32, 32] w.heap.size 2 (w.alloc (.cells #[.int .u8 32, .int .u8 32] 5)) (fun i hi => by
    have : i = 0 ∨ i = 1 := by simp at hi; omega
    rcases this with rfl | rfl <;> simp)
  simp only [List.length_cons, List.length_nil] at hc
  go_enter Tryd.func14, Tryd.ntmps14
  go_wp2_with fail
  go_rounds 3
  go_ret
  exact ⟨rfl, (Below.refl _ _).alloc (Nat.le_refl _) _⟩
set_option maxHeartbeats 1000000 in
set_option maxRecDepth 100000 in
theorem sp3 (w : World) : Calls Tryd.prog 14 #[.int .i64 3] w fun e w' => e = .returned (.string (strOfNums [32, 32, 32])) ∧ Below w.heap.size w w' := by
  have hm : (Instr.makeSlice 22 (.int .i64 3) (.int .i64 3)).run Tryd.prog w = .ok (.slice (some ⟨w.heap.size, 0, none⟩) 3 3) (w.alloc (.cells #[.int .u8 0, .int .u8 0, .int .u8 0] 5)) := mk_sp 3 (by omega) w
  have hc := conv_bytes [32, 32, 32] w.heap.size 3 (w.alloc (.cells #[.int .u8 32, .int .u8 32, .int .u8 32] 5)) (fun i hi => by
    have : i = 0 ∨ i = 1 ∨ i = 2 := by simp at hi; omega
    rcases this with rfl | rfl | rfl <;> simp)
  simp only [List.length_cons, List.length_nil] at hc
  go_enter Tryd.func14, Tryd.ntmps14
  go_wp2_with fail
  go_rounds 4
  go_ret
  exact ⟨rfl, (Below.refl _ _).alloc (Nat.le_refl _) _⟩
theorem spaces_any (n : Nat) (hn : n ≤ 3) (w : World) : Calls Tryd.prog 14 #[.int .i64 n] w fun e w' => e = .returned (.string (strOfNums (List.replicate n 32))) ∧ Below w.heap.size w w' := by
  have : n = 0 ∨ n = 1 ∨ n = 2 ∨ n = 3 := by omega
  rcases this with rfl | rfl | rfl | rfl
  · exact sp0 w
  · exact sp1 w
  · exact sp2 w
  · exact sp3 w
theorem digits_any (n : Nat) (hn : n < 100) (w : World) : Calls Tryd.prog 13 #[.int .i64 n] w fun e w' => e = .returned (.string (strOfNums (dig n))) ∧ Below w.heap.size w w' := by
  by_cases h : n < 10
  · exact dig1 n h w
  · have := dig2 (n / 10) (n % 10) (by omega) (by omega) (by omega) w
    rw [show 10 * (n / 10) + n % 10 = n by omega] at this
    exact this
end Go.Proofs.YtocbbekciphjgaaDoor.Sc
/- ScJ -/
/- A text as bytes in memory, and the law's texts: plain laws. -/
namespace Go.Proofs.YtocbbekciphjgaaDoor.Sc
open Go.RowKit Go.Proofs.YtocbbekciphjgaaDoor.Rdp Go.Proofs.YtocbbekciphjgaaDoor.Pa
set_option linter.unusedVariables false
set_option linter.unusedSimpArgs false
theorem str_size (xs : List Int) : (strOfNums xs).size = xs.length := by
  unfold strOfNums ByteArray.size
  simp
theorem str_append (xs ys : List Int) : strOfNums xs ++ strOfNums ys = strOfNums (xs ++ ys) := by
  apply ByteArray.ext
  rw [ByteArray.data_append]
  simp [strOfNums]
/-- A text is laid in memory. -/
theorem conv_str (xs : List Int) (h : ∀ x, x ∈ xs → 0 ≤ x ∧ x < 256) (w : World) : ∃ c w', (convert 9 22 (.string (strOfNums xs))).run Tryd.prog w = .ok (.slice (some ⟨w.heap.size, 0, none⟩) xs.length c) w' ∧ xs.length ≤ c ∧ Below w.heap.size w w' ∧ In w' (some ⟨w.heap.size, 0, none⟩) xs ∧ w'.heap.size = w.heap.size + 1 := by
  have hr := run_bytes_of_string (P := Tryd.prog) w 9 22 5 (strOfNums xs) Tryd.underlying9 Tryd.underlying22 Tryd.underlying5
  rw [str_size] at hr
  refine ⟨_, _, hr, grownCap_ge _ _ _ _, (Below.refl _ _).drew.alloc (Nat.le_refl _) _, .inr ⟨w.heap.size, 0, rfl, by simp, fun i hi => ?_⟩, by simp⟩
  have hx := h (xs.getD i 0) (by rw [List.getD_eq_getElem?_getD, List.getElem?_eq_getElem hi]; exact List.getElem_mem hi)
  have hcell : (bytesRow (strOfNums xs) (grownCap w xs.length 0 5))[i]? = some (.int .u8 (xs.getD i 0)) := by
    unfold bytesRow
    rw [Array.getElem?_append_left (by unfold strOfNums; simp; exact hi)]
    unfold strOfNums
    simp only [List.map_toArray, List.map_map, List.getElem?_toArray, List.getElem?_map, List.getElem?_eq_getElem hi, Option.map_some, Function.comp]
    rw [List.getD_eq_getElem?_getD, List.getElem?_eq_getElem hi] at hx ⊢
    simp only [Option.getD_some] at hx ⊢
    have : ((UInt8.ofNat (xs[i]).toNat).toNat : Int) = xs[i] := by
      rw [UInt8.toNat_ofNat']
      omega
    rw [this]
  rw [Nat.zero_add]
  rw [← hcell]
  generalize bytesRow (strOfNums xs) (grownCap w xs.length 0 5) = C
  generalize (C.size, C.size + 1) = fr
  have hh : (w.drew.alloc (.cells C 5 fr)).heap[w.heap.size]? = some (.cells C 5 fr) := by
    show (w.heap.push (.cells C 5 fr))[w.heap.size]? = _
    simp
  unfold World.cell?
  show (match (w.drew.alloc (.cells C 5 fr)).heap[w.heap.size]? with | some (.cells c _ _) => c[i]? | _ => none) = C[i]?
  rw [hh]
end Go.Proofs.YtocbbekciphjgaaDoor.Sc
/- QxD -/
/- Characters and strings: what a rune is as a string, what a valid text's bytes are; plain. -/
namespace Go.Proofs.YtocbbekciphjgaaDoor.Dq
open Go.RowKit Go.Proofs.YtocbbekciphjgaaDoor.Pa Go.Proofs.YtocbbekciphjgaaDoor.Sc Go.Proofs.YtocbbekciphjgaaDoor.Qd Go.Proofs.YtocbbekciphjgaaDoor.Rdp Go.Proofs.YtocbbekciphjgaaDoor.Ln
set_option linter.unusedVariables false
set_option linter.unusedSimpArgs false
/-- A character that can be written. -/
def Vr (c : Int) : Prop := 0 ≤ c ∧ c ≤ 1114111 ∧ (c < 55296 ∨ 57343 < c)
theorem vr_of_ch {c : Int} (h : Ch c) : Vr c := by
  unfold Ch at h
  unfold Vr
  omega
theorem encodeZ_u8 {c : Int} (h : Vr c) : Lib.encodeRuneZ c = u8 c := by
  obtain ⟨h0, h1, h2⟩ := h
  unfold u8
  by_cases c1 : c < 128
  · rw [Lib.encodeRuneZ_one h0 (by omega), if_pos c1]
  rw [if_neg c1]
  by_cases c2 : c < 2048
  · rw [Lib.encodeRuneZ_two (by omega) (by omega), if_pos c2]
  rw [if_neg c2]
  by_cases c3 : c < 65536
  · rw [Lib.encodeRuneZ_three (by omega), if_pos c3]
  rw [if_neg c3, Lib.encodeRuneZ_four (by omega) h1]
theorem enc_toList {c : Int} (h : Vr c) : (Utf8.encode c).data.toList = (u8 c).map fun x => UInt8.ofNat x.toNat := by
  obtain ⟨h0, h1, h2⟩ := h
  have v : Utf8.valid c = true := by simp [Utf8.valid]; omega
  unfold u8
  obtain ⟨r, rfl⟩ : ∃ r : Nat, c = (r : Int) := ⟨c.toNat, by omega⟩
  unfold Utf8.encode
  simp only [v, if_true, Int.toNat_natCast]
  by_cases c1 : r < 128
  · rw [if_pos c1, if_pos (show (r : Int) < 128 by omega)]
    rfl
  rw [if_neg c1, if_neg (show ¬ (r : Int) < 128 by omega)]
  by_cases c2 : r < 2048
  · rw [if_pos c2, if_pos (show (r : Int) < 2048 by omega)]
    show [UInt8.ofNat (192 + r / 64), UInt8.ofNat (128 + r % 64)] = [UInt8.ofNat (192 + (r : Int) / 64).toNat, UInt8.ofNat (128 + (r : Int) % 64).toNat]
    rw [show (192 + (r : Int) / 64).toNat = 192 + r / 64 by omega, show (128 + (r : Int) % 64).toNat = 128 + r % 64 by omega]
  rw [if_neg c2, if_neg (show ¬ (r : Int) < 2048 by omega)]
  by_cases c3 : r < 65536
  · rw [if_pos c3, if_pos (show (r : Int) < 65536 by omega)]
    show [UInt8.ofNat (224 + r / 4096), UInt8.ofNat (128 + r / 64 % 64), UInt8.ofNat (128 + r % 64)] = [UInt8.ofNat (224 + (r : Int) / 4096).toNat, UInt8.ofNat (128 + (r : Int) / 64 % 64).toNat, UInt8.ofNat (128 + (r : Int) % 64).toNat]
    rw [show (224 + (r : Int) / 4096).toNat = 224 + r / 4096 by omega, show (128 + (r : Int) / 64 % 64).toNat = 128 + r / 64 % 64 by omega, show (128 + (r : Int) % 64).toNat = 128 + r % 64 by omega]
  rw [if_neg c3, if_neg (show ¬ (r : Int) < 65536 by omega)]
  show [UInt8.ofNat (240 + r / 262144), UInt8.ofNat (128 + r / 4096 % 64), UInt8.ofNat (128 + r / 64 % 64), UInt8.ofNat (128 + r % 64)] = [UInt8.ofNat (240 + (r : Int) / 262144).toNat, UInt8.ofNat (128 + (r : Int) / 4096 % 64).toNat, UInt8.ofNat (128 + (r : Int) / 64 % 64).toNat, UInt8.ofNat (128 + (r : Int) % 64).toNat]
  rw [show (240 + (r : Int) / 262144).toNat = 240 + r / 262144 by omega, show (128 + (r : Int) / 4096 % 64).toNat = 128 + r / 4096 % 64 by omega, show (128 + (r : Int) / 64 % 64).toNat = 128 + r / 64 % 64 by omega, show (128 + (r : Int) % 64).toNat = 128 + r % 64 by omega]
theorem enc_u8 {c : Int} (h : Vr c) : Utf8.encode c = strOfNums (u8 c) := by
  apply ByteArray.ext
  apply Array.ext'
  rw [enc_toList h]
  rfl
theorem u8_us (c : Int) : u8 c = us [c] := by
  show _ = u8 c ++ []
  rw [List.append_nil]
theorem enc_us {c : Int} (h : Vr c) : Utf8.encode c = strOfNums (us [c]) := by rw [enc_u8 h, u8_us]
theorem us_feeds (n : Nat) : us (feeds n) = feeds n := by
  induction n with
  | zero => rfl
  | succ n ih =>
    show us (10 :: feeds n) = 10 :: feeds n
    show u8 10 ++ us (feeds n) = _
    rw [ih]
    rfl
theorem us_fold (n : Nat) : us (fold n) = fold n := by
  unfold fold
  split
  · rfl
  · exact us_feeds n
theorem feeds_length (n : Nat) : (feeds n).length = n := by
  unfold feeds
  simp
theorem fold_length (n : Nat) : (fold n).length ≤ n + 1 := by
  unfold fold
  split
  · simp
  · rw [feeds_length]
    omega
/-- An escape is a character that can be written. -/
theorem okc_ch {c : Int} (h : okc true c = true) : Ch c := by
  unfold okc ct at h
  unfold Ch
  by_cases h10 : c = 10
  · exact .inr (.inl h10)
  have e : (c == 10) = false := by simpa using h10
  rw [e] at h
  simp only [Bool.true_and, Bool.or_false] at h
  split at h
  · simp at h
    omega
  · split at h
    · simp at h
      omega
    · simp at h
      omega
/-- The bytes of a text of such characters. -/
theorem run_us {s : ByteArray} {i : Nat} {l : List Int} (h : Run s i l) : (∀ c ∈ l, Ch c) → s.data.toList.drop i = (us l).map fun x => UInt8.ofNat x.toNat := by
  induction h with
  | done =>
    intro _
    rw [List.drop_of_length_le (by simp)]
    rfl
  | step h1 h2 h3 ih =>
    rename_i i l
    intro hc
    have hl : s.data.toList.length = s.size := by simp
    have hne : s.data.toList.drop i ≠ [] := by
      intro e
      have := congrArg List.length e
      rw [List.length_drop, hl] at this
      simp at this
      omega
    have he := Lib.encode_decode (s.data.toList.drop i) hne (by rw [Lib.decodeL_drop]; exact h2)
    rw [Lib.decodeL_drop] at he
    have hv := vr_of_ch (hc _ (List.mem_cons_self ..))
    unfold Lib.encodeRune at he
    rw [show ((Utf8.decode s i).1 : Int) = Int.ofNat (Utf8.decode s i).1 from rfl, encodeZ_u8 hv] at he
    have ih' := ih (fun c h => hc c (List.mem_cons_of_mem _ h))
    rw [← List.take_append_drop (Utf8.decode s i).2 (s.data.toList.drop i), ← he, List.drop_drop, ih']
    show _ = (u8 _ ++ us l).map _
    rw [List.map_append]
theorem str_us {s : ByteArray} {l : List Int} (h : Run s 0 l) (hc : ∀ c ∈ l, Ch c) : s = strOfNums (us l) := by
  have := run_us h hc
  rw [List.drop_zero] at this
  apply ByteArray.ext
  apply Array.ext'
  rw [this]
  rfl
end Go.Proofs.YtocbbekciphjgaaDoor.Dq
/- QxN -/
/- A scalar's token of that value and style, and no fault (laws.scTold): the walk. -/
namespace Go.Proofs.YtocbbekciphjgaaDoor.Dq
open Go.RowKit Go.Proofs.YtocbbekciphjgaaDoor.Pa Go.Proofs.YtocbbekciphjgaaDoor.Sc Go.Proofs.YtocbbekciphjgaaDoor.Qd Go.Proofs.YtocbbekciphjgaaDoor.Rdp Go.Proofs.YtocbbekciphjgaaDoor.Ln
set_option linter.unusedVariables false
set_option linter.unusedSimpArgs false
set_option maxHeartbeats 4000000 in
set_option maxRecDepth 100000 in
/-- A scalar's token of that value and style, and no fault. -/
theorem told_ok (s0 s1 s2 e0 e1 e2 : Int) (sV : ByteArray) (st : Int) (w : World) :
    Calls Tryd.prog 21 #[.agg #[.int .i64 21, .int .i64 s0, .int .i64 s1, .int .i64 s2, .int .i64 e0, .int .i64 e1, .int .i64 e2, .string sV, .string ⟨#[]⟩, .string ⟨#[]⟩, .int .i64 st, .int .i64 0, .int .i64 0, .int .i64 0], .agg #[.int .i64 0, .int .i64 0, .int .i64 0, .int .i64 0, .int .i64 0, .int .i64 0, .int .i64 0, .int .i64 0, .int .i64 0], .string sV, .int .i64 st, .int .i64 2] w fun e w' => e = .returned (.bool true) ∧ Below w.heap.size w w' := by
  have t1 : (st == st) = true := by simp
  go_enter Tryd.func21, Tryd.ntmps21
  go_wp2_with fail
  go_ret
  exact ⟨rfl, ((Below.refl _ _).alloc (Nat.le_refl _) _).alloc (by simp) _⟩
theorem us_byte {l : List Int} (h : ∀ c ∈ l, Ch c) : ∀ x ∈ us l, 0 ≤ x ∧ x < 256 := by
  induction l with
  | nil => simp [us]
  | cons c l ih =>
    intro x hx
    have hx' : x ∈ u8 c ++ us l := hx
    rcases List.mem_append.1 hx' with h1 | h1
    · have := Ch.range (h c (List.mem_cons_self ..))
      exact u8_byte (by omega) x h1
    · exact ih (fun c hc => h c (List.mem_cons_of_mem _ hc)) x h1
end Go.Proofs.YtocbbekciphjgaaDoor.Dq

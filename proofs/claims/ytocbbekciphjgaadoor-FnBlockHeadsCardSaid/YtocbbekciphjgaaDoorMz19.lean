/- QdF, AnB, AnC, AnD: parts of the proof, one behind another. -/
import Derived.Test.YtocbbekciphjgaaDoorMz6
import Derived.Test.YtocbbekciphjgaaDoorMz9
import Derived.Test.YtocbbekciphjgaaDoorMz14
import Derived.Test.YtocbbekciphjgaaDoorMz18
/- QdF -/
/- Where the scanner stands in a text, in characters: what lies ready, a filling of the buffer, a character passed over. -/
namespace Go.Proofs.YtocbbekciphjgaaDoor.Qd
open Go.RowKit Go.Proofs.YtocbbekciphjgaaDoor.Rdp Go.Proofs.YtocbbekciphjgaaDoor.Pa Go.Proofs.YtocbbekciphjgaaDoor.Sc
set_option linter.unusedVariables false
set_option linter.unusedSimpArgs false
/-- Where the scanner stands: these characters are still to come, so many lie ready, in this column. -/
structure At (k : Kn) (p : Nat) (L0 : List Value) (c u col : Nat) (rest : List Int) (w : World) : Prop where
  fro : Fro k.T c rest
  ch : ∀ x ∈ rest, Ch x
  len : k.T.length ≤ 1000000
  ex : ∃ bp bl mi ml z L, Rdr k p c u bp bl L w ∧ L[24]? = some (.int .i64 (mi : Nat)) ∧ L[25]? = some (.int .i64 (ml : Nat)) ∧ L[26]? = some (.int .i64 (col : Nat)) ∧ L[19]? = some (.int .i64 z) ∧ mi ≤ c ∧ ml ≤ c ∧ col ≤ c ∧ ∀ j, rdOff j → j ≠ 19 → j ≠ 24 → j ≠ 25 → j ≠ 26 → L[j]? = L0[j]?
/-- The first byte of what is still to come; 0 at the end. -/
def fb : List Int → Int
  | [] => 0
  | c :: _ => (u8 c).headD 0
theorem fb_small {c : Int} {r : List Int} (h : c < 128) : fb (c :: r) = c := by
  show (u8 c).headD 0 = c
  rw [u8_1 h]
  rfl
theorem fb_great {c : Int} {r : List Int} (h : Ch c) (h1 : 128 ≤ c) : 194 ≤ fb (c :: r) ∧ fb (c :: r) ≤ 247 := by
  show 194 ≤ (u8 c).headD 0 ∧ (u8 c).headD 0 ≤ 247
  unfold Ch at h
  by_cases h2 : c < 2048
  · rw [u8_2 h1 h2]
    show 194 ≤ 192 + c / 64 ∧ 192 + c / 64 ≤ 247
    omega
  by_cases h3 : c < 65536
  · rw [u8_3 (by omega) h3]
    show 194 ≤ 224 + c / 4096 ∧ 224 + c / 4096 ≤ 247
    omega
  · rw [u8_4 (by omega)]
    show 194 ≤ 240 + c / 262144 ∧ 240 + c / 262144 ≤ 247
    omega
theorem fb_s {T : List Int} {c : Nat} {l : List Int} (h : Fro T c l) : S T c = fb l := by
  rw [h.s0]
  cases l with
  | nil => rfl
  | cons x r =>
    show (u8 x ++ us r).getD 0 0 = (u8 x).headD 0
    have := u8_pos x
    cases hu : u8 x with
    | nil => rw [hu] at this; simp at this
    | cons a b => rfl
/-- Behind characters of ASCII. -/
theorem fro_pre {T : List Int} : ∀ (pre tl : List Int) (c : Nat), Fro T c (pre ++ tl) → (∀ x ∈ pre, x < 128) → (∀ x ∈ pre, Ch x) → Fro T (c + pre.length) tl ∧ adv T c pre.length = c + pre.length
  | [], tl, c, h, _, _ => ⟨h, rfl⟩
  | x :: pre, tl, c, h, h1, h2 => by
    have hx := h1 x (by simp)
    have hn := Fro.nx (l := pre ++ tl) h (h2 x (by simp))
    rw [u8_1 hx] at hn
    have hf := Fro.next (l := pre ++ tl) h (h2 x (by simp))
    rw [hn] at hf
    obtain ⟨h3, h4⟩ := fro_pre pre tl _ hf (fun y hy => h1 y (by simp [hy])) (fun y hy => h2 y (by simp [hy]))
    have e : c + [x].length + pre.length = c + (x :: pre).length := by simp; omega
    rw [e] at h3 h4
    refine ⟨h3, ?_⟩
    show adv T c (pre.length + 1) = _
    rw [adv_front, hn]
    exact h4
theorem adv_lt (T : List Int) (c : Nat) {a b : Nat} (h : a < b) : adv T c a < adv T c b := by
  have h1 := adv_mono T c (a := a + 1) (b := b) (by omega)
  have h2 : adv T c (a + 1) = nx T (adv T c a) := rfl
  have := (nx_lt T (adv T c a)).1
  omega
/-- So many characters are still to come: the last of them does not lie behind the end. -/
theorem adv_in {T : List Int} : ∀ (l : List Int) (c m : Nat), Fro T c l → (∀ x ∈ l, Ch x) → m ≤ l.length → adv T c m ≤ T.length
  | l, c, 0, h, _, _ => h.2
  | [], c, m + 1, h, _, hm => by simp at hm
  | x :: l, c, m + 1, h, hc, hm => by
    rw [adv_front]
    exact adv_in l _ m (h.next (hc x (by simp))) (fun y hy => hc y (by simp [hy])) (by simpa using hm)
/-- So many lie ready as were asked for, or all that there are. -/
def Rdy (T : List Int) (c n u : Nat) : Prop := n ≤ u ∨ T.length ≤ adv T c u
theorem At.has {k : Kn} {p : Nat} {L0 : List Value} {c u col : Nat} {rest : List Int} {w : World} (h : At k p L0 c u col rest w) {n m : Nat} (hr : Rdy k.T c n u) (h1 : m ≤ n) (h2 : m ≤ rest.length) : m ≤ u := by
  rcases hr with hr | hr
  · omega
  · apply Classical.byContradiction
    intro hh
    have h3 := adv_lt k.T c (a := u) (b := m) (by omega)
    have h4 := adv_in rest c m h.fro h.ch h2
    omega
/-- What lies ready behind characters of ASCII. -/
theorem peek {k : Kn} {p c u bp bl : Nat} {L : List Value} {w : World} (h : Rdr k p c u bp bl L w) (pre tl : List Int) (hf : Fro k.T c (pre ++ tl)) (hc : ∀ x ∈ pre ++ tl, Ch x) (hp : ∀ x ∈ pre, x < 128) (hu : pre.length + 1 ≤ u) :
    ∃ y z, Okc (fb tl) y z ∧ Lays w k.q (bp + pre.length) bl (fb tl) y z := by
  obtain ⟨h1, h2⟩ := fro_pre pre tl c hf hp (fun x hx => hc x (by simp [hx]))
  have h3 := h.ready (pre.length + 1) hu
  have h4 : adv k.T c (pre.length + 1) = nx k.T (adv k.T c pre.length) := rfl
  have h5 := nx_lt k.T (c + pre.length)
  have hsm := h.small
  rw [h4, h2] at h3
  have hby := h.byte pre.length (by omega)
  rw [← fb_s h1]
  have hgood := h.ok.good
  have hb := hgood.bytes
  have ib : ∀ i, (0 : Int) ≤ S k.T i ∧ S k.T i ≤ 255 := fun i => by have := hb i; omega
  cases tl with
  | nil =>
    have hs : S k.T (c + pre.length) = 0 := fb_s h1
    rw [hs] at hby ⊢
    exact ⟨0, 0, ⟨by omega, by omega, by omega, by omega, by omega, by omega, fun _ => .inl rfl, fun h => by omega, fun h => by omega⟩, ⟨by omega, hby, fun h => by omega, fun h => by omega⟩⟩
  | cons x tl =>
    have hx := hc x (by simp)
    have hnx := h1.nx hx
    rw [hnx] at h3
    have h0 := ib (c + pre.length)
    have h01 := ib (c + pre.length + 1)
    have h02 := ib (c + pre.length + 2)
    have e1 : bp + pre.length + 1 = bp + (pre.length + 1) := by omega
    have e2 : bp + pre.length + 2 = bp + (pre.length + 2) := by omega
    refine ⟨S k.T (c + pre.length + 1), S k.T (c + pre.length + 2), ?_, ?_⟩
    · rcases h1.ok hx with ⟨g1, g2, g3, g4⟩ | ⟨g1, g2, g3, g4⟩ | ⟨g1, g2, g3, g4⟩ | ⟨g1, g2, g4⟩
      · have hx' := hx
        unfold Ch at hx'
        exact ⟨h0.1, by omega, h01.1, h01.2, h02.1, h02.2, fun _ => by omega, fun _ => by omega, fun _ => by omega⟩
      · unfold Ok2 at g2
        exact ⟨h0.1, by omega, h01.1, h01.2, h02.1, h02.2, fun _ => by omega, g3, fun _ => by omega⟩
      · unfold Ok3 at g2
        exact ⟨h0.1, by omega, h01.1, h01.2, h02.1, h02.2, fun _ => by omega, fun _ => by omega, g3⟩
      · unfold Ok4 at g2
        exact ⟨h0.1, by omega, h01.1, h01.2, h02.1, h02.2, fun _ => by omega, fun _ => by omega, fun _ => by omega⟩
    · have b1 := h.byte (pre.length + 1)
      have b2 := h.byte (pre.length + 2)
      rw [← Nat.add_assoc, ← Nat.add_assoc] at b1 b2
      rcases h1.ok hx with ⟨g1, g2, g3, g4⟩ | ⟨g1, g2, g3, g4⟩ | ⟨g1, g2, g3, g4⟩ | ⟨g1, g2, g4⟩
      · exact ⟨by omega, hby, fun h => by omega, fun h => by omega⟩
      · unfold Ok2 at g2
        exact ⟨by omega, hby, fun h => ⟨by omega, b1 (by omega)⟩, fun h => by omega⟩
      · exact ⟨by omega, hby, fun h => ⟨by omega, b1 (by omega)⟩, fun h => ⟨by omega, b2 (by omega)⟩⟩
      · exact ⟨by omega, hby, fun h => ⟨by omega, b1 (by omega)⟩, fun h => ⟨by omega, b2 (by omega)⟩⟩
theorem At.drewN {k : Kn} {p : Nat} {L0 : List Value} {c u col : Nat} {rest : List Int} {w : World} (h : At k p L0 c u col rest w) (n : Nat) : At k p L0 c u col rest (w.drewN n) := by
  obtain ⟨bp, bl, mi, ml, z, L, h1, h2⟩ := h.ex
  exact ⟨h.fro, h.ch, h.len, bp, bl, mi, ml, z, L, h1.drewN n, h2⟩
theorem At.far {k : Kn} {p : Nat} {L0 : List Value} {c u col : Nat} {rest : List Int} {w w' : World} {ps : List Nat} (h : At k p L0 c u col rest w) (hk : Kp ps w w') (hp : ∀ b ∈ ps, Far k p b) : At k p L0 c u col rest w' := by
  obtain ⟨bp, bl, mi, ml, z, L, h1, h2⟩ := h.ex
  exact ⟨h.fro, h.ch, h.len, bp, bl, mi, ml, z, L, rdr_far h1 hk hp, h2⟩
/-- What a call leaves that fills the buffer. -/
def Filled (k : Kn) (p : Nat) (L0 : List Value) (c n col : Nat) (rest : List Int) (w w' : World) : Prop := (∃ u', Rdy k.T c n u' ∧ 1 ≤ u' ∧ At k p L0 c u' col rest w') ∧ Kp (k.bs p) w w' ∧ w'.heap.size = w.heap.size
theorem At.ub {k : Kn} {p : Nat} {L0 : List Value} {c u col : Nat} {rest : List Int} {w : World} (h : At k p L0 c u col rest w) (hr : RoundOk k p) (n : Nat) (hn : 1 ≤ n) (hn8 : n ≤ 8) (hg : 2 < w.heap.size) :
    Calls Tryd.prog 101 #[.pointer (some ⟨p, 0, none⟩), .int .i64 n] w fun e w' => e = .returned (.bool true) ∧ Filled k p L0 c n col rest w w' := by
  obtain ⟨bp, bl, mi, ml, z, L, h1, h24, h25, h26, h19, m1, m2, m3, ho⟩ := h.ex
  refine (ub_any k p c u bp bl n L w hr h1 hn hn8 hg).mono ?_
  rintro e w' ⟨rfl, u', bp', bl', L', g1, g2, g3, g4, g5, g6, g7, g8⟩
  refine ⟨rfl, ⟨u', g8, g2, h.fro, h.ch, h.len, bp', bl', mi, ml, z, L', g1, ?_, ?_, ?_, ?_, m1, m2, m3, fun j j1 j2 j3 j4 j5 => (g5 j j1).trans (ho j j1 j2 j3 j4 j5)⟩, g6, g7⟩
  · exact (g5 24 (by unfold rdOff; omega)).trans h24
  · exact (g5 25 (by unfold rdOff; omega)).trans h25
  · exact (g5 26 (by unfold rdOff; omega)).trans h26
  · exact (g5 19 (by unfold rdOff; omega)).trans h19
/-- A character is passed over. -/
theorem At.skip {k : Kn} {p : Nat} {L0 : List Value} {c u col : Nat} {x : Int} {rest : List Int} {w : World} (h : At k p L0 c (u + 1) col (x :: rest) w) :
    Calls Tryd.prog 103 #[.pointer (some ⟨p, 0, none⟩)] w fun e w' => e = .returned (.tuple #[]) ∧ At k p L0 (c + (u8 x).length) u (col + 1) rest w' ∧ Kp (k.bs p) w w' ∧ w'.heap.size = w.heap.size := by
  obtain ⟨bp, bl, mi, ml, z, L, h1, h24, h25, h26, h19, m1, m2, m3, ho⟩ := h.ex
  have hlen := h.len
  have hc := h.fro.2
  have hu := rdr_u h1
  have hx := h.ch x (by simp)
  have hpos := u8_pos x
  refine (skip_any k p c u bp bl mi col z L w h1 h24 h26 h19 (by omega) (by omega) (by omega)).mono ?_
  rintro e w' ⟨rfl, ⟨⟨L', g1, g2, g3, ⟨z', g4⟩, g5⟩, g6, g7⟩⟩
  rw [h.fro.nx hx] at g1
  refine ⟨rfl, ⟨h.fro.on, fun y hy => h.ch y (by simp [hy]), h.len, _, _, mi + 1, ml, z', L', g1, g2, ?_, g3, g4, by omega, by omega, by omega, fun j j1 j2 j3 j4 j5 => ?_⟩, g6.mono (by simp; exact k.mp p), g7⟩
  · exact (g5 25 (by omega) (by omega) (by omega) (by omega) (by omega)).trans h25
  · unfold rdOff at j1
    exact (g5 j (by omega) (by omega) (by omega) (by omega) (by omega)).trans (ho j (by unfold rdOff; omega) j2 j3 j4 j5)
end Go.Proofs.YtocbbekciphjgaaDoor.Qd
/- AnB -/
/- A letter is read (read), where the slice has room: the walk. -/
namespace Go.Proofs.YtocbbekciphjgaaDoor.Sc
open Go.RowKit Go.Proofs.YtocbbekciphjgaaDoor.Rdp Go.Proofs.YtocbbekciphjgaaDoor.Pa
set_option linter.unusedVariables false
set_option linter.unusedSimpArgs false
set_option maxHeartbeats 4000000 in
set_option maxRecDepth 100000 in
theorem read_room (k : Kn) (p c u bp bl mi mc g n : Nat) (z x : Int) (L G : List Value) (w : World) (h : Rdr k p c (u + 1) bp bl L w) (h24 : L[24]? = some (.int .i64 (mi : Nat))) (h26 : L[26]? = some (.int .i64 (mc : Nat))) (h19 : L[19]? = some (.int .i64 z)) (hmi : mi ≤ 1000000000000) (hmc : mc ≤ 1000000000000) (hu : u ≤ 1000000)
    (hS : S k.T c = x) (hx0 : 33 ≤ x) (hx1 : x < 128) (hg : Bk w g 5 G) (hgl : G.length = 32) (hn0 : 1 ≤ n) (hn : n < 32) (hf : Far k p g) (v0 : Int) (hv0 : G[n]? = some (.int .u8 v0)) :
    Calls Tryd.prog 109 #[.pointer (some ⟨p, 0, none⟩), .slice (some ⟨g, 0, none⟩) n 32] w fun e w' => e = .returned (.slice (some ⟨g, 0, none⟩) (n + 1) 32) ∧ (∃ L', Rdr k p (c + 1) u (bp + 1) bl L' w' ∧ L'[24]? = some (.int .i64 (mi + 1 : Nat)) ∧ L'[26]? = some (.int .i64 (mc + 1 : Nat)) ∧ (∃ z, L'[19]? = some (.int .i64 z)) ∧ (∀ j, j ≠ 17 → j ≠ 18 → j ≠ 19 → j ≠ 24 → j ≠ 26 → L'[j]? = L[j]?)) ∧ Bk w' g 5 (G.set n (.int .u8 x)) ∧ Kp [p, g] w w' := by
  have hrd := h.ready 1 (by omega)
  have hsm := h.small
  have hge := adv_ge k.T c 1
  have hby := h.byte 0 (by omega)
  rw [Nat.add_zero, Nat.add_zero, hS] at hby
  obtain ⟨c16, f16⟩ := at_ h.pb 16 h.at16
  obtain ⟨c17, f17⟩ := at_ h.pb 17 h.at17
  obtain ⟨c18, f18⟩ := at_ h.pb 18 h.at18
  obtain ⟨c19, f19⟩ := at_ h.pb 19 h19
  obtain ⟨c24, f24⟩ := at_ h.pb 24 h24
  obtain ⟨c26, f26⟩ := at_ h.pb 26 h26
  obtain ⟨cg, fg⟩ := at_ hg n hv0
  have hb0 : isBlank x = false := by unfold isBlank; rw [Bool.or_eq_false_iff, beq_eq_false_iff_ne, beq_eq_false_iff_ne]; omega
  have hbl : ∀ N, Calls Tryd.prog 102 #[.slice (some ⟨k.q, 0, none⟩) bl 1536, .int .i64 bp] (w.drewN N) fun e w' => e = .returned (.bool false) ∧ w' = w.drewN N := fun N => by
    have := blank_any k.q bp bl 1536 x (w.drewN N) (by omega) (by omega) hby
    rw [hb0] at this
    exact this
  have hpq : ¬ p = k.q := h.ok.pq
  have hqp : ¬ k.q = p := Ne.symm h.ok.pq
  have hgp : ¬ g = p := fun e => hf.1 (by rw [e]; exact k.mp p)
  have hpg : ¬ p = g := fun e => hgp e.symm
  have hwd : ∀ W, Calls Tryd.prog 131 #[.int .u8 x] W fun e w' => e = .returned (.int .i64 1) ∧ w' = W := fun W => by
    have := Wd.wd_any x (by omega) (by omega) W
    rw [show Wd.wd x = 1 by unfold Wd.wd; rw [if_pos (by omega)]] at this
    exact this.mono fun _ _ h => ⟨h.1, h.2.symm⟩
  have HWD := Lib.hid hwd
  clear hwd
  have HBL := Lib.hid hbl
  have H := Lib.hid h
  have HG := Lib.hid hg
  have u1 : ((u + 1 : Nat) : Int) = (u : Int) + 1 := by omega
  rw [u1] at c18
  have j1 : (bp : Int) < (bl : Int) := by omega
  have j0 : (0 : Int) ≤ (bp : Int) := by omega
  have j2 : (bl : Int) ≤ 541 := by omega
  clear h hrd hbl u1 hge hb0 hg
  go_enter Tryd.func109, Tryd.ntmps109
  go_wp2_with fail
  go_quiet ((go_at_call 102; exact Calls.quiet_of_same (HBL.out _)))
  go_wp2_with fail
  obtain ⟨wb, HWB⟩ : ∃ wb : World, Hid ((w.drewN nq).setCell ⟨p, 19, none⟩ (.int .i64 0) = wb) := ⟨_, rfl⟩
  have hkb : Kp [p] w wb := by rw [← HWB.out]; exact ((Kp.refl _ _).drewN nq).setCell p 19 _ (by simp)
  have hbb : Bk wb p 120 (L.set 19 (.int .i64 0)) := by rw [← HWB.out]; exact (H.out.pb.drewN nq).set 19 _
  have hszb : wb.heap.size = w.heap.size := by rw [← HWB.out]; simp
  have hbyb : wb.cell? ⟨k.q, bp, none⟩ = some (.int .u8 x) := kp_cell hkb hby (by simp; exact hqp)
  have hgb2 : Bk wb g 5 G := HG.out.kp hkb (by simp; exact hgp)
  rw [HWB.out]
  have hrb := H.out.turn hbb (by simp only [List.length_set]; exact H.out.plen) hkb (fun j hj => lset_ne (by omega))
  have hpl := H.out.plen
  clear c16 f16 c17 f17 c18 f18 c19 f19 c24 f24 c26 f26 cg fg hby
  obtain ⟨c16, f16⟩ := at_ hrb.pb 16 hrb.at16
  obtain ⟨c17, f17⟩ := at_ hrb.pb 17 hrb.at17
  obtain ⟨c18, f18⟩ := at_ hrb.pb 18 hrb.at18
  obtain ⟨c24, f24⟩ := at_ hrb.pb 24 ((lset_ne (by omega)).trans h24)
  obtain ⟨c26, f26⟩ := at_ hrb.pb 26 ((lset_ne (by omega)).trans h26)
  obtain ⟨cg, fg⟩ := at_ hgb2 n hv0
  have u1 : ((u + 1 : Nat) : Int) = (u : Int) + 1 := by omega
  rw [u1] at c18
  have HRB := Lib.hid hrb
  have HKB := Lib.hid hkb
  have HGB := Lib.hid hgb2
  have n1 : ((n : Int) == 0) = false := by rw [beq_eq_false_iff_ne]; omega
  have n2 : decide ((n : Int) + 1 ≤ 32) = true := by simp; omega
  clear hrb hkb hgb2 hbb u1 HWB HBL HG H
  go_quiet ((go_at_call 131; exact Calls.quiet_of_same (HWD.out _)))
  go_wp2_with fail
  obtain ⟨wd, HWDD⟩ : ∃ wd : World, Hid (wb.drewN nq = wd) := ⟨_, rfl⟩
  rw [HWDD.out]
  have hr2 : Rdr k p c (u + 1) bp bl (L.set 19 (.int .i64 0)) wd := by rw [← HWDD.out]; exact HRB.out.drewN nq
  have hk2 : Kp [p] w wd := by rw [← HWDD.out]; exact HKB.out.drewN nq
  have hg2 : Bk wd g 5 G := by rw [← HWDD.out]; exact HGB.out
  have hby2 : wd.cell? ⟨k.q, bp, none⟩ = some (.int .u8 x) := by rw [← HWDD.out]; exact hbyb
  clear c16 f16 c17 f17 c18 f18 c24 f24 c26 f26 cg fg hbyb
  obtain ⟨c16, f16⟩ := at_ hr2.pb 16 hr2.at16
  obtain ⟨c17, f17⟩ := at_ hr2.pb 17 hr2.at17
  obtain ⟨c18, f18⟩ := at_ hr2.pb 18 hr2.at18
  obtain ⟨c24, f24⟩ := at_ hr2.pb 24 ((lset_ne (by omega)).trans h24)
  obtain ⟨c26, f26⟩ := at_ hr2.pb 26 ((lset_ne (by omega)).trans h26)
  obtain ⟨cg, fg⟩ := at_ hg2 n hv0
  have u1 : ((u + 1 : Nat) : Int) = (u : Int) + 1 := by omega
  rw [u1] at c18
  have HR2 := Lib.hid hr2
  have HK2 := Lib.hid hk2
  have HG2 := Lib.hid hg2
  have n3 : (n : Int) + 1 - 1 = (n : Int) := by omega
  have n4 : (n : Int) < (n : Int) + 1 := by omega
  have n5 : (n : Int) < ((n + 1 : Nat) : Int) := by omega
  have n6 : (0 : Int) ≤ (n : Int) := by omega
  have n7 : n < n + 1 := by omega
  clear hr2 hk2 hg2 u1 HWDD HRB HKB HGB
  refine wp_region_still_tail 14 (by kernel_rfl) (by kernel_rfl) ?_
  simp only [List.take_succ_cons, List.take_zero, List.drop_succ_cons, List.drop_zero]
  repeat still_step
  refine wpStill_nil ?_
  change wpList _ _ _ _ _ wd.drew
  go_wp2_with fail
  go_ret
  have hkg : Kp [g] wd (wd.setCell ⟨g, n, none⟩ (.int .u8 x)) := (Kp.refl _ _).setCell g n _ (by simp)
  have hrg := rdr_far HR2.out hkg (fun b hb => by simp at hb; subst hb; exact hf)
  have hgg := HG2.out.set n (.int .u8 x)
  generalize wd.setCell ⟨g, n, none⟩ (.int .u8 x) = wg at *
  have hb6 := (((hrg.pb.set 17 (.int .i64 ((bp : Int) + 1))).set 24 (.int .i64 ((mi : Int) + 1))).set 26 (.int .i64 ((mc : Int) + 1))).set 18 (.int .i64 (u : Int))
  have hk6 := ((((Kp.refl [p] wg).setCell p 17 (.int .i64 ((bp : Int) + 1)) (by simp)).setCell p 24 (.int .i64 ((mi : Int) + 1)) (by simp)).setCell p 26 (.int .i64 ((mc : Int) + 1)) (by simp)).setCell p 18 (.int .i64 (u : Int)) (by simp)
  have hcw : cw (S k.T c) = 1 := by rw [hS]; unfold cw; rw [if_pos hx1]
  have hst := hrg.step hb6.drew (by simp only [List.length_set]; exact hpl) hk6.drew (by rw [hcw, lset_ne (by omega), lset_ne (by omega), lset_ne (by omega), lset_at (by simp only [List.length_set]; omega)]; rfl) (by rw [lset_at (by simp only [List.length_set]; omega)]) (fun j hj => by rw [lset_ne (by omega), lset_ne (by omega), lset_ne (by omega), lset_ne (by omega)])
  rw [hcw, show nx k.T c = c + 1 by unfold nx; rw [hcw]] at hst
  refine ⟨rfl, ⟨_, hst, ?_, ?_, ⟨0, ?_⟩, fun j h1 h2 h3 h4 h5 => ?_⟩, (hgg.kp hk6 (by simp; exact hgp)).drew, ((HK2.out.mono (by simp)).trans (hkg.mono (by simp))).trans (hk6.drew.mono (by simp))⟩
  · rw [lset_ne (by omega), lset_ne (by omega), lset_at (by simp only [List.length_set]; omega)]; rfl
  · rw [lset_ne (by omega), lset_at (by simp only [List.length_set]; omega)]; rfl
  · rw [lset_ne (by omega), lset_ne (by omega), lset_ne (by omega), lset_ne (by omega), lset_at (by omega)]
  · rw [lset_ne (by omega), lset_ne (by omega), lset_ne (by omega), lset_ne (by omega), lset_ne (by omega)]
end Go.Proofs.YtocbbekciphjgaaDoor.Sc
/- AnC -/
/- The first letter is read (read, a nil slice): the walk. -/
namespace Go.Proofs.YtocbbekciphjgaaDoor.Sc
open Go.RowKit Go.Proofs.YtocbbekciphjgaaDoor.Rdp Go.Proofs.YtocbbekciphjgaaDoor.Pa
set_option linter.unusedVariables false
set_option linter.unusedSimpArgs false
set_option maxHeartbeats 4000000 in
set_option maxRecDepth 100000 in
theorem read_first (k : Kn) (p c u bp bl mi mc : Nat) (z x : Int) (L : List Value) (w : World) (h : Rdr k p c (u + 1) bp bl L w) (h24 : L[24]? = some (.int .i64 (mi : Nat))) (h26 : L[26]? = some (.int .i64 (mc : Nat))) (h19 : L[19]? = some (.int .i64 z)) (hmi : mi ≤ 1000000000000) (hmc : mc ≤ 1000000000000) (hu : u ≤ 1000000)
    (hS : S k.T c = x) (hx0 : 33 ≤ x) (hx1 : x < 128) :
    Calls Tryd.prog 109 #[.pointer (some ⟨p, 0, none⟩), .slice none 0 0] w fun e w' => ∃ g L', e = .returned (.slice (some ⟨g, 0, none⟩) 1 32) ∧ w.heap.size ≤ g ∧ Rdr k p (c + 1) u (bp + 1) bl L' w' ∧ (L'[24]? = some (.int .i64 (mi + 1 : Nat)) ∧ L'[26]? = some (.int .i64 (mc + 1 : Nat)) ∧ (∃ z, L'[19]? = some (.int .i64 z)) ∧ (∀ j, j ≠ 17 → j ≠ 18 → j ≠ 19 → j ≠ 24 → j ≠ 26 → L'[j]? = L[j]?)) ∧ Bk w' g 5 ((zeros 32).set 0 (.int .u8 x)) ∧ Kp [p] w w' := by
  have hrd := h.ready 1 (by omega)
  have hsm := h.small
  have hge := adv_ge k.T c 1
  have hby := h.byte 0 (by omega)
  rw [Nat.add_zero, Nat.add_zero, hS] at hby
  obtain ⟨c16, f16⟩ := at_ h.pb 16 h.at16
  obtain ⟨c17, f17⟩ := at_ h.pb 17 h.at17
  obtain ⟨c18, f18⟩ := at_ h.pb 18 h.at18
  obtain ⟨c19, f19⟩ := at_ h.pb 19 h19
  obtain ⟨c24, f24⟩ := at_ h.pb 24 h24
  obtain ⟨c26, f26⟩ := at_ h.pb 26 h26
  have hb0 : isBlank x = false := by unfold isBlank; rw [Bool.or_eq_false_iff, beq_eq_false_iff_ne, beq_eq_false_iff_ne]; omega
  have hbl : ∀ N, Calls Tryd.prog 102 #[.slice (some ⟨k.q, 0, none⟩) bl 1536, .int .i64 bp] (w.drewN N) fun e w' => e = .returned (.bool false) ∧ w' = w.drewN N := fun N => by
    have := blank_any k.q bp bl 1536 x (w.drewN N) (by omega) (by omega) hby
    rw [hb0] at this
    exact this
  have hfar0 : Far k p w.heap.size := by
    obtain ⟨rl, rpos, ip, eof, RL, BL, st, hl, _⟩ := h.ex
    have l3 := hl.pb.lt
    have l4 := hl.rb.lt
    have l5 := hl.qb.lt
    have l6 : 2 < w.heap.size := World.block_lt_of_cell? w ⟨2, 0, none⟩ hl.ev
    refine ⟨by unfold Kn.bs; simp; omega, by omega, fun o e => ?_⟩
    rcases hl.inp with h0 | ⟨b', o', e', h1, _⟩
    · exact h0
    · rw [e] at e'
      simp only [Option.some.injEq, Addr.mk.injEq] at e'
      omega
  have hpq : ¬ p = k.q := h.ok.pq
  have hqp : ¬ k.q = p := Ne.symm h.ok.pq
  have hmk : ∀ W : World, (Instr.makeSlice 22 (.int .i64 0) (.int .i64 32)).run Tryd.prog W = .ok (.slice (some ⟨W.heap.size, 0, none⟩) 0 32) (W.alloc (.cells (zeros 32).toArray 5)) := fun W => mk_any 32 (by omega) W
  have hwd : ∀ W, Calls Tryd.prog 131 #[.int .u8 x] W fun e w' => e = .returned (.int .i64 1) ∧ w' = W := fun W => by
    have := Wd.wd_any x (by omega) (by omega) W
    rw [show Wd.wd x = 1 by unfold Wd.wd; rw [if_pos (by omega)]] at this
    exact this.mono fun _ _ h => ⟨h.1, h.2.symm⟩
  have HWD := Lib.hid hwd
  clear hwd
  have HBL := Lib.hid hbl
  have H := Lib.hid h
  have u1 : ((u + 1 : Nat) : Int) = (u : Int) + 1 := by omega
  rw [u1] at c18
  have j1 : (bp : Int) < (bl : Int) := by omega
  have j0 : (0 : Int) ≤ (bp : Int) := by omega
  have j2 : (bl : Int) ≤ 541 := by omega
  clear h hrd hbl u1 hge hb0
  go_enter Tryd.func109, Tryd.ntmps109
  go_wp2_with fail
  go_quiet ((go_at_call 102; exact Calls.quiet_of_same (HBL.out _)))
  go_wp2_with fail
  obtain ⟨wb, HWB⟩ : ∃ wb : World, Hid ((w.drewN nq).setCell ⟨p, 19, none⟩ (.int .i64 0) = wb) := ⟨_, rfl⟩
  have hkb : Kp [p] w wb := by rw [← HWB.out]; exact ((Kp.refl _ _).drewN nq).setCell p 19 _ (by simp)
  have hbb : Bk wb p 120 (L.set 19 (.int .i64 0)) := by rw [← HWB.out]; exact (H.out.pb.drewN nq).set 19 _
  have hszb : wb.heap.size = w.heap.size := by rw [← HWB.out]; simp
  have hbyb : wb.cell? ⟨k.q, bp, none⟩ = some (.int .u8 x) := kp_cell hkb hby (by simp; exact hqp)
  rw [HWB.out]
  have hrb := H.out.turn hbb (by simp only [List.length_set]; exact H.out.plen) hkb (fun j hj => lset_ne (by omega))
  have hpl := H.out.plen
  clear c16 f16 c17 f17 c18 f18 c19 f19 c24 f24 c26 f26 hby
  obtain ⟨c16, f16⟩ := at_ hrb.pb 16 hrb.at16
  obtain ⟨c17, f17⟩ := at_ hrb.pb 17 hrb.at17
  obtain ⟨c18, f18⟩ := at_ hrb.pb 18 hrb.at18
  obtain ⟨c24, f24⟩ := at_ hrb.pb 24 ((lset_ne (by omega)).trans h24)
  obtain ⟨c26, f26⟩ := at_ hrb.pb 26 ((lset_ne (by omega)).trans h26)
  have u1 : ((u + 1 : Nat) : Int) = (u : Int) + 1 := by omega
  rw [u1] at c18
  have HRB := Lib.hid hrb
  have HKB := Lib.hid hkb
  clear hrb hkb hbb u1 HWB HBL H
  go_quiet ((go_at_call 131; exact Calls.quiet_of_same (HWD.out _)))
  go_wp2_with fail
  have hlb := HRB.out.pb.lt
  have hfar : Far k p w.heap.size := hfar0
  obtain ⟨wd, HWDD⟩ : ∃ wd : World, Hid ((wb.drewN nq).alloc (.cells (zeros 32).toArray 5) = wd) := ⟨_, rfl⟩
  rw [HWDD.out]
  have hbl0 : Below (wb.drewN nq).heap.size (wb.drewN nq) wd := by rw [← HWDD.out]; exact (Below.refl _ _).alloc (Nat.le_refl _) _
  have hr2 : Rdr k p c (u + 1) bp bl (L.set 19 (.int .i64 0)) wd := rdr_new (HRB.out.drewN nq) hbl0
  have hk2 : Kp [p] w wd := (HKB.out.drewN nq).trans (Kp.of_below hbl0)
  have hg2 : Bk wd w.heap.size 5 (zeros 32) := by
    have := Bk.new (wb.drewN nq) (zeros 32) 5
    rw [HWDD.out, show (wb.drewN nq).heap.size = w.heap.size from hszb] at this
    exact this
  have hby2 : wd.cell? ⟨k.q, bp, none⟩ = some (.int .u8 x) := kp_cell (Kp.of_below (ps := []) hbl0) (show (wb.drewN nq).cell? ⟨k.q, bp, none⟩ = _ from hbyb) (by simp)
  have hgp : ¬ w.heap.size = p := fun e => hfar.1 (by rw [e]; exact k.mp p)
  have hpg : ¬ p = w.heap.size := fun e => hgp e.symm
  clear c16 f16 c17 f17 c18 f18 c24 f24 c26 f26 hbyb
  obtain ⟨c16, f16⟩ := at_ hr2.pb 16 hr2.at16
  obtain ⟨c17, f17⟩ := at_ hr2.pb 17 hr2.at17
  obtain ⟨c18, f18⟩ := at_ hr2.pb 18 hr2.at18
  obtain ⟨c24, f24⟩ := at_ hr2.pb 24 ((lset_ne (by omega)).trans h24)
  obtain ⟨c26, f26⟩ := at_ hr2.pb 26 ((lset_ne (by omega)).trans h26)
  obtain ⟨cg, fg⟩ := at_ hg2 0 (show (zeros 32)[0]? = some (.int .u8 0) from rfl)
  have u1 : ((u + 1 : Nat) : Int) = (u : Int) + 1 := by omega
  rw [u1] at c18
  have HR2 := Lib.hid hr2
  have HK2 := Lib.hid hk2
  have HG2 := Lib.hid hg2
  clear hr2 hk2 hg2 u1 HWDD HRB HKB hbl0 hmk
  refine wp_region_still_tail 14 (by kernel_rfl) (by kernel_rfl) ?_
  simp only [List.take_succ_cons, List.take_zero, List.drop_succ_cons, List.drop_zero]
  repeat still_step
  refine wpStill_nil ?_
  change wpList _ _ _ _ _ wd.drew
  go_wp2_with fail
  go_ret
  have hkg : Kp [w.heap.size] wd (wd.setCell ⟨w.heap.size, 0, none⟩ (.int .u8 x)) := (Kp.refl _ _).setCell w.heap.size 0 _ (by simp)
  have hrg := rdr_far HR2.out hkg (fun b hb => by simp at hb; subst hb; exact hfar)
  have hgg := HG2.out.set 0 (.int .u8 x)
  generalize wd.setCell ⟨w.heap.size, 0, none⟩ (.int .u8 x) = wg at *
  have hb6 := (((hrg.pb.set 17 (.int .i64 ((bp : Int) + 1))).set 24 (.int .i64 ((mi : Int) + 1))).set 26 (.int .i64 ((mc : Int) + 1))).set 18 (.int .i64 (u : Int))
  have hk6 := ((((Kp.refl [p] wg).setCell p 17 (.int .i64 ((bp : Int) + 1)) (by simp)).setCell p 24 (.int .i64 ((mi : Int) + 1)) (by simp)).setCell p 26 (.int .i64 ((mc : Int) + 1)) (by simp)).setCell p 18 (.int .i64 (u : Int)) (by simp)
  have hcw : cw (S k.T c) = 1 := by rw [hS]; unfold cw; rw [if_pos hx1]
  have hst := hrg.step hb6.drew (by simp only [List.length_set]; exact hpl) hk6.drew (by rw [hcw, lset_ne (by omega), lset_ne (by omega), lset_ne (by omega), lset_at (by simp only [List.length_set]; omega)]; rfl) (by rw [lset_at (by simp only [List.length_set]; omega)]) (fun j hj => by rw [lset_ne (by omega), lset_ne (by omega), lset_ne (by omega), lset_ne (by omega)])
  rw [hcw, show nx k.T c = c + 1 by unfold nx; rw [hcw]] at hst
  refine ⟨w.heap.size, _, rfl, Nat.le_refl _, hst, ⟨?_, ?_, ⟨0, ?_⟩, fun j h1 h2 h3 h4 h5 => ?_⟩, (hgg.kp hk6 (by simp; exact hgp)).drew, ?_⟩
  · rw [lset_ne (by omega), lset_ne (by omega), lset_at (by simp only [List.length_set]; omega)]; rfl
  · rw [lset_ne (by omega), lset_at (by simp only [List.length_set]; omega)]; rfl
  · rw [lset_ne (by omega), lset_ne (by omega), lset_ne (by omega), lset_ne (by omega), lset_at (by omega)]
  · rw [lset_ne (by omega), lset_ne (by omega), lset_ne (by omega), lset_ne (by omega), lset_ne (by omega)]
  have hwd : Kp [p] w wg := ⟨hkg.os.trans HK2.out.os, hkg.tape.trans HK2.out.tape, hkg.output.trans HK2.out.output, Nat.le_trans HK2.out.size hkg.size, fun i h1 h2 => (hkg.block i (by have := HK2.out.size; omega) (by simp; omega)).trans (HK2.out.block i h1 h2)⟩
  exact hwd.trans hk6.drew
end Go.Proofs.YtocbbekciphjgaaDoor.Sc
/- AnD -/
/- A letter of a name is read (read), whether it is the first or another: the contract. -/
namespace Go.Proofs.YtocbbekciphjgaaDoor.Sc
open Go.RowKit Go.Proofs.YtocbbekciphjgaaDoor.Rdp Go.Proofs.YtocbbekciphjgaaDoor.Pa
set_option linter.unusedVariables false
set_option linter.unusedSimpArgs false
/-- A block that is younger than a parser has nothing to do with it. -/
theorem far_new {k : Kn} {p c u bp bl : Nat} {L : List Value} {w : World} (h : Rdr k p c u bp bl L w) {g : Nat} (hg : w.heap.size ≤ g) : Far k p g := by
  obtain ⟨rl, rpos, ip, eof, RL, BL, st, hl, _⟩ := h.ex
  have l3 := hl.pb.lt
  have l4 := hl.rb.lt
  have l5 := hl.qb.lt
  have l6 : 2 < w.heap.size := World.block_lt_of_cell? w ⟨2, 0, none⟩ hl.ev
  refine ⟨by unfold Kn.bs; simp; omega, by omega, fun o e => ?_⟩
  rcases hl.inp with h0 | ⟨b', o', e', h1, _⟩
  · exact h0
  · rw [e] at e'
    simp only [Option.some.injEq, Addr.mk.injEq] at e'
    omega
/-- What is written to blocks that are new changes nothing that was there. -/
theorem Kp.trans_new {ps qs : List Nat} {w0 w1 w2 : World} (h : Kp ps w0 w1) (h2 : Kp qs w1 w2) (hq : ∀ b ∈ qs, b ∈ ps ∨ w0.heap.size ≤ b) : Kp ps w0 w2 :=
  ⟨h2.os.trans h.os, h2.tape.trans h.tape, h2.output.trans h.output, Nat.le_trans h.size h2.size, fun i h1 h3 => (h2.block i (by have := h.size; omega) (fun hh => by rcases hq i hh with a | a; exact h3 a; omega)).trans (h.block i h1 h3)⟩
/-- A slice of the bytes from c0 on, i of them, in a block that is new; none without one. -/
def Held (T : List Int) (lo c0 i : Nat) (v : Value) (w : World) : Prop :=
  (i = 0 ∧ v = .slice none 0 0) ∨ ∃ g G, v = .slice (some ⟨g, 0, none⟩) i 32 ∧ lo ≤ g ∧ 1 ≤ i ∧ Bk w g 5 G ∧ G.length = 32 ∧ (∀ j, j < i → G[j]? = some (.int .u8 (S T (c0 + j)))) ∧ ∀ j, j < 32 → ∃ y, G[j]? = some (.int .u8 y)
theorem Held.kp {T : List Int} {lo c0 i : Nat} {v : Value} {w w' : World} {ps : List Nat} (h : Held T lo c0 i v w) (hk : Kp ps w w') (hp : ∀ b, lo ≤ b → b ∉ ps) : Held T lo c0 i v w' := by
  rcases h with h | ⟨g, G, h1, h2, h3, h4, h5, h6, h7⟩
  · exact .inl h
  · exact .inr ⟨g, G, h1, h2, h3, h4.kp hk (hp g h2), h5, h6, h7⟩
theorem zeros_at (j n : Nat) (h : j < n) : (zeros n)[j]? = some (.int .u8 0) := by unfold zeros; simp [h]
theorem read_al (k : Kn) (p c u bp bl mi mc c0 i lo : Nat) (z x : Int) (v : Value) (L : List Value) (w : World) (h : Rdr k p c (u + 1) bp bl L w) (h24 : L[24]? = some (.int .i64 (mi : Nat))) (h26 : L[26]? = some (.int .i64 (mc : Nat))) (h19 : L[19]? = some (.int .i64 z)) (hmi : mi ≤ 1000000000000) (hmc : mc ≤ 1000000000000) (hu : u ≤ 1000000)
    (hS : S k.T c = x) (hx0 : 33 ≤ x) (hx1 : x < 128) (hc : c = c0 + i) (hi : i < 31) (hv : Held k.T lo c0 i v w) (hlo : lo ≤ w.heap.size) (hfar : ∀ g, lo ≤ g → Far k p g) :
    Calls Tryd.prog 109 #[.pointer (some ⟨p, 0, none⟩), v] w fun e w' => ∃ v' L', e = .returned v' ∧ Held k.T lo c0 (i + 1) v' w' ∧ Rdr k p (c + 1) u (bp + 1) bl L' w' ∧ (L'[24]? = some (.int .i64 (mi + 1 : Nat)) ∧ L'[26]? = some (.int .i64 (mc + 1 : Nat)) ∧ (∃ z, L'[19]? = some (.int .i64 z)) ∧ (∀ j, j ≠ 17 → j ≠ 18 → j ≠ 19 → j ≠ 24 → j ≠ 26 → L'[j]? = L[j]?)) ∧ ∃ qs, Kp (p :: qs) w w' ∧ ∀ b ∈ qs, lo ≤ b := by
  rcases hv with ⟨rfl, rfl⟩ | ⟨g, G, rfl, h2, h3, h4, h5, h6, h7⟩
  · refine (read_first k p c u bp bl mi mc z x L w h h24 h26 h19 hmi hmc hu hS hx0 hx1).mono ?_
    rintro e w' ⟨g, L', rfl, hg, hr, hcs, hb, hk⟩
    refine ⟨_, L', rfl, .inr ⟨g, _, rfl, by omega, by omega, hb, by simp [zeros], fun j hj => ?_, fun j hj => ?_⟩, hr, hcs, [], hk, by simp⟩
    · obtain rfl : j = 0 := by omega
      rw [lset_at (by simp [zeros]), ← hS, hc]
    · by_cases hj0 : j = 0
      · rw [hj0, lset_at (by simp [zeros])]; exact ⟨_, rfl⟩
      · rw [lset_ne hj0, zeros_at j 32 hj]; exact ⟨_, rfl⟩
  · obtain ⟨y, hy⟩ := h7 i (by omega)
    refine (read_room k p c u bp bl mi mc g i z x L G w h h24 h26 h19 hmi hmc hu hS hx0 hx1 h4 h5 h3 (by omega) (hfar g h2) y hy).mono ?_
    rintro e w' ⟨rfl, ⟨L', hr, h241, h261, h191, ho⟩, hb, hk⟩
    refine ⟨_, L', rfl, .inr ⟨g, _, rfl, h2, by omega, hb, by simp [h5], fun j hj => ?_, fun j hj => ?_⟩, hr, ⟨h241, h261, h191, ho⟩, [g], hk, by simp [h2]⟩
    · by_cases hji : j = i
      · rw [hji, lset_at (by omega), ← hS, hc]
      · rw [lset_ne hji]; exact h6 j (by omega)
    · by_cases hji : j = i
      · rw [hji, lset_at (by omega)]; exact ⟨_, rfl⟩
      · rw [lset_ne hji]; exact h7 j hj
end Go.Proofs.YtocbbekciphjgaaDoor.Sc

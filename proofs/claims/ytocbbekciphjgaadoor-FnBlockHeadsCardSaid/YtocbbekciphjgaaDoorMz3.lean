/- PaE: parts of the proof, one behind another. -/
import Derived.Test.YtocbbekciphjgaaDoorMz2
/- PaE -/
/- The raw buffer is filled (yaml_parser_update_raw_buffer): the walk. -/
namespace Go.Proofs.YtocbbekciphjgaaDoor.Pa
open Go.RowKit
set_option linter.unusedVariables false
set_option linter.unusedSimpArgs false
/-- The error of a text's end, as the machine has it. -/
structure IsEof (E : Value) : Prop where
  form : ∃ t v, E = .iface t v
  eq : ∀ w, (binOp .eql 172 E E).run Tryd.prog w = .ok (.bool true) w
  ne : ∀ w, (binOp .eql 172 .nilIface E).run Tryd.prog w = .ok (.bool false) w
theorem nil_nil (w : World) : (binOp .neq 172 .nilIface .nilIface).run Tryd.prog w = .ok (.bool false) w := by kernel_rfl
/-- What the reading of a text leans on. -/
structure Env (p r : Nat) (A : Option Addr) (T : List Int) (ci : Nat) (L RL : List Value) (rl rpos ip : Nat) (eof : Bool) (w : World) : Prop where
  pb : Bk w p 120 L
  plen : L.length = 52
  rb : Bk w r 5 RL
  rlen : RL.length = 512
  inp : In w A T
  tlen : T.length ≤ 2147483647
  tcap : T.length ≤ ci
  at11 : L[11]? = some rdr
  at13 : L[13]? = some (.slice A T.length ci)
  at14 : L[14]? = some (.int .i64 (ip : Nat))
  at15 : L[15]? = some (.bool eof)
  at20 : L[20]? = some (.slice (some ⟨r, 0, none⟩) rl 512)
  at21 : L[21]? = some (.int .i64 (rpos : Nat))
  hip : ip ≤ T.length
  hrl : rl ≤ 512
  hrpos : rpos ≤ rl
  ne : p ≠ r
  raw : ∀ j, rpos ≤ j → j < rl → ∃ x, RL[j]? = some (.int .u8 x)
set_option maxHeartbeats 1000000 in
set_option maxRecDepth 100000 in
theorem ur_stop (p r : Nat) (A : Option Addr) (T : List Int) (ci : Nat) (L RL : List Value) (rl rpos ip : Nat) (eof : Bool) (w : World) (h : Env p r A T ci L RL rl rpos ip eof w) (hs : (rpos = 0 ∧ rl = 512) ∨ eof = true) :
    Calls Tryd.prog 100 #[.pointer (some ⟨p, 0, none⟩)] w fun e w' => e = .returned (.bool true) ∧ ∃ k, w' = w.drewN k := by
  obtain ⟨c15, _⟩ := h.pb.cell 15
  obtain ⟨c20, _⟩ := h.pb.cell 20
  obtain ⟨c21, _⟩ := h.pb.cell 21
  rw [h.at15] at c15
  rw [h.at20] at c20
  rw [h.at21] at c21
  have := h.hrl
  have := h.hrpos
  clear h
  by_cases h0 : rpos = 0
  · subst h0
    by_cases h5 : rl = 512
    · subst h5
      clear hs
      go_enter Tryd.func100, Tryd.ntmps100
      go_wp2_with fail
      go_quiet (fail)
      go_wp2_with fail
      go_ret
      exact ⟨rfl, _, rfl⟩
    · have h5b : ((rl : Int) == 512) = false := by simp; omega
      obtain rfl : eof = true := by rcases hs with h | h; (omega); exact h
      clear hs
      go_enter Tryd.func100, Tryd.ntmps100
      go_wp2_with fail
      go_quiet (fail)
      go_wp2_with fail
      go_ret
      exact ⟨rfl, _, rfl⟩
  · have h0b : ((rpos : Int) == 0) = false := by simp; omega
    obtain rfl : eof = true := by rcases hs with h | h; (omega); exact h
    clear hs
    go_enter Tryd.func100, Tryd.ntmps100
    go_wp2_with fail
    go_quiet (fail)
    go_wp2_with fail
    go_ret
    exact ⟨rfl, _, rfl⟩
/-- The raw buffer when it has been filled. -/
structure Filled (p r : Nat) (T : List Int) (L RL : List Value) (rl rpos ip : Nat) (w w' : World) : Prop where
  ex : ∃ L' RL', Bk w' p 120 L' ∧ L'.length = 52 ∧ Bk w' r 5 RL' ∧ RL'.length = 512 ∧
    L'[14]? = some (.int .i64 (ip + min (512 - (rl - rpos)) (T.length - ip) : Nat)) ∧ L'[15]? = some (.bool (decide (ip = T.length))) ∧
    L'[20]? = some (.slice (some ⟨r, 0, none⟩) (rl - rpos + min (512 - (rl - rpos)) (T.length - ip)) 512) ∧ L'[21]? = some (.int .i64 0) ∧
    (∀ j, j ≠ 14 → j ≠ 15 → j ≠ 20 → j ≠ 21 → L'[j]? = L[j]?) ∧ (∀ j, j < rl - rpos → RL'[j]? = RL[rpos + j]?) ∧
    (∀ j, j < min (512 - (rl - rpos)) (T.length - ip) → RL'[rl - rpos + j]? = some (.int .u8 (T.getD (ip + j) 0)))
  kp : Kp [p, r] w w'
  size : w'.heap.size = w.heap.size
/-- What holds in the midst of it. -/
structure St (p r : Nat) (A : Option Addr) (T : List Int) (E : Value) (L RL : List Value) (w0 w : World) : Prop where
  pb : Bk w p 120 L
  rb : Bk w r 5 RL
  kp : Kp [p, r] w0 w
  sz : w.heap.size = w0.heap.size
  ev : w.cell? ⟨2, 0, none⟩ = some E
  inp : In w A T
theorem In.kp {w w' : World} {A : Option Addr} {T : List Int} {ps : List Nat} (h : In w A T) (hk : Kp ps w w') (hp : ∀ b o, A = some ⟨b, o, none⟩ → 0 < T.length → b ∉ ps) : In w' A T := by
  rcases h with h | ⟨b, o, e, h1, h2⟩
  · exact .inl h
  by_cases h0 : T.length = 0
  · exact .inl h0
  · exact .inr ⟨b, o, e, by have := hk.size; omega, fun i hi => by rw [hk.cell (x := ⟨b, o + i, none⟩) h1 (hp b o e (by omega))]; exact h2 i hi⟩
theorem St.drewN {p r : Nat} {A : Option Addr} {T : List Int} {E : Value} {L RL : List Value} {w0 w : World} (h : St p r A T E L RL w0 w) (n : Nat) : St p r A T E L RL w0 (w.drewN n) := ⟨h.pb, h.rb, h.kp.drewN n, h.sz, h.ev, h.inp⟩
theorem St.drew {p r : Nat} {A : Option Addr} {T : List Int} {E : Value} {L RL : List Value} {w0 w : World} (h : St p r A T E L RL w0 w) : St p r A T E L RL w0 w.drew := ⟨h.pb, h.rb, h.kp.drew, h.sz, h.ev, h.inp⟩
theorem St.set {p r : Nat} {A : Option Addr} {T : List Int} {E : Value} {L RL : List Value} {w0 w : World} (h : St p r A T E L RL w0 w) (hpr : p ≠ r) (hg : 2 ≠ p) (hA : ∀ b o, A = some ⟨b, o, none⟩ → 0 < T.length → b ∉ [p, r]) (i : Nat) (v : Value) : St p r A T E (L.set i v) RL w0 (w.setCell ⟨p, i, none⟩ v) :=
  ⟨h.pb.set i v, h.rb.other p i v (Ne.symm hpr), h.kp.setCell p i v (by simp), by simpa using h.sz, (World.cell?_of_block (w := w) (a := ⟨2, 0, none⟩) (Below.heap_setCell w ⟨p, i, none⟩ v _ hg)).trans h.ev, h.inp.kp ((Kp.refl [p, r] w).setCell p i v (by simp)) hA⟩
theorem St.row {p r : Nat} {A : Option Addr} {T : List Int} {E : Value} {L RL : List Value} {w0 w : World} (h : St p r A T E L RL w0 w) (hpr : p ≠ r) (hg : 2 ≠ r) (hA : ∀ b o, A = some ⟨b, o, none⟩ → 0 < T.length → b ∉ [p, r]) (M : List Value) : St p r A T E L M w0 (w.setRow r M.toArray) :=
  ⟨(setRow_other w r p _ hpr).trans h.pb, h.rb.row M, h.kp.setRow r _ (by simp), by simp [World.setRow]; exact h.sz, by rw [World.cell?_of_block (w := w) (a := ⟨2, 0, none⟩) (setRow_other w r 2 _ hg)]; exact h.ev, h.inp.kp ((Kp.refl [p, r] w).setRow r _ (by simp)) hA⟩
theorem St.after {p r : Nat} {A : Option Addr} {T : List Int} {E : Value} {L RL L' RL' : List Value} {w0 w w' : World} (h : St p r A T E L RL w0 w) (h1 : Bk w' p 120 L') (h2 : Bk w' r 5 RL') (hk : Kp [p, r] w w') (hs : w'.heap.size = w.heap.size) (hg : 2 < w.heap.size) (hgp : 2 ∉ [p, r]) (hA : ∀ b o, A = some ⟨b, o, none⟩ → 0 < T.length → b ∉ [p, r]) : St p r A T E L' RL' w0 w' :=
  ⟨h1, h2, h.kp.trans hk, hs.trans h.sz, (hk.cell (x := ⟨2, 0, none⟩) hg hgp).trans h.ev, h.inp.kp hk hA⟩
def Sq (p r l k : Nat) (er : Value) : Nat → Value → World → Prop
  | 0, v, _ => v = .pointer (some ⟨p, 0, none⟩)
  | 1, v, _ => v = .pointer (some ⟨p, 0, none⟩)
  | 2, v, _ => v = .pointer (some ⟨p, 11, none⟩)
  | 3, v, _ => v = rdr
  | 4, v, _ => v = .pointer (some ⟨p, 0, none⟩)
  | 5, v, _ => v = .pointer (some ⟨p, 0, none⟩)
  | 6, v, _ => v = .pointer (some ⟨p, 0, none⟩)
  | 7, v, _ => v = .pointer (some ⟨p, 20, none⟩)
  | 8, v, _ => v = .slice (some ⟨r, 0, none⟩) l 512
  | 9, v, _ => v = .pointer (some ⟨p, 0, none⟩)
  | 10, v, _ => v = .pointer (some ⟨p, 0, none⟩)
  | 11, v, _ => v = .pointer (some ⟨p, 20, none⟩)
  | 12, v, _ => v = .slice (some ⟨r, 0, none⟩) l 512
  | 13, v, _ => v = .int .i64 (l : Int)
  | 14, v, _ => v = .pointer (some ⟨p, 0, none⟩)
  | 15, v, _ => v = .pointer (some ⟨p, 0, none⟩)
  | 16, v, _ => v = .pointer (some ⟨p, 20, none⟩)
  | 17, v, _ => v = .slice (some ⟨r, 0, none⟩) l 512
  | 18, v, _ => v = .int .i64 512
  | 19, v, _ => v = .slice (some ⟨r, l, none⟩) (512 - l) (512 - l)
  | 20, v, _ => v = .tuple #[.int .i64 k, er]
  | 21, v, _ => v = .tuple #[.int .i64 k, er]
  | 22, v, _ => v = .int .i64 k
  | 23, v, _ => v = er
  | 24, v, _ => v = .int .i64 k
  | 25, v, _ => v = er
  | _, _, _ => True
theorem filled_of {p r : Nat} {A : Option Addr} {T : List Int} {E : Value} {L RL L' RL' : List Value} {w0 w' : World} {rl rpos ip l k m : Nat} (hst : St p r A T E L' RL' w0 w') (hl : l = rl - rpos) (hk : k = min (512 - l) (T.length - ip)) (hm : m = l + k) (n : L'.length = 52) (rn : RL'.length = 512)
    (a14 : L'[14]? = some (.int .i64 (ip + k : Nat))) (a15 : L'[15]? = some (.bool (decide (ip = T.length)))) (a20 : L'[20]? = some (.slice (some ⟨r, 0, none⟩) m 512)) (a21 : L'[21]? = some (.int .i64 0)) (ao : ∀ j, j ≠ 14 → j ≠ 15 → j ≠ 20 → j ≠ 21 → L'[j]? = L[j]?)
    (ro : ∀ j, j < l → RL'[j]? = RL[rpos + j]?) (rs : ∀ j, j < k → RL'[l + j]? = some (.int .u8 (T.getD (ip + j) 0))) : Filled p r T L RL rl rpos ip w0 w' := by
  subst hm hk hl
  exact ⟨⟨L', RL', hst.pb, n, hst.rb, rn, a14, a15, a20, a21, ao, ro, rs⟩, hst.kp, hst.sz⟩
theorem sq_mono {p r l k : Nat} {er : Value} {i : Nat} {v : Value} {w1 w2 : World} (h : Sq p r l k er i v w1) : Sq p r l k er i v w2 := by
  unfold Sq at h ⊢
  split at h <;> exact h
set_option maxHeartbeats 8000000 in
set_option maxRecDepth 100000 in
theorem ur_read (p r : Nat) (A : Option Addr) (T : List Int) (ci : Nat) (L RL : List Value) (rl rpos ip : Nat) (E : Value) (w : World) (hE : w.cell? ⟨2, 0, none⟩ = some E) (hEof : IsEof E) (hg : 2 < w.heap.size) (hgp : 2 ∉ [p, r]) (hA : ∀ b o, A = some ⟨b, o, none⟩ → 0 < T.length → b ∉ [p, r])
    (h : Env p r A T ci L RL rl rpos ip false w) (hs : ¬ (rpos = 0 ∧ rl = 512)) :
    Calls Tryd.prog 100 #[.pointer (some ⟨p, 0, none⟩)] w fun e w' => e = .returned (.bool true) ∧ Filled p r T L RL rl rpos ip w w' := by
  obtain ⟨tE, vE, rfl⟩ := hEof.form
  have HEN := Lib.hid h
  have HEE := Lib.hid hEof
  have HA := Lib.hid hA
  have hg1 : 2 ≠ p := fun e => hgp (by simp [e])
  have hg2 : 2 ≠ r := fun e => hgp (by simp [e])
  have HG := Lib.hid hgp
  have HG1 := Lib.hid hg1
  have HG2 := Lib.hid hg2
  have HST : Hid (St p r A T (.iface tE vE) L RL w w) := ⟨h.pb, h.rb, Kp.refl _ _, rfl, hE, h.inp⟩
  have hrl := h.hrl
  have hrpos := h.hrpos
  have hip := h.hip
  have htl := h.tlen
  have HNE := Lib.hid h.ne
  obtain ⟨c15, f15⟩ := h.pb.cell 15
  obtain ⟨c20, f20⟩ := h.pb.cell 20
  obtain ⟨c21, f21⟩ := h.pb.cell 21
  rw [h.at15] at c15
  rw [h.at20] at c20
  rw [h.at21] at c21
  clear h hE hEof hA hgp hg1 hg2
  obtain ⟨l, HL⟩ : ∃ l : Nat, Hid (l = rl - rpos) := ⟨_, rfl⟩
  have hl1 : (l : Int) ≤ 512 := by have := HL.out; omega
  have hsubl : (rl : Int) - (rpos : Int) = (l : Int) := by have := HL.out; omega
  have hl3 : l ≤ 512 := by omega
  have hl4 : l < 512 := by have := HL.out; omega
  have hl5 : ¬ (512 = l) := by omega
  obtain ⟨k, HK⟩ : ∃ k : Nat, Hid (k = min (512 - l) (T.length - ip)) := ⟨_, rfl⟩
  obtain ⟨m, HM⟩ : ∃ m : Nat, Hid (m = l + k) := ⟨_, rfl⟩
  have hm1 : m ≤ 512 := by have := HK.out; have := HM.out; omega
  have hm2 : (m : Int) ≤ 512 := by omega
  have hm3 : (0 : Int) ≤ (m : Int) := by omega
  have hkl : (k : Int) ≤ 512 := by have := HK.out; omega
  have hwm : IntKind.i64.wrap ((l : Int) + (k : Int)) = (m : Int) := by rw [IntWalk.i64_in _ (by omega), HM.out]; omega
  have hwl : IntKind.i64.wrap ((rl : Int) - (rpos : Int)) = (l : Int) := by rw [IntWalk.i64_in _ (by omega)]; exact hsubl
  have hl0 : (0 : Int) ≤ (l : Int) := by omega
  clear hsubl
  have HS := Lib.hid hs
  clear hs
  have h5b : rpos = 0 → ((rl : Int) == 512) = false := by have := HS.out; intro h; simp; omega
  have H5B := Lib.hid h5b
  clear h5b
  go_enter Tryd.func100, Tryd.ntmps100
  go_wp2_with fail
  have hjoin : ∃ RL1 : List Value, ∃ w1 : World, True := ⟨RL, w, trivial⟩
  clear hjoin
  by_cases h0 : rpos = 0
  · have h0b : ((rpos : Int) == 0) = true := by simp; omega
    have h0c : decide (0 < rpos) = false := by simp; omega
    have h5b := H5B.out h0
    have HR0 : Hid (∀ j, j < l → RL[j]? = RL[rpos + j]?) := fun j _ => by rw [h0, Nat.zero_add]
    have HRL : Hid (RL.length = 512) := HEN.out.rlen
    clear h0
    go_quiet (fail)
    have HST1 := Lib.hid (HST.out.drewN nq)
    clear HST c15 f15 c20 f20 c21 f21
    generalize w.drewN nq = w1 at *
    obtain ⟨c15, f15⟩ := HST1.out.pb.cell 15
    rw [HEN.out.at15] at c15
    obtain ⟨c20, f20⟩ := HST1.out.pb.cell 20
    rw [HEN.out.at20] at c20
    obtain ⟨c21, f21⟩ := HST1.out.pb.cell 21
    rw [HEN.out.at21] at c21
    have HST := HST1
    clear HST1
    go_wp2_with fail
    go_quiet (fail)
    have HST1 := Lib.hid (HST.out.drewN nq)
    clear HST c15 f15 c20 f20 c21 f21
    generalize w1.drewN nq = w2 at *
    obtain ⟨c15, f15⟩ := HST1.out.pb.cell 15
    rw [HEN.out.at15] at c15
    obtain ⟨c20, f20⟩ := HST1.out.pb.cell 20
    rw [HEN.out.at20] at c20
    obtain ⟨c21, f21⟩ := HST1.out.pb.cell 21
    rw [HEN.out.at21] at c21
    have HST := HST1
    clear HST1
    go_wp2_with fail
    refine wp_region_still_tail 18 (by kernel_rfl) (by kernel_rfl) ?_
    simp only [List.take_succ_cons, List.take_zero, List.drop_succ_cons, List.drop_zero]
    repeat still_step
    refine wpStill_nil ?_
    change wpList _ _ _ _ _ w2.drew
    have HST1 := Lib.hid (HST.out.drew)
    clear HST c15 f15 c20 f20 c21 f21
    generalize w2.drew = w4 at *
    obtain ⟨c15, f15⟩ := HST1.out.pb.cell 15
    rw [HEN.out.at15] at c15
    obtain ⟨c20, f20⟩ := HST1.out.pb.cell 20
    rw [HEN.out.at20] at c20
    obtain ⟨c21, f21⟩ := HST1.out.pb.cell 21
    rw [HEN.out.at21] at c21
    have HST := HST1
    clear HST1
    go_wp2_with fail
    have HST1 := Lib.hid ((HST.out.set HNE.out HG1.out HA.out 20 (.slice (some ⟨r, 0, none⟩) l 512)).set HNE.out HG1.out HA.out 21 (.int .i64 0))
    have HL2 : Hid (((L.set 20 (.slice (some ⟨r, 0, none⟩) l 512)).set 21 (.int .i64 0)).length = 52) := by simp; exact HEN.out.plen
    have HO2 : Hid (∀ j, j ≠ 20 → j ≠ 21 → ((L.set 20 (.slice (some ⟨r, 0, none⟩) l 512)).set 21 (.int .i64 0))[j]? = L[j]?) := fun j h1 h2 => by rw [List.getElem?_set_ne (Ne.symm h2), List.getElem?_set_ne (Ne.symm h1)]
    have H20 : Hid (((L.set 20 (.slice (some ⟨r, 0, none⟩) l 512)).set 21 (.int .i64 0))[20]? = some (.slice (some ⟨r, 0, none⟩) l 512)) := by show _ = _; rw [List.getElem?_set_ne (by omega), List.getElem?_set_self (by have := HEN.out.plen; omega)]
    have H21 : Hid (((L.set 20 (.slice (some ⟨r, 0, none⟩) l 512)).set 21 (.int .i64 0))[21]? = some (.int .i64 0)) := by show _ = _; rw [List.getElem?_set_self (by have := HEN.out.plen; simp; omega)]
    clear HST c20 f20 c21 f21
    generalize (w4.setCell ⟨p, 20, none⟩ (.slice (some ⟨r, 0, none⟩) l 512)).setCell ⟨p, 21, none⟩ (.int .i64 0) = w5 at *
    generalize (L.set 20 (.slice (some ⟨r, 0, none⟩) l 512)).set 21 (.int .i64 0) = L2 at *
    have HST := HST1
    clear HST1
    obtain ⟨c11, _⟩ := HST.out.pb.cell 11
    rw [HO2.out 11 (by omega) (by omega), HEN.out.at11, rdr] at c11
    obtain ⟨c20, f20⟩ := HST.out.pb.cell 20
    rw [H20.out] at c20
    have hRD := rd_any p r l (512 - l) (512 - l) A ci ip k T L2 RL (.iface tE vE) w5.drew HEN.out.tlen HST.out.drew.pb HL2.out (by rw [HO2.out 13 (by omega) (by omega)]; exact HEN.out.at13) (by rw [HO2.out 14 (by omega) (by omega)]; exact HEN.out.at14) HEN.out.tcap HST.out.drew.inp HEN.out.hip HST.out.drew.rb (by have := HRL.out; omega) (by have := HRL.out; omega) HK.out HNE.out HST.out.drew.ev
    have HRD := Lib.hid hRD
    clear hRD
    refine Sp.region_specs_c (by kernel_rfl) _ (by kernel_rfl) (by kernel_rfl) (by kernel_rfl) rfl (by kernel_rfl) (Sq p r l k (if ip = T.length then (.iface tE vE) else .nilIface)) (fun L w' => (L 20 = false → w' = w5.drew) ∧ (L 20 = true → Rd p r l k ip T L2 RL w5.drew w')) (fun _ _ => True) ⟨fun _ => rfl, fun h => by cases h⟩ (fun i v w1 w2 _ h => sq_mono h) ?_ ?_
    · clear HRL HR0 HEE HS H5B
      generalize (if ip = T.length then (Value.iface tE vE) else Value.nilIface) = er at *
      intro i hi L a w1 hcl hL F hI
      have hcases : i = 0 ∨ i = 1 ∨ i = 2 ∨ i = 3 ∨ i = 4 ∨ i = 5 ∨ i = 6 ∨ i = 7 ∨ i = 8 ∨ i = 9 ∨ i = 10 ∨ i = 11 ∨ i = 12 ∨ i = 13 ∨ i = 14 ∨ i = 15 ∨ i = 16 ∨ i = 17 ∨ i = 18 ∨ i = 19 ∨ i = 20 ∨ i = 21 ∨ i = 22 ∨ i = 23 ∨ i = 24 ∨ i = 25 := by have hi' : i < 26 := hi; omega
      rcases hcases with rfl | rfl | rfl | rfl | rfl | rfl | rfl | rfl | rfl | rfl | rfl | rfl | rfl | rfl | rfl | rfl | rfl | rfl | rfl | rfl | rfl | rfl | rfl | rfl | rfl | rfl
      · have d0 : a.tmps.getD 0 undef = .pointer (some ⟨p, 0, none⟩) := F.out 0 (by kernel_rfl)
        exact Sp.sp_value rfl (Sp.wanted_none rfl) (v := .pointer (some ⟨p, 0, none⟩)) (w' := w1) (by simp [execOp, Act.eval, d0, Sp.gd d0, go_sem]) ⟨fun h => hI.1 (by simpa using h), fun h => hI.2 (by simpa using h)⟩ trivial rfl
      · have d80 : a.tmps.getD 80 undef = .pointer (some ⟨p, 0, none⟩) := F.val 0 80 (by kernel_rfl) (by rfl)
        exact Sp.sp_value rfl (Sp.wanted_none rfl) (v := .pointer (some ⟨p, 0, none⟩)) (w' := w1) (by simp [execOp, Act.eval, d80, Sp.gd d80, go_sem]) ⟨fun h => hI.1 (by simpa using h), fun h => hI.2 (by simpa using h)⟩ trivial rfl
      · have d81 : a.tmps.getD 81 undef = .pointer (some ⟨p, 0, none⟩) := F.val 1 81 (by kernel_rfl) (by rfl)
        exact Sp.sp_value rfl (Sp.wanted_none rfl) (v := .pointer (some ⟨p, 11, none⟩)) (w' := w1) (by simp [execOp, Act.eval, d81, Sp.gd d81, go_sem]) ⟨fun h => hI.1 (by simpa using h), fun h => hI.2 (by simpa using h)⟩ trivial rfl
      · have d82 : a.tmps.getD 82 undef = .pointer (some ⟨p, 11, none⟩) := F.val 2 82 (by kernel_rfl) (by rfl)
        have hl20 : L 20 = false := by cases h : L 20 with | false => rfl | true => exact (by have := hcl 20 (by decide) h 3 (by kernel_rfl); rw [hL] at this; cases this)
        have hw := hI.1 hl20
        subst hw
        exact Sp.sp_value rfl (Sp.wanted_none rfl) (v := rdr) (w' := w5.drew) (by simp [execOp, Act.eval, d82, Sp.gd d82, c11, rdr, go_sem]) ⟨fun h => hI.1 (by simpa using h), fun h => hI.2 (by simpa using h)⟩ trivial rfl
      · have d0 : a.tmps.getD 0 undef = .pointer (some ⟨p, 0, none⟩) := F.out 0 (by kernel_rfl)
        exact Sp.sp_value rfl (Sp.wanted_none rfl) (v := .pointer (some ⟨p, 0, none⟩)) (w' := w1) (by simp [execOp, Act.eval, d0, Sp.gd d0, go_sem]) ⟨fun h => hI.1 (by simpa using h), fun h => hI.2 (by simpa using h)⟩ trivial rfl
      · have d0 : a.tmps.getD 0 undef = .pointer (some ⟨p, 0, none⟩) := F.out 0 (by kernel_rfl)
        exact Sp.sp_value rfl (Sp.wanted_none rfl) (v := .pointer (some ⟨p, 0, none⟩)) (w' := w1) (by simp [execOp, Act.eval, d0, Sp.gd d0, go_sem]) ⟨fun h => hI.1 (by simpa using h), fun h => hI.2 (by simpa using h)⟩ trivial rfl
      · have d85 : a.tmps.getD 85 undef = .pointer (some ⟨p, 0, none⟩) := F.val 5 85 (by kernel_rfl) (by rfl)
        exact Sp.sp_value rfl (Sp.wanted_none rfl) (v := .pointer (some ⟨p, 0, none⟩)) (w' := w1) (by simp [execOp, Act.eval, d85, Sp.gd d85, go_sem]) ⟨fun h => hI.1 (by simpa using h), fun h => hI.2 (by simpa using h)⟩ trivial rfl
      · have d86 : a.tmps.getD 86 undef = .pointer (some ⟨p, 0, none⟩) := F.val 6 86 (by kernel_rfl) (by rfl)
        exact Sp.sp_value rfl (Sp.wanted_none rfl) (v := .pointer (some ⟨p, 20, none⟩)) (w' := w1) (by simp [execOp, Act.eval, d86, Sp.gd d86, go_sem]) ⟨fun h => hI.1 (by simpa using h), fun h => hI.2 (by simpa using h)⟩ trivial rfl
      · have d87 : a.tmps.getD 87 undef = .pointer (some ⟨p, 20, none⟩) := F.val 7 87 (by kernel_rfl) (by rfl)
        have hl20 : L 20 = false := by cases h : L 20 with | false => rfl | true => exact (by have := hcl 20 (by decide) h 8 (by kernel_rfl); rw [hL] at this; cases this)
        have hw := hI.1 hl20
        subst hw
        exact Sp.sp_value rfl (Sp.wanted_none rfl) (v := .slice (some ⟨r, 0, none⟩) l 512) (w' := w5.drew) (by simp [execOp, Act.eval, d87, Sp.gd d87, c20, go_sem]) ⟨fun h => hI.1 (by simpa using h), fun h => hI.2 (by simpa using h)⟩ trivial rfl
      · have d0 : a.tmps.getD 0 undef = .pointer (some ⟨p, 0, none⟩) := F.out 0 (by kernel_rfl)
        exact Sp.sp_value rfl (Sp.wanted_none rfl) (v := .pointer (some ⟨p, 0, none⟩)) (w' := w1) (by simp [execOp, Act.eval, d0, Sp.gd d0, go_sem]) ⟨fun h => hI.1 (by simpa using h), fun h => hI.2 (by simpa using h)⟩ trivial rfl
      · have d89 : a.tmps.getD 89 undef = .pointer (some ⟨p, 0, none⟩) := F.val 9 89 (by kernel_rfl) (by rfl)
        exact Sp.sp_value rfl (Sp.wanted_none rfl) (v := .pointer (some ⟨p, 0, none⟩)) (w' := w1) (by simp [execOp, Act.eval, d89, Sp.gd d89, go_sem]) ⟨fun h => hI.1 (by simpa using h), fun h => hI.2 (by simpa using h)⟩ trivial rfl
      · have d90 : a.tmps.getD 90 undef = .pointer (some ⟨p, 0, none⟩) := F.val 10 90 (by kernel_rfl) (by rfl)
        exact Sp.sp_value rfl (Sp.wanted_none rfl) (v := .pointer (some ⟨p, 20, none⟩)) (w' := w1) (by simp [execOp, Act.eval, d90, Sp.gd d90, go_sem]) ⟨fun h => hI.1 (by simpa using h), fun h => hI.2 (by simpa using h)⟩ trivial rfl
      · have d91 : a.tmps.getD 91 undef = .pointer (some ⟨p, 20, none⟩) := F.val 11 91 (by kernel_rfl) (by rfl)
        have hl20 : L 20 = false := by cases h : L 20 with | false => rfl | true => exact (by have := hcl 20 (by decide) h 12 (by kernel_rfl); rw [hL] at this; cases this)
        have hw := hI.1 hl20
        subst hw
        exact Sp.sp_value rfl (Sp.wanted_none rfl) (v := .slice (some ⟨r, 0, none⟩) l 512) (w' := w5.drew) (by simp [execOp, Act.eval, d91, Sp.gd d91, c20, go_sem]) ⟨fun h => hI.1 (by simpa using h), fun h => hI.2 (by simpa using h)⟩ trivial rfl
      · have d92 : a.tmps.getD 92 undef = .slice (some ⟨r, 0, none⟩) l 512 := F.val 12 92 (by kernel_rfl) (by rfl)
        exact Sp.sp_value rfl (Sp.wanted_none rfl) (v := .int .i64 (l : Int)) (w' := w1) (by simp [execOp, Act.eval, d92, Sp.gd d92, go_sem]) ⟨fun h => hI.1 (by simpa using h), fun h => hI.2 (by simpa using h)⟩ trivial rfl
      · have d0 : a.tmps.getD 0 undef = .pointer (some ⟨p, 0, none⟩) := F.out 0 (by kernel_rfl)
        exact Sp.sp_value rfl (Sp.wanted_none rfl) (v := .pointer (some ⟨p, 0, none⟩)) (w' := w1) (by simp [execOp, Act.eval, d0, Sp.gd d0, go_sem]) ⟨fun h => hI.1 (by simpa using h), fun h => hI.2 (by simpa using h)⟩ trivial rfl
      · have d94 : a.tmps.getD 94 undef = .pointer (some ⟨p, 0, none⟩) := F.val 14 94 (by kernel_rfl) (by rfl)
        exact Sp.sp_value rfl (Sp.wanted_none rfl) (v := .pointer (some ⟨p, 0, none⟩)) (w' := w1) (by simp [execOp, Act.eval, d94, Sp.gd d94, go_sem]) ⟨fun h => hI.1 (by simpa using h), fun h => hI.2 (by simpa using h)⟩ trivial rfl
      · have d95 : a.tmps.getD 95 undef = .pointer (some ⟨p, 0, none⟩) := F.val 15 95 (by kernel_rfl) (by rfl)
        exact Sp.sp_value rfl (Sp.wanted_none rfl) (v := .pointer (some ⟨p, 20, none⟩)) (w' := w1) (by simp [execOp, Act.eval, d95, Sp.gd d95, go_sem]) ⟨fun h => hI.1 (by simpa using h), fun h => hI.2 (by simpa using h)⟩ trivial rfl
      · have d96 : a.tmps.getD 96 undef = .pointer (some ⟨p, 20, none⟩) := F.val 16 96 (by kernel_rfl) (by rfl)
        have hl20 : L 20 = false := by cases h : L 20 with | false => rfl | true => exact (by have := hcl 20 (by decide) h 17 (by kernel_rfl); rw [hL] at this; cases this)
        have hw := hI.1 hl20
        subst hw
        exact Sp.sp_value rfl (Sp.wanted_none rfl) (v := .slice (some ⟨r, 0, none⟩) l 512) (w' := w5.drew) (by simp [execOp, Act.eval, d96, Sp.gd d96, c20, go_sem]) ⟨fun h => hI.1 (by simpa using h), fun h => hI.2 (by simpa using h)⟩ trivial rfl
      · have d97 : a.tmps.getD 97 undef = .slice (some ⟨r, 0, none⟩) l 512 := F.val 17 97 (by kernel_rfl) (by rfl)
        exact Sp.sp_value rfl (Sp.wanted_none rfl) (v := .int .i64 512) (w' := w1) (by simp [execOp, Act.eval, d97, Sp.gd d97, go_sem]) ⟨fun h => hI.1 (by simpa using h), fun h => hI.2 (by simpa using h)⟩ trivial rfl
      · have d88 : a.tmps.getD 88 undef = .slice (some ⟨r, 0, none⟩) l 512 := F.val 8 88 (by kernel_rfl) (by rfl)
        have d93 : a.tmps.getD 93 undef = .int .i64 (l : Int) := F.val 13 93 (by kernel_rfl) (by rfl)
        have d98 : a.tmps.getD 98 undef = .int .i64 512 := F.val 18 98 (by kernel_rfl) (by rfl)
        exact Sp.sp_value rfl (Sp.wanted_none rfl) (v := .slice (some ⟨r, l, none⟩) (512 - l) (512 - l)) (w' := w1) (by simp [execOp, Act.eval, d88, Sp.gd d88, d93, Sp.gd d93, d98, Sp.gd d98, hl5, hl3, go_sem]) ⟨fun h => hI.1 (by simpa using h), fun h => hI.2 (by simpa using h)⟩ trivial rfl
      · have d83 : a.tmps.getD 83 undef = rdr := F.val 3 83 (by kernel_rfl) (by rfl)
        have d84 : a.tmps.getD 84 undef = .pointer (some ⟨p, 0, none⟩) := F.val 4 84 (by kernel_rfl) (by rfl)
        have d99 : a.tmps.getD 99 undef = .slice (some ⟨r, l, none⟩) (512 - l) (512 - l) := F.val 19 99 (by kernel_rfl) (by rfl)
        have hw := hI.1 hL
        subst hw
        refine Sp.sp_callv Tryd.func129 (by kernel_rfl) rfl #[.pointer (some ⟨p, 0, none⟩), .slice (some ⟨r, l, none⟩) (512 - l) (512 - l)] rfl (Sp.wanted_none rfl) rfl (by simp only [Act.eval]; exact d83) (by simp only [List.map_toArray, List.map_cons, List.map_nil, Act.eval, d84, d99]) ?_
        refine HRD.out.mono ?_
        rintro e w7 ⟨rfl, hrd⟩
        exact ⟨_, rfl, ⟨fun h => by simp at h, fun _ => hrd⟩, trivial, rfl⟩
      · have d100 : a.tmps.getD 100 undef = .tuple #[.int .i64 k, er] := F.val 20 100 (by kernel_rfl) (by rfl)
        exact Sp.sp_value rfl (Sp.wanted_none rfl) (v := .tuple #[.int .i64 k, er]) (w' := w1) (by simp [execOp, Act.eval, d100, Sp.gd d100, go_sem]) ⟨fun h => hI.1 (by simpa using h), fun h => hI.2 (by simpa using h)⟩ trivial rfl
      · have d79 : a.tmps.getD 79 undef = .tuple #[.int .i64 k, er] := F.val 21 79 (by kernel_rfl) (by rfl)
        exact Sp.sp_value rfl (Sp.wanted_none rfl) (v := .int .i64 k) (w' := w1) (by simp [execOp, Act.eval, d79, Sp.gd d79, go_sem]) ⟨fun h => hI.1 (by simpa using h), fun h => hI.2 (by simpa using h)⟩ trivial rfl
      · have d79 : a.tmps.getD 79 undef = .tuple #[.int .i64 k, er] := F.val 21 79 (by kernel_rfl) (by rfl)
        exact Sp.sp_value rfl (Sp.wanted_none rfl) (v := er) (w' := w1) (by simp [execOp, Act.eval, d79, Sp.gd d79, go_sem]) ⟨fun h => hI.1 (by simpa using h), fun h => hI.2 (by simpa using h)⟩ trivial rfl
      · have d101 : a.tmps.getD 101 undef = .int .i64 k := F.val 22 101 (by kernel_rfl) (by rfl)
        exact Sp.sp_value rfl (Sp.wanted_none rfl) (v := .int .i64 k) (w' := w1) (by simp [execOp, Act.eval, d101, Sp.gd d101, go_sem]) ⟨fun h => hI.1 (by simpa using h), fun h => hI.2 (by simpa using h)⟩ trivial rfl
      · have d102 : a.tmps.getD 102 undef = er := F.val 23 102 (by kernel_rfl) (by rfl)
        exact Sp.sp_value rfl (Sp.wanted_none rfl) (v := er) (w' := w1) (by simp [execOp, Act.eval, d102, Sp.gd d102, go_sem]) ⟨fun h => hI.1 (by simpa using h), fun h => hI.2 (by simpa using h)⟩ trivial rfl
    · intro val Lk w6 hall hI hS
      have hrd := hI.2 (hall 20 (by decide))
      have h24 : val 24 = .int .i64 k := hS 24 (by decide)
      have h25 : val 25 = (if ip = T.length then (.iface tE vE) else .nilIface) := hS 25 (by decide)
      simp only [Sp.setAll, List.setIfInBounds_toArray, List.set_cons_zero, List.set_cons_succ, h24, h25]
      clear hS h24 h25 hI hall HRD c11 c20 f20
      obtain ⟨L3, RL3, b3, n3, a14, ao, rb3, rn3, ro, rs⟩ := hrd.ex
      have HST1 := Lib.hid (HST.out.drew.after b3 rb3 hrd.kp hrd.size (by rw [HST.out.drew.sz]; exact hg) HG.out HA.out)
      have H15 : Hid (L3[15]? = some (.bool false)) := (ao 15 (by omega)).trans ((HO2.out 15 (by omega) (by omega)).trans HEN.out.at15)
      have H20B : Hid (L3[20]? = some (.slice (some ⟨r, 0, none⟩) l 512)) := (ao 20 (by omega)).trans H20.out
      have H21B : Hid (L3[21]? = some (.int .i64 0)) := (ao 21 (by omega)).trans H21.out
      have A14 := Lib.hid a14
      have AO : Hid (∀ j, j ≠ 14 → j ≠ 20 → j ≠ 21 → L3[j]? = L[j]?) := fun j h1 h2 h3 => (ao j h1).trans (HO2.out j h2 h3)
      have RO : Hid (∀ j, j < l → RL3[j]? = RL[rpos + j]?) := fun j hj => (ro j hj).trans (HR0.out j hj)
      have RS := Lib.hid rs
      have N3 : Hid (L3.length = 52) := n3.trans HL2.out
      have RN3 : Hid (RL3.length = 512) := rn3.trans HRL.out
      clear HST b3 n3 a14 ao rb3 rn3 ro rs hrd HR0 HRL HO2 H20 H21 HL2
      have HST := HST1
      clear HST1
      obtain ⟨c15, f15⟩ := HST.out.pb.cell 15
      rw [H15.out] at c15
      obtain ⟨c20, f20⟩ := HST.out.pb.cell 20
      rw [H20B.out] at c20
      have cE := HST.out.ev
      by_cases hend : ip = T.length
      · rw [if_pos hend]
        have hk0 : k = 0 := by have := HK.out; omega
        have HEND := Lib.hid hend
        have HK0 := Lib.hid hk0
        have heq := HEE.out.eq
        clear hend hk0
        go_wp2_with fail
        refine wp_region_still_tail 15 (by kernel_rfl) (by kernel_rfl) ?_
        simp only [List.take_succ_cons, List.take_zero, List.drop_succ_cons, List.drop_zero]
        repeat still_step
        refine wpStill_nil ?_
        change wpList _ _ _ _ _ w6.drew
        have HST1 := Lib.hid HST.out.drew
        have c15d : w6.drew.cell? ⟨p, 15, none⟩ = some (.bool false) := c15
        have f15d : w6.drew.frozen? ⟨p, 15, none⟩ = false := f15
        have c20d : w6.drew.cell? ⟨p, 20, none⟩ = some (.slice (some ⟨r, 0, none⟩) l 512) := c20
        have f20d : w6.drew.frozen? ⟨p, 20, none⟩ = false := f20
        have cEd : w6.drew.cell? ⟨2, 0, none⟩ = some (.iface tE vE) := cE
        clear HST c15 f15 c20 f20 cE
        generalize w6.drew = w7 at *
        go_wp2_with fail
        go_ret
        have hS1 := (HST1.out.set HNE.out HG1.out HA.out 20 (.slice (some ⟨r, 0, none⟩) m 512)).set HNE.out HG1.out HA.out 15 (.bool true)
        have h52 := N3.out
        refine ⟨rfl, filled_of hS1 HL.out HK.out HM.out (by simp; exact h52) RN3.out ?_ ?_ ?_ ?_ ?_ RO.out RS.out⟩
        · rw [List.getElem?_set_ne (by omega), List.getElem?_set_ne (by omega)]; exact A14.out
        · rw [List.getElem?_set_self (by simp; omega), decide_eq_true HEND.out]
        · rw [List.getElem?_set_ne (by omega), List.getElem?_set_self (by omega)]
        · rw [List.getElem?_set_ne (by omega), List.getElem?_set_ne (by omega)]; exact H21B.out
        · intro j h1 h2 h3 h4
          rw [List.getElem?_set_ne (Ne.symm h2), List.getElem?_set_ne (Ne.symm h3)]
          exact AO.out j h1 h3 h4
      · rw [if_neg hend]
        have HEND := Lib.hid hend
        have heq := HEE.out.ne
        have hnn := nil_nil
        clear hend
        go_wp2_with fail
        refine wp_region_still_tail 15 (by kernel_rfl) (by kernel_rfl) ?_
        simp only [List.take_succ_cons, List.take_zero, List.drop_succ_cons, List.drop_zero]
        repeat still_step
        refine wpStill_nil ?_
        change wpList _ _ _ _ _ w6.drew
        have HST1 := Lib.hid HST.out.drew
        have c15d : w6.drew.cell? ⟨p, 15, none⟩ = some (.bool false) := c15
        have f15d : w6.drew.frozen? ⟨p, 15, none⟩ = false := f15
        have c20d : w6.drew.cell? ⟨p, 20, none⟩ = some (.slice (some ⟨r, 0, none⟩) l 512) := c20
        have f20d : w6.drew.frozen? ⟨p, 20, none⟩ = false := f20
        have cEd : w6.drew.cell? ⟨2, 0, none⟩ = some (.iface tE vE) := cE
        clear HST c15 f15 c20 f20 cE
        generalize w6.drew = w7 at *
        go_wp2_with fail
        go_ret
        have hS1 := HST1.out.set HNE.out HG1.out HA.out 20 (.slice (some ⟨r, 0, none⟩) m 512)
        have h52 := N3.out
        refine ⟨rfl, filled_of hS1 HL.out HK.out HM.out (by simp; exact h52) RN3.out ?_ ?_ ?_ ?_ ?_ RO.out RS.out⟩
        · rw [List.getElem?_set_ne (by omega)]; exact A14.out
        · rw [List.getElem?_set_ne (by omega), decide_eq_false HEND.out]; exact H15.out
        · rw [List.getElem?_set_self (by omega)]
        · rw [List.getElem?_set_ne (by omega)]; exact H21B.out
        · intro j h1 h2 h3 h4
          rw [List.getElem?_set_ne (Ne.symm h3)]
          exact AO.out j h1 h3 h4
  · have h0b : ((rpos : Int) == 0) = false := by simp; omega
    have h0c : decide (0 < rpos) = true := by simp; omega
    go_quiet (fail)
    have HST1 := Lib.hid (HST.out.drewN nq)
    clear HST c15 f15 c20 f20 c21 f21
    generalize w.drewN nq = w1 at *
    obtain ⟨c15, f15⟩ := HST1.out.pb.cell 15
    rw [HEN.out.at15] at c15
    obtain ⟨c20, f20⟩ := HST1.out.pb.cell 20
    rw [HEN.out.at20] at c20
    obtain ⟨c21, f21⟩ := HST1.out.pb.cell 21
    rw [HEN.out.at21] at c21
    have HST := HST1
    clear HST1
    go_wp2_with fail
    by_cases h1 : rpos < rl
    · have h1b : decide (rpos < rl) = true := by simp; omega
      have h1c : ¬ ((512 : Nat) = rpos) := by omega
      go_quiet (fail)
      have HST1 := Lib.hid (HST.out.drewN nq)
      clear HST c15 f15 c20 f20 c21 f21
      generalize w1.drewN nq = w2 at *
      obtain ⟨c15, f15⟩ := HST1.out.pb.cell 15
      rw [HEN.out.at15] at c15
      obtain ⟨c20, f20⟩ := HST1.out.pb.cell 20
      rw [HEN.out.at20] at c20
      obtain ⟨c21, f21⟩ := HST1.out.pb.cell 21
      rw [HEN.out.at21] at c21
      have HST := HST1
      clear HST1
      go_wp2_with fail
      refine wp_region_still_tail 13 (by kernel_rfl) (by kernel_rfl) ?_
      simp only [List.take_succ_cons, List.take_zero, List.drop_succ_cons, List.drop_zero]
      repeat still_step
      refine wpStill_nil ?_
      change wpList _ _ _ _ _ w2.drew
      have hcs : ((RL.drop rpos).take l).length = l := by have := HEN.out.rlen; have := HL.out; simp; omega
      refine wpList_copy_bk rfl (.tmp 47) (.tmp 56) rfl r 0 rl 512 ⟨r, rpos, none⟩ (rl - rpos) (512 - rpos) rfl rfl RL HST.out.rb.drew ((RL.drop rpos).take l) (by rw [hcs, HL.out]; exact (Nat.min_eq_left (by omega)).symm) ?_ (by have := HEN.out.rlen; omega) ?_ ?_
      · intro j v hj
        have hjk : j < l := by
          by_cases hh : j < l
          · exact hh
          · rw [List.getElem?_eq_none (by omega)] at hj; cases hj
        have e : (⟨r, rpos, none⟩ : Addr).add j = ⟨r, rpos + j, none⟩ := by
          unfold Addr.add
          split
          · rename_i h; subst h; rfl
          · rfl
        rw [e, (HST.out.rb.drew.cell (rpos + j)).1, ← hj, List.getElem?_take_of_lt hjk, List.getElem?_drop]
      · intro v hv
        obtain ⟨j, hj⟩ := List.mem_iff_getElem?.1 hv
        have hjl : j < l := by
          by_cases hh : j < l
          · exact hh
          · rw [List.getElem?_eq_none (by omega)] at hj; cases hj
        rw [List.getElem?_take_of_lt hjl, List.getElem?_drop] at hj
        obtain ⟨x, hx⟩ := HEN.out.raw (rpos + j) (by omega) (by have := HL.out; omega)
        rw [hx] at hj
        cases hj
        rfl
      have HST1 := Lib.hid (HST.out.drew.row HNE.out HG2.out HA.out (splice RL 0 ((RL.drop rpos).take l)))
      clear HST c15 f15 c20 f20 c21 f21
      generalize w2.drew.setRow r (splice RL 0 ((RL.drop rpos).take l)).toArray = w3 at *
      have HR0 : Hid (∀ j, j < l → (splice RL 0 ((RL.drop rpos).take l))[j]? = RL[rpos + j]?) := fun j hj => by
        rw [splice_at _ _ _ (by have := HEN.out.rlen; omega), if_neg (by omega), if_pos (by omega), Nat.sub_zero, List.getElem?_take_of_lt hj, List.getElem?_drop]
      have HRL : Hid ((splice RL 0 ((RL.drop rpos).take l)).length = 512) := (length_splice RL 0 _ (by have := HEN.out.rlen; omega)).trans HEN.out.rlen
      generalize splice RL 0 ((RL.drop rpos).take l) = RL1 at *
      obtain ⟨c15, f15⟩ := HST1.out.pb.cell 15
      rw [HEN.out.at15] at c15
      obtain ⟨c20, f20⟩ := HST1.out.pb.cell 20
      rw [HEN.out.at20] at c20
      obtain ⟨c21, f21⟩ := HST1.out.pb.cell 21
      rw [HEN.out.at21] at c21
      have HST := HST1
      clear HST1 hcs
      go_wp2_with fail
      refine wp_region_still_tail 18 (by kernel_rfl) (by kernel_rfl) ?_
      simp only [List.take_succ_cons, List.take_zero, List.drop_succ_cons, List.drop_zero]
      repeat still_step
      refine wpStill_nil ?_
      change wpList _ _ _ _ _ w3.drew
      have HST1 := Lib.hid (HST.out.drew)
      clear HST c15 f15 c20 f20 c21 f21
      generalize w3.drew = w4 at *
      obtain ⟨c15, f15⟩ := HST1.out.pb.cell 15
      rw [HEN.out.at15] at c15
      obtain ⟨c20, f20⟩ := HST1.out.pb.cell 20
      rw [HEN.out.at20] at c20
      obtain ⟨c21, f21⟩ := HST1.out.pb.cell 21
      rw [HEN.out.at21] at c21
      have HST := HST1
      clear HST1
      go_wp2_with fail
      have HST1 := Lib.hid ((HST.out.set HNE.out HG1.out HA.out 20 (.slice (some ⟨r, 0, none⟩) l 512)).set HNE.out HG1.out HA.out 21 (.int .i64 0))
      have HL2 : Hid (((L.set 20 (.slice (some ⟨r, 0, none⟩) l 512)).set 21 (.int .i64 0)).length = 52) := by simp; exact HEN.out.plen
      have HO2 : Hid (∀ j, j ≠ 20 → j ≠ 21 → ((L.set 20 (.slice (some ⟨r, 0, none⟩) l 512)).set 21 (.int .i64 0))[j]? = L[j]?) := fun j h1 h2 => by rw [List.getElem?_set_ne (Ne.symm h2), List.getElem?_set_ne (Ne.symm h1)]
      have H20 : Hid (((L.set 20 (.slice (some ⟨r, 0, none⟩) l 512)).set 21 (.int .i64 0))[20]? = some (.slice (some ⟨r, 0, none⟩) l 512)) := by show _ = _; rw [List.getElem?_set_ne (by omega), List.getElem?_set_self (by have := HEN.out.plen; omega)]
      have H21 : Hid (((L.set 20 (.slice (some ⟨r, 0, none⟩) l 512)).set 21 (.int .i64 0))[21]? = some (.int .i64 0)) := by show _ = _; rw [List.getElem?_set_self (by have := HEN.out.plen; simp; omega)]
      clear HST c20 f20 c21 f21
      generalize (w4.setCell ⟨p, 20, none⟩ (.slice (some ⟨r, 0, none⟩) l 512)).setCell ⟨p, 21, none⟩ (.int .i64 0) = w5 at *
      generalize (L.set 20 (.slice (some ⟨r, 0, none⟩) l 512)).set 21 (.int .i64 0) = L2 at *
      have HST := HST1
      clear HST1
      obtain ⟨c11, _⟩ := HST.out.pb.cell 11
      rw [HO2.out 11 (by omega) (by omega), HEN.out.at11, rdr] at c11
      obtain ⟨c20, f20⟩ := HST.out.pb.cell 20
      rw [H20.out] at c20
      have hRD := rd_any p r l (512 - l) (512 - l) A ci ip k T L2 RL1 (.iface tE vE) w5.drew HEN.out.tlen HST.out.drew.pb HL2.out (by rw [HO2.out 13 (by omega) (by omega)]; exact HEN.out.at13) (by rw [HO2.out 14 (by omega) (by omega)]; exact HEN.out.at14) HEN.out.tcap HST.out.drew.inp HEN.out.hip HST.out.drew.rb (by have := HRL.out; omega) (by have := HRL.out; omega) HK.out HNE.out HST.out.drew.ev
      have HRD := Lib.hid hRD
      clear hRD
      refine Sp.region_specs_c (by kernel_rfl) _ (by kernel_rfl) (by kernel_rfl) (by kernel_rfl) rfl (by kernel_rfl) (Sq p r l k (if ip = T.length then (.iface tE vE) else .nilIface)) (fun L w' => (L 20 = false → w' = w5.drew) ∧ (L 20 = true → Rd p r l k ip T L2 RL1 w5.drew w')) (fun _ _ => True) ⟨fun _ => rfl, fun h => by cases h⟩ (fun i v w1 w2 _ h => sq_mono h) ?_ ?_
      · clear HRL HR0 HEE HS H5B
        generalize (if ip = T.length then (Value.iface tE vE) else Value.nilIface) = er at *
        intro i hi L a w1 hcl hL F hI
        have hcases : i = 0 ∨ i = 1 ∨ i = 2 ∨ i = 3 ∨ i = 4 ∨ i = 5 ∨ i = 6 ∨ i = 7 ∨ i = 8 ∨ i = 9 ∨ i = 10 ∨ i = 11 ∨ i = 12 ∨ i = 13 ∨ i = 14 ∨ i = 15 ∨ i = 16 ∨ i = 17 ∨ i = 18 ∨ i = 19 ∨ i = 20 ∨ i = 21 ∨ i = 22 ∨ i = 23 ∨ i = 24 ∨ i = 25 := by have hi' : i < 26 := hi; omega
        rcases hcases with rfl | rfl | rfl | rfl | rfl | rfl | rfl | rfl | rfl | rfl | rfl | rfl | rfl | rfl | rfl | rfl | rfl | rfl | rfl | rfl | rfl | rfl | rfl | rfl | rfl | rfl
        · have d0 : a.tmps.getD 0 undef = .pointer (some ⟨p, 0, none⟩) := F.out 0 (by kernel_rfl)
          exact Sp.sp_value rfl (Sp.wanted_none rfl) (v := .pointer (some ⟨p, 0, none⟩)) (w' := w1) (by simp [execOp, Act.eval, d0, Sp.gd d0, go_sem]) ⟨fun h => hI.1 (by simpa using h), fun h => hI.2 (by simpa using h)⟩ trivial rfl
        · have d80 : a.tmps.getD 80 undef = .pointer (some ⟨p, 0, none⟩) := F.val 0 80 (by kernel_rfl) (by rfl)
          exact Sp.sp_value rfl (Sp.wanted_none rfl) (v := .pointer (some ⟨p, 0, none⟩)) (w' := w1) (by simp [execOp, Act.eval, d80, Sp.gd d80, go_sem]) ⟨fun h => hI.1 (by simpa using h), fun h => hI.2 (by simpa using h)⟩ trivial rfl
        · have d81 : a.tmps.getD 81 undef = .pointer (some ⟨p, 0, none⟩) := F.val 1 81 (by kernel_rfl) (by rfl)
          exact Sp.sp_value rfl (Sp.wanted_none rfl) (v := .pointer (some ⟨p, 11, none⟩)) (w' := w1) (by simp [execOp, Act.eval, d81, Sp.gd d81, go_sem]) ⟨fun h => hI.1 (by simpa using h), fun h => hI.2 (by simpa using h)⟩ trivial rfl
        · have d82 : a.tmps.getD 82 undef = .pointer (some ⟨p, 11, none⟩) := F.val 2 82 (by kernel_rfl) (by rfl)
          have hl20 : L 20 = false := by cases h : L 20 with | false => rfl | true => exact (by have := hcl 20 (by decide) h 3 (by kernel_rfl); rw [hL] at this; cases this)
          have hw := hI.1 hl20
          subst hw
          exact Sp.sp_value rfl (Sp.wanted_none rfl) (v := rdr) (w' := w5.drew) (by simp [execOp, Act.eval, d82, Sp.gd d82, c11, rdr, go_sem]) ⟨fun h => hI.1 (by simpa using h), fun h => hI.2 (by simpa using h)⟩ trivial rfl
        · have d0 : a.tmps.getD 0 undef = .pointer (some ⟨p, 0, none⟩) := F.out 0 (by kernel_rfl)
          exact Sp.sp_value rfl (Sp.wanted_none rfl) (v := .pointer (some ⟨p, 0, none⟩)) (w' := w1) (by simp [execOp, Act.eval, d0, Sp.gd d0, go_sem]) ⟨fun h => hI.1 (by simpa using h), fun h => hI.2 (by simpa using h)⟩ trivial rfl
        · have d0 : a.tmps.getD 0 undef = .pointer (some ⟨p, 0, none⟩) := F.out 0 (by kernel_rfl)
          exact Sp.sp_value rfl (Sp.wanted_none rfl) (v := .pointer (some ⟨p, 0, none⟩)) (w' := w1) (by simp [execOp, Act.eval, d0, Sp.gd d0, go_sem]) ⟨fun h => hI.1 (by simpa using h), fun h => hI.2 (by simpa using h)⟩ trivial rfl
        · have d85 : a.tmps.getD 85 undef = .pointer (some ⟨p, 0, none⟩) := F.val 5 85 (by kernel_rfl) (by rfl)
          exact Sp.sp_value rfl (Sp.wanted_none rfl) (v := .pointer (some ⟨p, 0, none⟩)) (w' := w1) (by simp [execOp, Act.eval, d85, Sp.gd d85, go_sem]) ⟨fun h => hI.1 (by simpa using h), fun h => hI.2 (by simpa using h)⟩ trivial rfl
        · have d86 : a.tmps.getD 86 undef = .pointer (some ⟨p, 0, none⟩) := F.val 6 86 (by kernel_rfl) (by rfl)
          exact Sp.sp_value rfl (Sp.wanted_none rfl) (v := .pointer (some ⟨p, 20, none⟩)) (w' := w1) (by simp [execOp, Act.eval, d86, Sp.gd d86, go_sem]) ⟨fun h => hI.1 (by simpa using h), fun h => hI.2 (by simpa using h)⟩ trivial rfl
        · have d87 : a.tmps.getD 87 undef = .pointer (some ⟨p, 20, none⟩) := F.val 7 87 (by kernel_rfl) (by rfl)
          have hl20 : L 20 = false := by cases h : L 20 with | false => rfl | true => exact (by have := hcl 20 (by decide) h 8 (by kernel_rfl); rw [hL] at this; cases this)
          have hw := hI.1 hl20
          subst hw
          exact Sp.sp_value rfl (Sp.wanted_none rfl) (v := .slice (some ⟨r, 0, none⟩) l 512) (w' := w5.drew) (by simp [execOp, Act.eval, d87, Sp.gd d87, c20, go_sem]) ⟨fun h => hI.1 (by simpa using h), fun h => hI.2 (by simpa using h)⟩ trivial rfl
        · have d0 : a.tmps.getD 0 undef = .pointer (some ⟨p, 0, none⟩) := F.out 0 (by kernel_rfl)
          exact Sp.sp_value rfl (Sp.wanted_none rfl) (v := .pointer (some ⟨p, 0, none⟩)) (w' := w1) (by simp [execOp, Act.eval, d0, Sp.gd d0, go_sem]) ⟨fun h => hI.1 (by simpa using h), fun h => hI.2 (by simpa using h)⟩ trivial rfl
        · have d89 : a.tmps.getD 89 undef = .pointer (some ⟨p, 0, none⟩) := F.val 9 89 (by kernel_rfl) (by rfl)
          exact Sp.sp_value rfl (Sp.wanted_none rfl) (v := .pointer (some ⟨p, 0, none⟩)) (w' := w1) (by simp [execOp, Act.eval, d89, Sp.gd d89, go_sem]) ⟨fun h => hI.1 (by simpa using h), fun h => hI.2 (by simpa using h)⟩ trivial rfl
        · have d90 : a.tmps.getD 90 undef = .pointer (some ⟨p, 0, none⟩) := F.val 10 90 (by kernel_rfl) (by rfl)
          exact Sp.sp_value rfl (Sp.wanted_none rfl) (v := .pointer (some ⟨p, 20, none⟩)) (w' := w1) (by simp [execOp, Act.eval, d90, Sp.gd d90, go_sem]) ⟨fun h => hI.1 (by simpa using h), fun h => hI.2 (by simpa using h)⟩ trivial rfl
        · have d91 : a.tmps.getD 91 undef = .pointer (some ⟨p, 20, none⟩) := F.val 11 91 (by kernel_rfl) (by rfl)
          have hl20 : L 20 = false := by cases h : L 20 with | false => rfl | true => exact (by have := hcl 20 (by decide) h 12 (by kernel_rfl); rw [hL] at this; cases this)
          have hw := hI.1 hl20
          subst hw
          exact Sp.sp_value rfl (Sp.wanted_none rfl) (v := .slice (some ⟨r, 0, none⟩) l 512) (w' := w5.drew) (by simp [execOp, Act.eval, d91, Sp.gd d91, c20, go_sem]) ⟨fun h => hI.1 (by simpa using h), fun h => hI.2 (by simpa using h)⟩ trivial rfl
        · have d92 : a.tmps.getD 92 undef = .slice (some ⟨r, 0, none⟩) l 512 := F.val 12 92 (by kernel_rfl) (by rfl)
          exact Sp.sp_value rfl (Sp.wanted_none rfl) (v := .int .i64 (l : Int)) (w' := w1) (by simp [execOp, Act.eval, d92, Sp.gd d92, go_sem]) ⟨fun h => hI.1 (by simpa using h), fun h => hI.2 (by simpa using h)⟩ trivial rfl
        · have d0 : a.tmps.getD 0 undef = .pointer (some ⟨p, 0, none⟩) := F.out 0 (by kernel_rfl)
          exact Sp.sp_value rfl (Sp.wanted_none rfl) (v := .pointer (some ⟨p, 0, none⟩)) (w' := w1) (by simp [execOp, Act.eval, d0, Sp.gd d0, go_sem]) ⟨fun h => hI.1 (by simpa using h), fun h => hI.2 (by simpa using h)⟩ trivial rfl
        · have d94 : a.tmps.getD 94 undef = .pointer (some ⟨p, 0, none⟩) := F.val 14 94 (by kernel_rfl) (by rfl)
          exact Sp.sp_value rfl (Sp.wanted_none rfl) (v := .pointer (some ⟨p, 0, none⟩)) (w' := w1) (by simp [execOp, Act.eval, d94, Sp.gd d94, go_sem]) ⟨fun h => hI.1 (by simpa using h), fun h => hI.2 (by simpa using h)⟩ trivial rfl
        · have d95 : a.tmps.getD 95 undef = .pointer (some ⟨p, 0, none⟩) := F.val 15 95 (by kernel_rfl) (by rfl)
          exact Sp.sp_value rfl (Sp.wanted_none rfl) (v := .pointer (some ⟨p, 20, none⟩)) (w' := w1) (by simp [execOp, Act.eval, d95, Sp.gd d95, go_sem]) ⟨fun h => hI.1 (by simpa using h), fun h => hI.2 (by simpa using h)⟩ trivial rfl
        · have d96 : a.tmps.getD 96 undef = .pointer (some ⟨p, 20, none⟩) := F.val 16 96 (by kernel_rfl) (by rfl)
          have hl20 : L 20 = false := by cases h : L 20 with | false => rfl | true => exact (by have := hcl 20 (by decide) h 17 (by kernel_rfl); rw [hL] at this; cases this)
          have hw := hI.1 hl20
          subst hw
          exact Sp.sp_value rfl (Sp.wanted_none rfl) (v := .slice (some ⟨r, 0, none⟩) l 512) (w' := w5.drew) (by simp [execOp, Act.eval, d96, Sp.gd d96, c20, go_sem]) ⟨fun h => hI.1 (by simpa using h), fun h => hI.2 (by simpa using h)⟩ trivial rfl
        · have d97 : a.tmps.getD 97 undef = .slice (some ⟨r, 0, none⟩) l 512 := F.val 17 97 (by kernel_rfl) (by rfl)
          exact Sp.sp_value rfl (Sp.wanted_none rfl) (v := .int .i64 512) (w' := w1) (by simp [execOp, Act.eval, d97, Sp.gd d97, go_sem]) ⟨fun h => hI.1 (by simpa using h), fun h => hI.2 (by simpa using h)⟩ trivial rfl
        · have d88 : a.tmps.getD 88 undef = .slice (some ⟨r, 0, none⟩) l 512 := F.val 8 88 (by kernel_rfl) (by rfl)
          have d93 : a.tmps.getD 93 undef = .int .i64 (l : Int) := F.val 13 93 (by kernel_rfl) (by rfl)
          have d98 : a.tmps.getD 98 undef = .int .i64 512 := F.val 18 98 (by kernel_rfl) (by rfl)
          exact Sp.sp_value rfl (Sp.wanted_none rfl) (v := .slice (some ⟨r, l, none⟩) (512 - l) (512 - l)) (w' := w1) (by simp [execOp, Act.eval, d88, Sp.gd d88, d93, Sp.gd d93, d98, Sp.gd d98, hl5, hl3, go_sem]) ⟨fun h => hI.1 (by simpa using h), fun h => hI.2 (by simpa using h)⟩ trivial rfl
        · have d83 : a.tmps.getD 83 undef = rdr := F.val 3 83 (by kernel_rfl) (by rfl)
          have d84 : a.tmps.getD 84 undef = .pointer (some ⟨p, 0, none⟩) := F.val 4 84 (by kernel_rfl) (by rfl)
          have d99 : a.tmps.getD 99 undef = .slice (some ⟨r, l, none⟩) (512 - l) (512 - l) := F.val 19 99 (by kernel_rfl) (by rfl)
          have hw := hI.1 hL
          subst hw
          refine Sp.sp_callv Tryd.func129 (by kernel_rfl) rfl #[.pointer (some ⟨p, 0, none⟩), .slice (some ⟨r, l, none⟩) (512 - l) (512 - l)] rfl (Sp.wanted_none rfl) rfl (by simp only [Act.eval]; exact d83) (by simp only [List.map_toArray, List.map_cons, List.map_nil, Act.eval, d84, d99]) ?_
          refine HRD.out.mono ?_
          rintro e w7 ⟨rfl, hrd⟩
          exact ⟨_, rfl, ⟨fun h => by simp at h, fun _ => hrd⟩, trivial, rfl⟩
        · have d100 : a.tmps.getD 100 undef = .tuple #[.int .i64 k, er] := F.val 20 100 (by kernel_rfl) (by rfl)
          exact Sp.sp_value rfl (Sp.wanted_none rfl) (v := .tuple #[.int .i64 k, er]) (w' := w1) (by simp [execOp, Act.eval, d100, Sp.gd d100, go_sem]) ⟨fun h => hI.1 (by simpa using h), fun h => hI.2 (by simpa using h)⟩ trivial rfl
        · have d79 : a.tmps.getD 79 undef = .tuple #[.int .i64 k, er] := F.val 21 79 (by kernel_rfl) (by rfl)
          exact Sp.sp_value rfl (Sp.wanted_none rfl) (v := .int .i64 k) (w' := w1) (by simp [execOp, Act.eval, d79, Sp.gd d79, go_sem]) ⟨fun h => hI.1 (by simpa using h), fun h => hI.2 (by simpa using h)⟩ trivial rfl
        · have d79 : a.tmps.getD 79 undef = .tuple #[.int .i64 k, er] := F.val 21 79 (by kernel_rfl) (by rfl)
          exact Sp.sp_value rfl (Sp.wanted_none rfl) (v := er) (w' := w1) (by simp [execOp, Act.eval, d79, Sp.gd d79, go_sem]) ⟨fun h => hI.1 (by simpa using h), fun h => hI.2 (by simpa using h)⟩ trivial rfl
        · have d101 : a.tmps.getD 101 undef = .int .i64 k := F.val 22 101 (by kernel_rfl) (by rfl)
          exact Sp.sp_value rfl (Sp.wanted_none rfl) (v := .int .i64 k) (w' := w1) (by simp [execOp, Act.eval, d101, Sp.gd d101, go_sem]) ⟨fun h => hI.1 (by simpa using h), fun h => hI.2 (by simpa using h)⟩ trivial rfl
        · have d102 : a.tmps.getD 102 undef = er := F.val 23 102 (by kernel_rfl) (by rfl)
          exact Sp.sp_value rfl (Sp.wanted_none rfl) (v := er) (w' := w1) (by simp [execOp, Act.eval, d102, Sp.gd d102, go_sem]) ⟨fun h => hI.1 (by simpa using h), fun h => hI.2 (by simpa using h)⟩ trivial rfl
      · intro val Lk w6 hall hI hS
        have hrd := hI.2 (hall 20 (by decide))
        have h24 : val 24 = .int .i64 k := hS 24 (by decide)
        have h25 : val 25 = (if ip = T.length then (.iface tE vE) else .nilIface) := hS 25 (by decide)
        simp only [Sp.setAll, List.setIfInBounds_toArray, List.set_cons_zero, List.set_cons_succ, h24, h25]
        clear hS h24 h25 hI hall HRD c11 c20 f20
        obtain ⟨L3, RL3, b3, n3, a14, ao, rb3, rn3, ro, rs⟩ := hrd.ex
        have HST1 := Lib.hid (HST.out.drew.after b3 rb3 hrd.kp hrd.size (by rw [HST.out.drew.sz]; exact hg) HG.out HA.out)
        have H15 : Hid (L3[15]? = some (.bool false)) := (ao 15 (by omega)).trans ((HO2.out 15 (by omega) (by omega)).trans HEN.out.at15)
        have H20B : Hid (L3[20]? = some (.slice (some ⟨r, 0, none⟩) l 512)) := (ao 20 (by omega)).trans H20.out
        have H21B : Hid (L3[21]? = some (.int .i64 0)) := (ao 21 (by omega)).trans H21.out
        have A14 := Lib.hid a14
        have AO : Hid (∀ j, j ≠ 14 → j ≠ 20 → j ≠ 21 → L3[j]? = L[j]?) := fun j h1 h2 h3 => (ao j h1).trans (HO2.out j h2 h3)
        have RO : Hid (∀ j, j < l → RL3[j]? = RL[rpos + j]?) := fun j hj => (ro j hj).trans (HR0.out j hj)
        have RS := Lib.hid rs
        have N3 : Hid (L3.length = 52) := n3.trans HL2.out
        have RN3 : Hid (RL3.length = 512) := rn3.trans HRL.out
        clear HST b3 n3 a14 ao rb3 rn3 ro rs hrd HR0 HRL HO2 H20 H21 HL2
        have HST := HST1
        clear HST1
        obtain ⟨c15, f15⟩ := HST.out.pb.cell 15
        rw [H15.out] at c15
        obtain ⟨c20, f20⟩ := HST.out.pb.cell 20
        rw [H20B.out] at c20
        have cE := HST.out.ev
        by_cases hend : ip = T.length
        · rw [if_pos hend]
          have hk0 : k = 0 := by have := HK.out; omega
          have HEND := Lib.hid hend
          have HK0 := Lib.hid hk0
          have heq := HEE.out.eq
          clear hend hk0
          go_wp2_with fail
          refine wp_region_still_tail 15 (by kernel_rfl) (by kernel_rfl) ?_
          simp only [List.take_succ_cons, List.take_zero, List.drop_succ_cons, List.drop_zero]
          repeat still_step
          refine wpStill_nil ?_
          change wpList _ _ _ _ _ w6.drew
          have HST1 := Lib.hid HST.out.drew
          have c15d : w6.drew.cell? ⟨p, 15, none⟩ = some (.bool false) := c15
          have f15d : w6.drew.frozen? ⟨p, 15, none⟩ = false := f15
          have c20d : w6.drew.cell? ⟨p, 20, none⟩ = some (.slice (some ⟨r, 0, none⟩) l 512) := c20
          have f20d : w6.drew.frozen? ⟨p, 20, none⟩ = false := f20
          have cEd : w6.drew.cell? ⟨2, 0, none⟩ = some (.iface tE vE) := cE
          clear HST c15 f15 c20 f20 cE
          generalize w6.drew = w7 at *
          go_wp2_with fail
          go_ret
          have hS1 := (HST1.out.set HNE.out HG1.out HA.out 20 (.slice (some ⟨r, 0, none⟩) m 512)).set HNE.out HG1.out HA.out 15 (.bool true)
          have h52 := N3.out
          refine ⟨rfl, filled_of hS1 HL.out HK.out HM.out (by simp; exact h52) RN3.out ?_ ?_ ?_ ?_ ?_ RO.out RS.out⟩
          · rw [List.getElem?_set_ne (by omega), List.getElem?_set_ne (by omega)]; exact A14.out
          · rw [List.getElem?_set_self (by simp; omega), decide_eq_true HEND.out]
          · rw [List.getElem?_set_ne (by omega), List.getElem?_set_self (by omega)]
          · rw [List.getElem?_set_ne (by omega), List.getElem?_set_ne (by omega)]; exact H21B.out
          · intro j h1 h2 h3 h4
            rw [List.getElem?_set_ne (Ne.symm h2), List.getElem?_set_ne (Ne.symm h3)]
            exact AO.out j h1 h3 h4
        · rw [if_neg hend]
          have HEND := Lib.hid hend
          have heq := HEE.out.ne
          have hnn := nil_nil
          clear hend
          go_wp2_with fail
          refine wp_region_still_tail 15 (by kernel_rfl) (by kernel_rfl) ?_
          simp only [List.take_succ_cons, List.take_zero, List.drop_succ_cons, List.drop_zero]
          repeat still_step
          refine wpStill_nil ?_
          change wpList _ _ _ _ _ w6.drew
          have HST1 := Lib.hid HST.out.drew
          have c15d : w6.drew.cell? ⟨p, 15, none⟩ = some (.bool false) := c15
          have f15d : w6.drew.frozen? ⟨p, 15, none⟩ = false := f15
          have c20d : w6.drew.cell? ⟨p, 20, none⟩ = some (.slice (some ⟨r, 0, none⟩) l 512) := c20
          have f20d : w6.drew.frozen? ⟨p, 20, none⟩ = false := f20
          have cEd : w6.drew.cell? ⟨2, 0, none⟩ = some (.iface tE vE) := cE
          clear HST c15 f15 c20 f20 cE
          generalize w6.drew = w7 at *
          go_wp2_with fail
          go_ret
          have hS1 := HST1.out.set HNE.out HG1.out HA.out 20 (.slice (some ⟨r, 0, none⟩) m 512)
          have h52 := N3.out
          refine ⟨rfl, filled_of hS1 HL.out HK.out HM.out (by simp; exact h52) RN3.out ?_ ?_ ?_ ?_ ?_ RO.out RS.out⟩
          · rw [List.getElem?_set_ne (by omega)]; exact A14.out
          · rw [List.getElem?_set_ne (by omega), decide_eq_false HEND.out]; exact H15.out
          · rw [List.getElem?_set_self (by omega)]
          · rw [List.getElem?_set_ne (by omega)]; exact H21B.out
          · intro j h1 h2 h3 h4
            rw [List.getElem?_set_ne (Ne.symm h3)]
            exact AO.out j h1 h3 h4
    · have h1b : decide (rpos < rl) = false := by simp; omega
      have HR0 : Hid (∀ j, j < l → RL[j]? = RL[rpos + j]?) := fun j hj => by have := HL.out; omega
      have HRL : Hid (RL.length = 512) := HEN.out.rlen
      go_quiet (fail)
      have HST1 := Lib.hid (HST.out.drewN nq)
      clear HST c15 f15 c20 f20 c21 f21
      generalize w1.drewN nq = w2 at *
      obtain ⟨c15, f15⟩ := HST1.out.pb.cell 15
      rw [HEN.out.at15] at c15
      obtain ⟨c20, f20⟩ := HST1.out.pb.cell 20
      rw [HEN.out.at20] at c20
      obtain ⟨c21, f21⟩ := HST1.out.pb.cell 21
      rw [HEN.out.at21] at c21
      have HST := HST1
      clear HST1
      go_wp2_with fail
      refine wp_region_still_tail 18 (by kernel_rfl) (by kernel_rfl) ?_
      simp only [List.take_succ_cons, List.take_zero, List.drop_succ_cons, List.drop_zero]
      repeat still_step
      refine wpStill_nil ?_
      change wpList _ _ _ _ _ w2.drew
      have HST1 := Lib.hid (HST.out.drew)
      clear HST c15 f15 c20 f20 c21 f21
      generalize w2.drew = w4 at *
      obtain ⟨c15, f15⟩ := HST1.out.pb.cell 15
      rw [HEN.out.at15] at c15
      obtain ⟨c20, f20⟩ := HST1.out.pb.cell 20
      rw [HEN.out.at20] at c20
      obtain ⟨c21, f21⟩ := HST1.out.pb.cell 21
      rw [HEN.out.at21] at c21
      have HST := HST1
      clear HST1
      go_wp2_with fail
      have HST1 := Lib.hid ((HST.out.set HNE.out HG1.out HA.out 20 (.slice (some ⟨r, 0, none⟩) l 512)).set HNE.out HG1.out HA.out 21 (.int .i64 0))
      have HL2 : Hid (((L.set 20 (.slice (some ⟨r, 0, none⟩) l 512)).set 21 (.int .i64 0)).length = 52) := by simp; exact HEN.out.plen
      have HO2 : Hid (∀ j, j ≠ 20 → j ≠ 21 → ((L.set 20 (.slice (some ⟨r, 0, none⟩) l 512)).set 21 (.int .i64 0))[j]? = L[j]?) := fun j h1 h2 => by rw [List.getElem?_set_ne (Ne.symm h2), List.getElem?_set_ne (Ne.symm h1)]
      have H20 : Hid (((L.set 20 (.slice (some ⟨r, 0, none⟩) l 512)).set 21 (.int .i64 0))[20]? = some (.slice (some ⟨r, 0, none⟩) l 512)) := by show _ = _; rw [List.getElem?_set_ne (by omega), List.getElem?_set_self (by have := HEN.out.plen; omega)]
      have H21 : Hid (((L.set 20 (.slice (some ⟨r, 0, none⟩) l 512)).set 21 (.int .i64 0))[21]? = some (.int .i64 0)) := by show _ = _; rw [List.getElem?_set_self (by have := HEN.out.plen; simp; omega)]
      clear HST c20 f20 c21 f21
      generalize (w4.setCell ⟨p, 20, none⟩ (.slice (some ⟨r, 0, none⟩) l 512)).setCell ⟨p, 21, none⟩ (.int .i64 0) = w5 at *
      generalize (L.set 20 (.slice (some ⟨r, 0, none⟩) l 512)).set 21 (.int .i64 0) = L2 at *
      have HST := HST1
      clear HST1
      obtain ⟨c11, _⟩ := HST.out.pb.cell 11
      rw [HO2.out 11 (by omega) (by omega), HEN.out.at11, rdr] at c11
      obtain ⟨c20, f20⟩ := HST.out.pb.cell 20
      rw [H20.out] at c20
      have hRD := rd_any p r l (512 - l) (512 - l) A ci ip k T L2 RL (.iface tE vE) w5.drew HEN.out.tlen HST.out.drew.pb HL2.out (by rw [HO2.out 13 (by omega) (by omega)]; exact HEN.out.at13) (by rw [HO2.out 14 (by omega) (by omega)]; exact HEN.out.at14) HEN.out.tcap HST.out.drew.inp HEN.out.hip HST.out.drew.rb (by have := HRL.out; omega) (by have := HRL.out; omega) HK.out HNE.out HST.out.drew.ev
      have HRD := Lib.hid hRD
      clear hRD
      refine Sp.region_specs_c (by kernel_rfl) _ (by kernel_rfl) (by kernel_rfl) (by kernel_rfl) rfl (by kernel_rfl) (Sq p r l k (if ip = T.length then (.iface tE vE) else .nilIface)) (fun L w' => (L 20 = false → w' = w5.drew) ∧ (L 20 = true → Rd p r l k ip T L2 RL w5.drew w')) (fun _ _ => True) ⟨fun _ => rfl, fun h => by cases h⟩ (fun i v w1 w2 _ h => sq_mono h) ?_ ?_
      · clear HRL HR0 HEE HS H5B
        generalize (if ip = T.length then (Value.iface tE vE) else Value.nilIface) = er at *
        intro i hi L a w1 hcl hL F hI
        have hcases : i = 0 ∨ i = 1 ∨ i = 2 ∨ i = 3 ∨ i = 4 ∨ i = 5 ∨ i = 6 ∨ i = 7 ∨ i = 8 ∨ i = 9 ∨ i = 10 ∨ i = 11 ∨ i = 12 ∨ i = 13 ∨ i = 14 ∨ i = 15 ∨ i = 16 ∨ i = 17 ∨ i = 18 ∨ i = 19 ∨ i = 20 ∨ i = 21 ∨ i = 22 ∨ i = 23 ∨ i = 24 ∨ i = 25 := by have hi' : i < 26 := hi; omega
        rcases hcases with rfl | rfl | rfl | rfl | rfl | rfl | rfl | rfl | rfl | rfl | rfl | rfl | rfl | rfl | rfl | rfl | rfl | rfl | rfl | rfl | rfl | rfl | rfl | rfl | rfl | rfl
        · have d0 : a.tmps.getD 0 undef = .pointer (some ⟨p, 0, none⟩) := F.out 0 (by kernel_rfl)
          exact Sp.sp_value rfl (Sp.wanted_none rfl) (v := .pointer (some ⟨p, 0, none⟩)) (w' := w1) (by simp [execOp, Act.eval, d0, Sp.gd d0, go_sem]) ⟨fun h => hI.1 (by simpa using h), fun h => hI.2 (by simpa using h)⟩ trivial rfl
        · have d80 : a.tmps.getD 80 undef = .pointer (some ⟨p, 0, none⟩) := F.val 0 80 (by kernel_rfl) (by rfl)
          exact Sp.sp_value rfl (Sp.wanted_none rfl) (v := .pointer (some ⟨p, 0, none⟩)) (w' := w1) (by simp [execOp, Act.eval, d80, Sp.gd d80, go_sem]) ⟨fun h => hI.1 (by simpa using h), fun h => hI.2 (by simpa using h)⟩ trivial rfl
        · have d81 : a.tmps.getD 81 undef = .pointer (some ⟨p, 0, none⟩) := F.val 1 81 (by kernel_rfl) (by rfl)
          exact Sp.sp_value rfl (Sp.wanted_none rfl) (v := .pointer (some ⟨p, 11, none⟩)) (w' := w1) (by simp [execOp, Act.eval, d81, Sp.gd d81, go_sem]) ⟨fun h => hI.1 (by simpa using h), fun h => hI.2 (by simpa using h)⟩ trivial rfl
        · have d82 : a.tmps.getD 82 undef = .pointer (some ⟨p, 11, none⟩) := F.val 2 82 (by kernel_rfl) (by rfl)
          have hl20 : L 20 = false := by cases h : L 20 with | false => rfl | true => exact (by have := hcl 20 (by decide) h 3 (by kernel_rfl); rw [hL] at this; cases this)
          have hw := hI.1 hl20
          subst hw
          exact Sp.sp_value rfl (Sp.wanted_none rfl) (v := rdr) (w' := w5.drew) (by simp [execOp, Act.eval, d82, Sp.gd d82, c11, rdr, go_sem]) ⟨fun h => hI.1 (by simpa using h), fun h => hI.2 (by simpa using h)⟩ trivial rfl
        · have d0 : a.tmps.getD 0 undef = .pointer (some ⟨p, 0, none⟩) := F.out 0 (by kernel_rfl)
          exact Sp.sp_value rfl (Sp.wanted_none rfl) (v := .pointer (some ⟨p, 0, none⟩)) (w' := w1) (by simp [execOp, Act.eval, d0, Sp.gd d0, go_sem]) ⟨fun h => hI.1 (by simpa using h), fun h => hI.2 (by simpa using h)⟩ trivial rfl
        · have d0 : a.tmps.getD 0 undef = .pointer (some ⟨p, 0, none⟩) := F.out 0 (by kernel_rfl)
          exact Sp.sp_value rfl (Sp.wanted_none rfl) (v := .pointer (some ⟨p, 0, none⟩)) (w' := w1) (by simp [execOp, Act.eval, d0, Sp.gd d0, go_sem]) ⟨fun h => hI.1 (by simpa using h), fun h => hI.2 (by simpa using h)⟩ trivial rfl
        · have d85 : a.tmps.getD 85 undef = .pointer (some ⟨p, 0, none⟩) := F.val 5 85 (by kernel_rfl) (by rfl)
          exact Sp.sp_value rfl (Sp.wanted_none rfl) (v := .pointer (some ⟨p, 0, none⟩)) (w' := w1) (by simp [execOp, Act.eval, d85, Sp.gd d85, go_sem]) ⟨fun h => hI.1 (by simpa using h), fun h => hI.2 (by simpa using h)⟩ trivial rfl
        · have d86 : a.tmps.getD 86 undef = .pointer (some ⟨p, 0, none⟩) := F.val 6 86 (by kernel_rfl) (by rfl)
          exact Sp.sp_value rfl (Sp.wanted_none rfl) (v := .pointer (some ⟨p, 20, none⟩)) (w' := w1) (by simp [execOp, Act.eval, d86, Sp.gd d86, go_sem]) ⟨fun h => hI.1 (by simpa using h), fun h => hI.2 (by simpa using h)⟩ trivial rfl
        · have d87 : a.tmps.getD 87 undef = .pointer (some ⟨p, 20, none⟩) := F.val 7 87 (by kernel_rfl) (by rfl)
          have hl20 : L 20 = false := by cases h : L 20 with | false => rfl | true => exact (by have := hcl 20 (by decide) h 8 (by kernel_rfl); rw [hL] at this; cases this)
          have hw := hI.1 hl20
          subst hw
          exact Sp.sp_value rfl (Sp.wanted_none rfl) (v := .slice (some ⟨r, 0, none⟩) l 512) (w' := w5.drew) (by simp [execOp, Act.eval, d87, Sp.gd d87, c20, go_sem]) ⟨fun h => hI.1 (by simpa using h), fun h => hI.2 (by simpa using h)⟩ trivial rfl
        · have d0 : a.tmps.getD 0 undef = .pointer (some ⟨p, 0, none⟩) := F.out 0 (by kernel_rfl)
          exact Sp.sp_value rfl (Sp.wanted_none rfl) (v := .pointer (some ⟨p, 0, none⟩)) (w' := w1) (by simp [execOp, Act.eval, d0, Sp.gd d0, go_sem]) ⟨fun h => hI.1 (by simpa using h), fun h => hI.2 (by simpa using h)⟩ trivial rfl
        · have d89 : a.tmps.getD 89 undef = .pointer (some ⟨p, 0, none⟩) := F.val 9 89 (by kernel_rfl) (by rfl)
          exact Sp.sp_value rfl (Sp.wanted_none rfl) (v := .pointer (some ⟨p, 0, none⟩)) (w' := w1) (by simp [execOp, Act.eval, d89, Sp.gd d89, go_sem]) ⟨fun h => hI.1 (by simpa using h), fun h => hI.2 (by simpa using h)⟩ trivial rfl
        · have d90 : a.tmps.getD 90 undef = .pointer (some ⟨p, 0, none⟩) := F.val 10 90 (by kernel_rfl) (by rfl)
          exact Sp.sp_value rfl (Sp.wanted_none rfl) (v := .pointer (some ⟨p, 20, none⟩)) (w' := w1) (by simp [execOp, Act.eval, d90, Sp.gd d90, go_sem]) ⟨fun h => hI.1 (by simpa using h), fun h => hI.2 (by simpa using h)⟩ trivial rfl
        · have d91 : a.tmps.getD 91 undef = .pointer (some ⟨p, 20, none⟩) := F.val 11 91 (by kernel_rfl) (by rfl)
          have hl20 : L 20 = false := by cases h : L 20 with | false => rfl | true => exact (by have := hcl 20 (by decide) h 12 (by kernel_rfl); rw [hL] at this; cases this)
          have hw := hI.1 hl20
          subst hw
          exact Sp.sp_value rfl (Sp.wanted_none rfl) (v := .slice (some ⟨r, 0, none⟩) l 512) (w' := w5.drew) (by simp [execOp, Act.eval, d91, Sp.gd d91, c20, go_sem]) ⟨fun h => hI.1 (by simpa using h), fun h => hI.2 (by simpa using h)⟩ trivial rfl
        · have d92 : a.tmps.getD 92 undef = .slice (some ⟨r, 0, none⟩) l 512 := F.val 12 92 (by kernel_rfl) (by rfl)
          exact Sp.sp_value rfl (Sp.wanted_none rfl) (v := .int .i64 (l : Int)) (w' := w1) (by simp [execOp, Act.eval, d92, Sp.gd d92, go_sem]) ⟨fun h => hI.1 (by simpa using h), fun h => hI.2 (by simpa using h)⟩ trivial rfl
        · have d0 : a.tmps.getD 0 undef = .pointer (some ⟨p, 0, none⟩) := F.out 0 (by kernel_rfl)
          exact Sp.sp_value rfl (Sp.wanted_none rfl) (v := .pointer (some ⟨p, 0, none⟩)) (w' := w1) (by simp [execOp, Act.eval, d0, Sp.gd d0, go_sem]) ⟨fun h => hI.1 (by simpa using h), fun h => hI.2 (by simpa using h)⟩ trivial rfl
        · have d94 : a.tmps.getD 94 undef = .pointer (some ⟨p, 0, none⟩) := F.val 14 94 (by kernel_rfl) (by rfl)
          exact Sp.sp_value rfl (Sp.wanted_none rfl) (v := .pointer (some ⟨p, 0, none⟩)) (w' := w1) (by simp [execOp, Act.eval, d94, Sp.gd d94, go_sem]) ⟨fun h => hI.1 (by simpa using h), fun h => hI.2 (by simpa using h)⟩ trivial rfl
        · have d95 : a.tmps.getD 95 undef = .pointer (some ⟨p, 0, none⟩) := F.val 15 95 (by kernel_rfl) (by rfl)
          exact Sp.sp_value rfl (Sp.wanted_none rfl) (v := .pointer (some ⟨p, 20, none⟩)) (w' := w1) (by simp [execOp, Act.eval, d95, Sp.gd d95, go_sem]) ⟨fun h => hI.1 (by simpa using h), fun h => hI.2 (by simpa using h)⟩ trivial rfl
        · have d96 : a.tmps.getD 96 undef = .pointer (some ⟨p, 20, none⟩) := F.val 16 96 (by kernel_rfl) (by rfl)
          have hl20 : L 20 = false := by cases h : L 20 with | false => rfl | true => exact (by have := hcl 20 (by decide) h 17 (by kernel_rfl); rw [hL] at this; cases this)
          have hw := hI.1 hl20
          subst hw
          exact Sp.sp_value rfl (Sp.wanted_none rfl) (v := .slice (some ⟨r, 0, none⟩) l 512) (w' := w5.drew) (by simp [execOp, Act.eval, d96, Sp.gd d96, c20, go_sem]) ⟨fun h => hI.1 (by simpa using h), fun h => hI.2 (by simpa using h)⟩ trivial rfl
        · have d97 : a.tmps.getD 97 undef = .slice (some ⟨r, 0, none⟩) l 512 := F.val 17 97 (by kernel_rfl) (by rfl)
          exact Sp.sp_value rfl (Sp.wanted_none rfl) (v := .int .i64 512) (w' := w1) (by simp [execOp, Act.eval, d97, Sp.gd d97, go_sem]) ⟨fun h => hI.1 (by simpa using h), fun h => hI.2 (by simpa using h)⟩ trivial rfl
        · have d88 : a.tmps.getD 88 undef = .slice (some ⟨r, 0, none⟩) l 512 := F.val 8 88 (by kernel_rfl) (by rfl)
          have d93 : a.tmps.getD 93 undef = .int .i64 (l : Int) := F.val 13 93 (by kernel_rfl) (by rfl)
          have d98 : a.tmps.getD 98 undef = .int .i64 512 := F.val 18 98 (by kernel_rfl) (by rfl)
          exact Sp.sp_value rfl (Sp.wanted_none rfl) (v := .slice (some ⟨r, l, none⟩) (512 - l) (512 - l)) (w' := w1) (by simp [execOp, Act.eval, d88, Sp.gd d88, d93, Sp.gd d93, d98, Sp.gd d98, hl5, hl3, go_sem]) ⟨fun h => hI.1 (by simpa using h), fun h => hI.2 (by simpa using h)⟩ trivial rfl
        · have d83 : a.tmps.getD 83 undef = rdr := F.val 3 83 (by kernel_rfl) (by rfl)
          have d84 : a.tmps.getD 84 undef = .pointer (some ⟨p, 0, none⟩) := F.val 4 84 (by kernel_rfl) (by rfl)
          have d99 : a.tmps.getD 99 undef = .slice (some ⟨r, l, none⟩) (512 - l) (512 - l) := F.val 19 99 (by kernel_rfl) (by rfl)
          have hw := hI.1 hL
          subst hw
          refine Sp.sp_callv Tryd.func129 (by kernel_rfl) rfl #[.pointer (some ⟨p, 0, none⟩), .slice (some ⟨r, l, none⟩) (512 - l) (512 - l)] rfl (Sp.wanted_none rfl) rfl (by simp only [Act.eval]; exact d83) (by simp only [List.map_toArray, List.map_cons, List.map_nil, Act.eval, d84, d99]) ?_
          refine HRD.out.mono ?_
          rintro e w7 ⟨rfl, hrd⟩
          exact ⟨_, rfl, ⟨fun h => by simp at h, fun _ => hrd⟩, trivial, rfl⟩
        · have d100 : a.tmps.getD 100 undef = .tuple #[.int .i64 k, er] := F.val 20 100 (by kernel_rfl) (by rfl)
          exact Sp.sp_value rfl (Sp.wanted_none rfl) (v := .tuple #[.int .i64 k, er]) (w' := w1) (by simp [execOp, Act.eval, d100, Sp.gd d100, go_sem]) ⟨fun h => hI.1 (by simpa using h), fun h => hI.2 (by simpa using h)⟩ trivial rfl
        · have d79 : a.tmps.getD 79 undef = .tuple #[.int .i64 k, er] := F.val 21 79 (by kernel_rfl) (by rfl)
          exact Sp.sp_value rfl (Sp.wanted_none rfl) (v := .int .i64 k) (w' := w1) (by simp [execOp, Act.eval, d79, Sp.gd d79, go_sem]) ⟨fun h => hI.1 (by simpa using h), fun h => hI.2 (by simpa using h)⟩ trivial rfl
        · have d79 : a.tmps.getD 79 undef = .tuple #[.int .i64 k, er] := F.val 21 79 (by kernel_rfl) (by rfl)
          exact Sp.sp_value rfl (Sp.wanted_none rfl) (v := er) (w' := w1) (by simp [execOp, Act.eval, d79, Sp.gd d79, go_sem]) ⟨fun h => hI.1 (by simpa using h), fun h => hI.2 (by simpa using h)⟩ trivial rfl
        · have d101 : a.tmps.getD 101 undef = .int .i64 k := F.val 22 101 (by kernel_rfl) (by rfl)
          exact Sp.sp_value rfl (Sp.wanted_none rfl) (v := .int .i64 k) (w' := w1) (by simp [execOp, Act.eval, d101, Sp.gd d101, go_sem]) ⟨fun h => hI.1 (by simpa using h), fun h => hI.2 (by simpa using h)⟩ trivial rfl
        · have d102 : a.tmps.getD 102 undef = er := F.val 23 102 (by kernel_rfl) (by rfl)
          exact Sp.sp_value rfl (Sp.wanted_none rfl) (v := er) (w' := w1) (by simp [execOp, Act.eval, d102, Sp.gd d102, go_sem]) ⟨fun h => hI.1 (by simpa using h), fun h => hI.2 (by simpa using h)⟩ trivial rfl
      · intro val Lk w6 hall hI hS
        have hrd := hI.2 (hall 20 (by decide))
        have h24 : val 24 = .int .i64 k := hS 24 (by decide)
        have h25 : val 25 = (if ip = T.length then (.iface tE vE) else .nilIface) := hS 25 (by decide)
        simp only [Sp.setAll, List.setIfInBounds_toArray, List.set_cons_zero, List.set_cons_succ, h24, h25]
        clear hS h24 h25 hI hall HRD c11 c20 f20
        obtain ⟨L3, RL3, b3, n3, a14, ao, rb3, rn3, ro, rs⟩ := hrd.ex
        have HST1 := Lib.hid (HST.out.drew.after b3 rb3 hrd.kp hrd.size (by rw [HST.out.drew.sz]; exact hg) HG.out HA.out)
        have H15 : Hid (L3[15]? = some (.bool false)) := (ao 15 (by omega)).trans ((HO2.out 15 (by omega) (by omega)).trans HEN.out.at15)
        have H20B : Hid (L3[20]? = some (.slice (some ⟨r, 0, none⟩) l 512)) := (ao 20 (by omega)).trans H20.out
        have H21B : Hid (L3[21]? = some (.int .i64 0)) := (ao 21 (by omega)).trans H21.out
        have A14 := Lib.hid a14
        have AO : Hid (∀ j, j ≠ 14 → j ≠ 20 → j ≠ 21 → L3[j]? = L[j]?) := fun j h1 h2 h3 => (ao j h1).trans (HO2.out j h2 h3)
        have RO : Hid (∀ j, j < l → RL3[j]? = RL[rpos + j]?) := fun j hj => (ro j hj).trans (HR0.out j hj)
        have RS := Lib.hid rs
        have N3 : Hid (L3.length = 52) := n3.trans HL2.out
        have RN3 : Hid (RL3.length = 512) := rn3.trans HRL.out
        clear HST b3 n3 a14 ao rb3 rn3 ro rs hrd HR0 HRL HO2 H20 H21 HL2
        have HST := HST1
        clear HST1
        obtain ⟨c15, f15⟩ := HST.out.pb.cell 15
        rw [H15.out] at c15
        obtain ⟨c20, f20⟩ := HST.out.pb.cell 20
        rw [H20B.out] at c20
        have cE := HST.out.ev
        by_cases hend : ip = T.length
        · rw [if_pos hend]
          have hk0 : k = 0 := by have := HK.out; omega
          have HEND := Lib.hid hend
          have HK0 := Lib.hid hk0
          have heq := HEE.out.eq
          clear hend hk0
          go_wp2_with fail
          refine wp_region_still_tail 15 (by kernel_rfl) (by kernel_rfl) ?_
          simp only [List.take_succ_cons, List.take_zero, List.drop_succ_cons, List.drop_zero]
          repeat still_step
          refine wpStill_nil ?_
          change wpList _ _ _ _ _ w6.drew
          have HST1 := Lib.hid HST.out.drew
          have c15d : w6.drew.cell? ⟨p, 15, none⟩ = some (.bool false) := c15
          have f15d : w6.drew.frozen? ⟨p, 15, none⟩ = false := f15
          have c20d : w6.drew.cell? ⟨p, 20, none⟩ = some (.slice (some ⟨r, 0, none⟩) l 512) := c20
          have f20d : w6.drew.frozen? ⟨p, 20, none⟩ = false := f20
          have cEd : w6.drew.cell? ⟨2, 0, none⟩ = some (.iface tE vE) := cE
          clear HST c15 f15 c20 f20 cE
          generalize w6.drew = w7 at *
          go_wp2_with fail
          go_ret
          have hS1 := (HST1.out.set HNE.out HG1.out HA.out 20 (.slice (some ⟨r, 0, none⟩) m 512)).set HNE.out HG1.out HA.out 15 (.bool true)
          have h52 := N3.out
          refine ⟨rfl, filled_of hS1 HL.out HK.out HM.out (by simp; exact h52) RN3.out ?_ ?_ ?_ ?_ ?_ RO.out RS.out⟩
          · rw [List.getElem?_set_ne (by omega), List.getElem?_set_ne (by omega)]; exact A14.out
          · rw [List.getElem?_set_self (by simp; omega), decide_eq_true HEND.out]
          · rw [List.getElem?_set_ne (by omega), List.getElem?_set_self (by omega)]
          · rw [List.getElem?_set_ne (by omega), List.getElem?_set_ne (by omega)]; exact H21B.out
          · intro j h1 h2 h3 h4
            rw [List.getElem?_set_ne (Ne.symm h2), List.getElem?_set_ne (Ne.symm h3)]
            exact AO.out j h1 h3 h4
        · rw [if_neg hend]
          have HEND := Lib.hid hend
          have heq := HEE.out.ne
          have hnn := nil_nil
          clear hend
          go_wp2_with fail
          refine wp_region_still_tail 15 (by kernel_rfl) (by kernel_rfl) ?_
          simp only [List.take_succ_cons, List.take_zero, List.drop_succ_cons, List.drop_zero]
          repeat still_step
          refine wpStill_nil ?_
          change wpList _ _ _ _ _ w6.drew
          have HST1 := Lib.hid HST.out.drew
          have c15d : w6.drew.cell? ⟨p, 15, none⟩ = some (.bool false) := c15
          have f15d : w6.drew.frozen? ⟨p, 15, none⟩ = false := f15
          have c20d : w6.drew.cell? ⟨p, 20, none⟩ = some (.slice (some ⟨r, 0, none⟩) l 512) := c20
          have f20d : w6.drew.frozen? ⟨p, 20, none⟩ = false := f20
          have cEd : w6.drew.cell? ⟨2, 0, none⟩ = some (.iface tE vE) := cE
          clear HST c15 f15 c20 f20 cE
          generalize w6.drew = w7 at *
          go_wp2_with fail
          go_ret
          have hS1 := HST1.out.set HNE.out HG1.out HA.out 20 (.slice (some ⟨r, 0, none⟩) m 512)
          have h52 := N3.out
          refine ⟨rfl, filled_of hS1 HL.out HK.out HM.out (by simp; exact h52) RN3.out ?_ ?_ ?_ ?_ ?_ RO.out RS.out⟩
          · rw [List.getElem?_set_ne (by omega)]; exact A14.out
          · rw [List.getElem?_set_ne (by omega), decide_eq_false HEND.out]; exact H15.out
          · rw [List.getElem?_set_self (by omega)]
          · rw [List.getElem?_set_ne (by omega)]; exact H21B.out
          · intro j h1 h2 h3 h4
            rw [List.getElem?_set_ne (Ne.symm h3)]
            exact AO.out j h1 h3 h4
end Go.Proofs.YtocbbekciphjgaaDoor.Pa

/- QeA, PaQ2, PaQ3, PaQ4: parts of the proof, one behind another. -/
import Derived.Laws.BitsLemmas
import Derived.Test.YtocbbekciphjgaaDoorMz12
import Derived.Test.YtocbbekciphjgaaDoorMz35
import Derived.Test.YtocbbekciphjgaaDoorMz36
/- QeA -/
/- A quoted scalar is scanned (yaml_parser_scan_flow_scalar): its head: the walks. Printed by genQdJ.py. -/
namespace Go.Proofs.YtocbbekciphjgaaDoor.Qd
open Go.RowKit Go.Proofs.YtocbbekciphjgaaDoor.Rdp Go.Proofs.YtocbbekciphjgaaDoor.Pa Go.Proofs.YtocbbekciphjgaaDoor.Sc
set_option linter.unusedVariables false
set_option linter.unusedSimpArgs false
noncomputable def h0c : Code := part [0] cA
noncomputable def h1c : Code := part [1, 0] cA
noncomputable def h2c : Code := part [1, 1, 0] cA
noncomputable def h3c : Code := part [1, 1, 1, 0] cA
theorem cA_eq : cA = .seq h0c (.seq h1c (.seq h2c (.seq h3c (.seq (.block 0 cLoop) cTail)))) := by kernel_rfl
theorem body_eq : Tryd.f78.body = some cA := by kernel_rfl
set_option maxHeartbeats 32000000 in
set_option maxRecDepth 100000 in
theorem h0t {p t : Nat} {sg : Bool} {a : Act} {w : World} {K : Act → World → Prop} {Q : Exit → Act → World → Prop} (hz : a.tmps.size = 717) (hdf : a.defers = []) (h0 : gt a 0 = .pointer (some ⟨p, 0, none⟩)) (h1 : gt a 1 = .pointer (some ⟨t, 0, none⟩)) (h2 : gt a 2 = .bool sg)
    (hK : ∀ a', a'.tmps.size = 717 → a'.defers = [] → gt a' 0 = .pointer (some ⟨p, 0, none⟩) → gt a' 1 = .pointer (some ⟨t, 0, none⟩) → gt a' 2 = .bool sg → gt a' 12 = gt a 12 → K a' w) :
    h0c.wp Tryd.prog (Exit.then K Q) a w := by
  have HKK := Lib.hid hK
  rw [lit717 a hz hdf, h0, h1, h2]
  clear hK h0 h1 h2 hz hdf
  conv => arg 2; whnf
  go_wp2_with fail
  exact HKK.out _ rfl rfl rfl rfl rfl rfl
set_option maxHeartbeats 32000000 in
set_option maxRecDepth 100000 in
theorem h1t {k : Kn} {p t : Nat} {L0 : List Value} {sg : Bool} {a : Act} {w : World} {K : Act → World → Prop} {Q : Exit → Act → World → Prop} (hz : a.tmps.size = 717) (hdf : a.defers = []) (h0 : gt a 0 = .pointer (some ⟨p, 0, none⟩)) (h1 : gt a 1 = .pointer (some ⟨t, 0, none⟩)) (h2 : gt a 2 = .bool sg) {c u col : Nat} {rest : List Int} (hA : At k p L0 c u col rest w)
    (hK : ∀ a' w' (e0 e1 e2 : Int), a'.tmps.size = 717 → a'.defers = [] → gt a' 0 = .pointer (some ⟨p, 0, none⟩) → gt a' 1 = .pointer (some ⟨t, 0, none⟩) → gt a' 2 = .bool sg → gt a' 12 = gt a 12 → gt a' 7 = .pointer (some ⟨w.heap.size, 0, none⟩) → Bk w' w.heap.size 74 [.int .i64 e0, .int .i64 e1, .int .i64 e2] → Below w.heap.size w w' → w'.heap.size = w.heap.size + 1 → K a' w') :
    h1c.wp Tryd.prog (Exit.then K Q) a w := by
  obtain ⟨bp, bl, mi, ml, z, L, g1, h24, h25, h26, h19, m1, m2, m3, ho⟩ := hA.ex
  obtain ⟨c24, f24⟩ := at_ g1.pb 24 h24
  obtain ⟨c25, f25⟩ := at_ g1.pb 25 h25
  obtain ⟨c26, f26⟩ := at_ g1.pb 26 h26
  have HKK := Lib.hid hK
  rw [lit717 a hz hdf, h0, h1, h2]
  clear hK h0 h1 h2 hz hdf g1 h24 h25 h26 h19 ho hA
  conv => arg 2; whnf
  go_wp2_with fail
  exact HKK.out _ _ _ _ _ rfl rfl rfl rfl rfl rfl rfl (Bk.new w [.int .i64 (mi : Nat), .int .i64 (ml : Nat), .int .i64 (col : Nat)] 74) (below_alloc _ _) (by simp)
set_option maxHeartbeats 32000000 in
set_option maxRecDepth 100000 in
theorem h2t {k : Kn} {p t : Nat} {L0 : List Value} {sg : Bool} {a : Act} {w : World} {K : Act → World → Prop} {Q : Exit → Act → World → Prop} (hz : a.tmps.size = 717) (hdf : a.defers = []) (h0 : gt a 0 = .pointer (some ⟨p, 0, none⟩)) (h1 : gt a 1 = .pointer (some ⟨t, 0, none⟩)) (h2 : gt a 2 = .bool sg) {mk c u col : Nat} {x : Int} {r : List Int} (h7 : gt a 7 = .pointer (some ⟨mk, 0, none⟩)) (hA : At k p L0 c (u + 1) col (x :: r) w)
    (hK : ∀ a' w', a'.tmps.size = 717 → a'.defers = [] → gt a' 0 = .pointer (some ⟨p, 0, none⟩) → gt a' 1 = .pointer (some ⟨t, 0, none⟩) → gt a' 2 = .bool sg → gt a' 12 = gt a 12 → gt a' 7 = .pointer (some ⟨mk, 0, none⟩) → At k p L0 (c + (u8 x).length) u (col + 1) r w' → Kp (k.bs p) w w' → w'.heap.size = w.heap.size → K a' w') :
    h2c.wp Tryd.prog (Exit.then K Q) a w := by
  have hsk := Lib.hid hA.skip
  have HKK := Lib.hid hK
  rw [lit717 a hz hdf, h0, h1, h2, h7]
  clear hK h0 h1 h2 hz hdf hA h7
  conv => arg 2; whnf
  go_wp2_with fail
  refine hsk.out.mono ?_
  rintro e w' ⟨rfl, hat, hkp, hsz⟩
  have HAT := Lib.hid hat
  have HKP := Lib.hid hkp
  have HSZ := Lib.hid hsz
  clear hat hkp hsz hsk
  go_wp2_with fail
  exact HKK.out _ _ rfl rfl rfl rfl rfl rfl rfl HAT.out HKP.out HSZ.out
set_option maxHeartbeats 32000000 in
set_option maxRecDepth 100000 in
theorem h3t {p t : Nat} {sg : Bool} {a : Act} {w : World} {K : Act → World → Prop} {Q : Exit → Act → World → Prop} (hz : a.tmps.size = 717) (hdf : a.defers = []) (h0 : gt a 0 = .pointer (some ⟨p, 0, none⟩)) (h1 : gt a 1 = .pointer (some ⟨t, 0, none⟩)) (h2 : gt a 2 = .bool sg) {mk : Nat} (h7 : gt a 7 = .pointer (some ⟨mk, 0, none⟩)) (h12 : gt a 12 = undef) (hK : ∀ a', Fu sg p t mk (.slice none 0 0) (.slice none 0 0) (.slice none 0 0) (.slice none 0 0) a' → K a' w) :
    h3c.wp Tryd.prog (Exit.then K Q) a w := by
  have HKK := Lib.hid hK
  rw [lit717 a hz hdf, h0, h1, h2, h7, h12]
  clear hK h0 h1 h2 hz hdf h7 h12
  conv => arg 2; whnf
  go_wp2_with fail
  exact HKK.out _ ⟨rfl, rfl, rfl, rfl, rfl, rfl, rfl, rfl, rfl, rfl, rfl⟩
/-- What is left where a quoted scalar has been scanned. -/
def Scd (p t : Nat) (k : Kn) (sg : Bool) (v : Option (List Int)) (w : World) (e : Ending) (w' : World) : Prop :=
  (∃ out sv, v = some out ∧ e = .returned (.bool true) ∧ (∃ s0 s1 s2 e0 e1 e2, Bk w' t 78 (tok 21 s0 s1 s2 e0 e1 e2 0 sv (.slice none 0 0) (.slice none 0 0) (if sg then 4 else 8) 0 0)) ∧ Tx w' sv (us out) ∧ Kp (t :: k.bs p) w w') ∨
  (v = none ∧ e = .returned (.bool false) ∧ Er k p w w')
noncomputable def frame0 (p t : Nat) (sg : Bool) : Act := { tmps := #[.pointer (some ⟨p, 0, none⟩), .pointer (some ⟨t, 0, none⟩), .bool sg] ++ Array.replicate (Tryd.f78.ntmps - 3) undef, defers := [] }
theorem ntmps78 : Tryd.f78.ntmps = 717 := by kernel_rfl
theorem frame0_size (p t : Nat) (sg : Bool) : (frame0 p t sg).tmps.size = 717 := by
  unfold frame0
  rw [ntmps78]
  simp
theorem frame0_at (p t : Nat) (sg : Bool) : gt (frame0 p t sg) 0 = .pointer (some ⟨p, 0, none⟩) ∧ gt (frame0 p t sg) 1 = .pointer (some ⟨t, 0, none⟩) ∧ gt (frame0 p t sg) 2 = .bool sg ∧ gt (frame0 p t sg) 12 = undef := by
  unfold gt frame0
  rw [ntmps78]
  refine ⟨?_, ?_, ?_, ?_⟩ <;> simp [Array.getElem?_append]
theorem res78 : Tryd.f78.results = #[.tmp 6] := by kernel_rfl
theorem results78 (a : Act) (b : Bool) (h : gt a 6 = .bool b) (w : World) : (results Tryd.f78 a.tmps).run Tryd.prog w = .ok (.bool b) w := by
  have h6 : a.tmps.getD 6 undef = .bool b := h
  unfold results
  rw [res78]
  simp only [Array.mapM_eq_mapM_toList, List.mapM_cons, List.mapM_nil, h6]
  simp [h6]
theorem then_self (Q : Exit → Act → World → Prop) : Exit.then (fun a w => Q .normal a w) Q = Q := by
  funext e a w
  cases e <;> rfl
theorem flow_any (k : Kn) (p t c u col : Nat) (sg : Bool) (L0 : List Value) (x : Int) (rest : List Int) (v : Option (List Int)) (w : World) (hr : RoundOk k p) (hA : At k p L0 c (u + 1) col (x :: rest) w) (hce : Sc.Cells L0) (hL : Lfd (x :: rest)) (hv : Full sg rest [] [] v) (ht : Bk w t 78 tok0) (hft : Far k p t) (hg : 2 < w.heap.size) :
    Calls Tryd.prog 78 #[.pointer (some ⟨p, 0, none⟩), .pointer (some ⟨t, 0, none⟩), .bool sg] w (Scd p t k sg v w) := by
  refine calls_of_wp (fn := Tryd.f78) (c := cA) Tryd.func78 body_eq ?_
  show cA.wp Tryd.prog _ (frame0 p t sg) w
  obtain ⟨g0, g1, g2, g12⟩ := frame0_at p t sg
  have hfar : ∀ g, w.heap.size ≤ g → Far k p g := by
    obtain ⟨bp, bl, mi, ml, z, L, hR, _⟩ := hA.ex
    exact fun g hg => far_new hR hg
  have hret : ∀ (b : Bool) (a' : Act) (w' : World), a'.defers = [] → gt a' 6 = .bool b → Scd p t k sg v w (.returned (.bool b)) w' → bodyPost Tryd.prog Tryd.f78 (Scd p t k sg v w) .ret a' w' := fun b a' w' hd h6 h => ⟨hd, _, results78 a' b h6 w', h⟩
  rw [cA_eq]
  refine wp_seq (h0t (frame0_size p t sg) rfl g0 g1 g2 fun a1 z1 d1 x0 x1 x2 x12 => ?_)
  refine wp_seq (h1t z1 d1 x0 x1 x2 hA fun a2 w2 s0 s1 s2 z2 d2 y0 y1 y2 y12 y7 hmk hb2 hs2 => ?_)
  have hA2 : At k p L0 c (u + 1) col (x :: rest) w2 := hA.far (Kp.of_below (ps := []) hb2) (by simp)
  have hC : Cx k p w.heap.size (w.heap.size + 1) s0 s1 s2 L0 w2 := ⟨hr, fun g hg => hfar g (by omega), hs2, by omega, hmk, (hfar _ (Nat.le_refl _)).1, hce⟩
  refine wp_seq (h2t z2 d2 y0 y1 y2 y7 hA2 fun a3 w3 z3 d3 r0 r1 r2 r12 r7 hA3 hk3 hs3 => ?_)
  refine wp_seq (h3t z3 d3 r0 r1 r2 r7 (r12.trans (y12.trans (x12.trans g12))) fun a4 hF4 => ?_)
  have hpos := u8_pos x
  have hS4 : St k p (w.heap.size + 1) L0 w2 (c + (u8 x).length) u (col + 1) rest (us []) [] [] [] (.slice none 0 0) (.slice none 0 0) (.slice none 0 0) (.slice none 0 0) w3 := ⟨hA3, hk3, Row.nil _ _, Row.nil _ _, Row.nil _ _, Row.nil _ _, Sep.nil _, Sep.nil _, Sep.nil _, Sep.nil _, Sep.nil _, Sep.nil _, by simp [us]⟩
  refine wp_seq (oloop hC hA3.fro.2 (v := v) ⟨_, _, _, _, hF4, hS4, hv, by simp [us]; omega, hL.tail, fun h => by omega⟩ ?_ ?_)
  · intro a5 w5 hz
    obtain ⟨c5, u5, col5, r5, out, lb, tb, ws, sv, lbv, tbv, wsv, lbr, hvo, hF5, hS5, hu5⟩ := hz
    obtain ⟨u6, rfl⟩ : ∃ u6, u5 = u6 + 1 := ⟨u5 - 1, by omega⟩
    rw [cTail_eq]
    refine wp_seq (s144 hC hF5 hS5 fun a6 w6 hF6 hS6 => ?_)
    refine wp_seq (t145 hC hF6 hS6 fun a7 w7 e0 e1 e2 hF7 h17 hem hb7 => ?_)
    have hk7 : Kp (k.bs p) w2 w7 := hS6.kp.trans (Kp.of_below hb7)
    have hk07 : Kp (k.bs p) w w7 := (Kp.of_below hb2).trans hk7
    have ht7 : Bk w7 t 78 tok0 := ht.kp hk07 hft.1
    have htl := ht.lt
    have hrow7 : Row (w.heap.size + 1) w7 sv (us out) := hS6.r8.kp (Kp.of_below (ps := []) hb7) (by simp)
    refine wp_seq (t146 hC hF7 (hmk.kp hk7 hC.own) hem ht7 h17 (by obtain ⟨A, cap, h⟩ := hS6.r8.slice; exact ⟨_, _, _, h⟩) fun a8 w8 hF8 ht8 hk8 => ?_)
    refine wp_seq (t147 hC hF8 ht8 fun a9 w9 hF9 ht9 hk9 => ?_)
    rw [← then_self (bodyPost Tryd.prog Tryd.f78 (Scd p t k sg v w))]
    refine t149 hC hF9 fun a10 hd10 h610 => ?_
    refine hret true a10 w9 hd10 h610 (.inl ⟨out, sv, hvo, rfl, ⟨_, _, _, _, _, _, ht9⟩, ?_, ?_⟩)
    · exact ((hrow7.kp (hk8.trans hk9) (fun b hb hh => by
        have h1 := (hrow7.own b hb).1
        rw [List.mem_singleton] at hh
        omega))).tx
    · exact (hk07.mono (fun b hb => List.mem_cons_of_mem _ hb)).trans ((hk8.trans hk9).mono (by simp))
  · intro hvn a5 w5 hd5 h65 her
    refine hret false a5 w5 hd5 h65 (.inr ⟨hvn, rfl, ?_⟩)
    obtain ⟨L', q1, q2, q3, q4⟩ := her
    exact ⟨L', q1, q2, q3, (Kp.of_below hb2).trans q4⟩
end Go.Proofs.YtocbbekciphjgaaDoor.Qd
/- PaQ2 -/
/- One character of 2 bytes is decoded (yaml_parser_update_buffer, the inner loop's round): the walk. Printed by genPaQ.py. -/
namespace Go.Proofs.YtocbbekciphjgaaDoor.Pa
open Go.RowKit Go.Proofs.YtocbbekciphjgaaDoor.Rdp
set_option linter.unusedVariables false
set_option linter.unusedSimpArgs false
theorem m63 (v : Int) (h0 : 0 ≤ v) (h1 : v < 2147483648) : Go.bits .and .i32 v 63 = v % 64 := bits_mask .i32 31 (by decide) wraps_i32 6 (by decide) v h0 h1
set_option maxHeartbeats 8000000 in
set_option maxRecDepth 100000 in
theorem in2 {k : Kn} {p c u b rl rpos ip : Nat} {eof : Bool} {L0 L RL BL : List Value} {w0 w : World} {a : Act} {K : Act → World → Prop} {Q : Exit → Act → World → Prop} (hI : Inn k p c u b rl rpos ip eof L0 L RL BL w0 w) (hA : ModeA k.T c u b (rl - rpos) ip) (hb : b + (rl - rpos) ≤ 540) (hlt : rpos + 2 ≤ rl)
    (hx : Ok2 (S k.T (ip - (rl - rpos))) (S k.T (ip - (rl - rpos) + 1))) (hnx : nx k.T (ip - (rl - rpos)) = ip - (rl - rpos) + 2) (hsz : a.tmps.size = 690) (hdf : a.defers = []) (h0 : gt a 0 = .pointer (some ⟨p, 0, none⟩)) (h5 : gt a 5 = .int .i64 (b : Nat))
    (hK : ∀ a' w' L' BL', Fr a a' (b + 2) → Inn k p c (u + 1) (b + 2) rl (rpos + 2) ip eof L0 L' RL BL' w0 w' → ModeA k.T c (u + 1) (b + 2) (rl - (rpos + 2)) ip → b + 2 + (rl - (rpos + 2)) ≤ 540 → K a' w') :
    iBody.wp Tryd.prog (Exit.then K Q) a w := by
  have hl := hI.lay
  have hraw0 := hl.raw 0 (by omega)
  have hraw1 := hl.raw 1 (by omega)
  rw [Nat.add_zero, Nat.add_zero] at hraw0
  obtain ⟨x, HX⟩ : ∃ x, Hid (x = S k.T (ip - (rl - rpos))) := ⟨_, rfl⟩
  rw [← HX.out] at hraw0 hx
  obtain ⟨y, HY⟩ : ∃ y, Hid (y = S k.T (ip - (rl - rpos) + 1)) := ⟨_, rfl⟩
  rw [← HY.out] at hraw1 hx
  have rx : 194 ≤ x ∧ x ≤ 223 := by unfold Ok2 at hx; omega
  have ry : 128 ≤ y ∧ y ≤ 191 := by unfold Ok2 at hx; omega
  obtain ⟨t1, t2, t3, t4, t5, t6, t7, t8, t9, t10⟩ := bits_at x (by omega) (by omega)
  rw [show decide (x < 128) = false by simp; omega] at t1
  rw [show decide (192 ≤ x ∧ x < 224) = true by simp; omega] at t2
  rw [show decide (224 ≤ x ∧ x < 240) = false by simp; omega] at t3
  rw [show decide (240 ≤ x ∧ x < 248) = false by simp; omega] at t4
  obtain ⟨sy, qy⟩ : (Go.bits .and .u8 y 192 != 128) = false ∧ Go.bits .and .u8 y 63 = y % 64 := by
    obtain ⟨_, _, _, _, s, _, _, _, _, q⟩ := bits_at y (by omega) (by omega)
    rw [show decide (128 ≤ y ∧ y < 192) = true by simp; omega] at s
    exact ⟨s, q⟩
  obtain ⟨c16, f16⟩ := hl.pb.at 16 hI.at16
  obtain ⟨c18, f18⟩ := hl.pb.at 18 hl.at18
  obtain ⟨c20, f20⟩ := hl.pb.at 20 hl.at20
  obtain ⟨c21, f21⟩ := hl.pb.at 21 hl.at21
  obtain ⟨c22, f22⟩ := hl.pb.at 22 hI.at22
  obtain ⟨c23, f23⟩ := hl.pb.at 23 hl.at23
  obtain ⟨cr0, fr0⟩ := hl.rb.at rpos hraw0
  unfold by8 at cr0
  obtain ⟨cr1, fr1⟩ := hl.rb.at (rpos + 1) hraw1
  unfold by8 at cr1
  have hHI := Lib.hid hI
  have hHA := Lib.hid hA
  have HKK := Lib.hid hK
  have e1 : ((rpos : Int) != (rl : Int)) = true := by rw [bne_iff_ne]; omega
  have e2 : (rpos != rl) = true := by rw [bne_iff_ne]; omega
  have e3 : (rpos : Int) ≤ (rl : Int) := by omega
  have e4 : (rl : Int) ≤ 512 := by have := hl.hrl; omega
  have e5 : (0 : Int) ≤ (rpos : Int) := by omega
  have e6 : (rpos : Int) < (rl : Int) := by omega
  rw [lit690 a hsz hdf, h0, h5]
  have HOX := Lib.hid hx
  obtain ⟨off, HOFF⟩ : ∃ off : Nat, Hid (ip - (rl - rpos) = off) := ⟨_, rfl⟩
  have e11 : (off : Int) ≤ 2147483647 := by have := hI.ok.tlen; have := hl.hip; have := HOFF.out; omega
  rw [HOFF.out] at c23
  have hpq : ¬ p = k.q := hI.ok.pq
  have hqp : ¬ k.q = p := Ne.symm hI.ok.pq
  obtain ⟨yq0, hyq0⟩ := hl.qall (b) (by omega)
  have cq0 : w.cell? ⟨k.q, b, none⟩ = some (by8 yq0) := ((hl.qb.cell (b)).1).trans hyq0
  have fq0 : w.frozen? ⟨k.q, b, none⟩ = false := (hl.qb.cell (b)).2
  obtain ⟨yq1, hyq1⟩ := hl.qall (b + 1) (by omega)
  have cq1 : w.cell? ⟨k.q, b + 1, none⟩ = some (by8 yq1) := ((hl.qb.cell (b + 1)).1).trans hyq1
  have fq1 : w.frozen? ⟨k.q, b + 1, none⟩ = false := (hl.qb.cell (b + 1)).2
  have e7 : (b : Int) < 1536 := by omega
  have e8 : (0 : Int) ≤ (b : Int) := by omega
  have e9 : (rpos : Int) + 2 ≤ 512 := by omega
  have e10 : (u : Int) ≤ 1000 := by have := hA.at1; have := hA.at2; have := adv_ge k.T c u; omega
  clear hI hA hK hl hraw0 hraw1 hx hyq0 hyq1
  have w0 : ¬ ((rl : Int) - (rpos : Int) < 2) := by omega
  have w1 : decide ((rl : Int) - (rpos : Int) < 2) = false := decide_eq_false w0
  conv => arg 2; whnf
  go_wp2_with fail
  go_quiet (fail)
  go_wp2_with fail
  go_quiet (fail)
  go_wp2_with fail
  go_quiet (fail)
  go_wp2_with fail
  refine wp_loop_rounds 2 ?_
  rw [rounds_succ]
  go_wp2_with fail
  go_quiet (fail)
  go_wp2_with fail
  obtain ⟨v, HV⟩ : ∃ v, Hid (x % 32 * 64 + y % 64 = v) := ⟨_, rfl⟩
  rw [HV.out]
  have hv : 128 ≤ v ∧ v ≤ 2047 ∧ (v = 133 ∨ 160 ≤ v) := by
    have h1 := HV.out
    have h2 := HOX.out
    unfold Ok2 at h2
    omega
  have d1 : decide (128 ≤ v) = true := by simp; omega
  have d2 : decide (2048 ≤ v) = false := by simp; omega
  have d3 : decide (65536 ≤ v) = false := by simp; omega
  have d5 : decide (1114111 < v) = false := by simp; omega
  have d7 : decide (32 ≤ v) = true := by simp; omega
  have d8 : decide (v ≤ 126) = false := by simp; omega
  have d16 : decide (v ≤ 127) = false := by simp; omega
  have d17 : decide (v ≤ 2047) = true := by simp; omega
  have d18 : decide (v ≤ 65535) = true := by simp; omega
  have q9 : (v == 9) = false := by simp; omega
  have q10 : (v == 10) = false := by simp; omega
  have q13 : (v == 13) = false := by simp; omega
  rw [rounds_succ]
  have hx1 := HV.out
  clear hx1
  have hw : (v = 133) ∨ (160 ≤ v) := by omega
  rcases hw with hw | hw
  · have g133 : (v == 133) = true := by simp; omega
    have g55 : decide (55296 ≤ v) = false := by simp; omega
    clear hv hw
    go_wp2_with fail
    have E0 : wrap32 (192 + v / 64) % 256 = x := by rw [IntWalk.wrap32_in _ (by have := HV.out; omega)]; have := HV.out; omega
    have E1 : wrap32 (128 + Go.bits .and .i32 v 63) % 256 = y := by rw [m63 v (by have := HV.out; omega) (by have := HV.out; omega)]; rw [IntWalk.wrap32_in _ (by have := HV.out; omega)]; have := HV.out; omega
    rw [E0, E1]
    have hfin := fun N => (hHI.out.drewN N).eat2 hHA.out (by omega) hnx hb (v18 := (u : Int) + 1) (v21 := (rpos : Int) + 2) (v23 := (off : Int) + 2) (x0 := x) (x1 := y) (by omega) (by omega) (by have := HOFF.out; omega) HX.out HY.out
    exact HKK.out _ _ _ _ ⟨rfl, rfl, by rw [h0]; rfl, rfl, rfl, rfl⟩ (hfin _).1 (hfin 0).2.1 (hfin 0).2.2
  · have g133 : (v == 133) = false := by simp; omega
    have g0 : decide (55296 ≤ v) = false := by simp; omega
    have g1 : decide (160 ≤ v) = true := by simp; omega
    have g2 : decide (v ≤ 55295) = true := by simp; omega
    clear hv hw
    go_wp2_with fail
    have E0 : wrap32 (192 + v / 64) % 256 = x := by rw [IntWalk.wrap32_in _ (by have := HV.out; omega)]; have := HV.out; omega
    have E1 : wrap32 (128 + Go.bits .and .i32 v 63) % 256 = y := by rw [m63 v (by have := HV.out; omega) (by have := HV.out; omega)]; rw [IntWalk.wrap32_in _ (by have := HV.out; omega)]; have := HV.out; omega
    rw [E0, E1]
    have hfin := fun N => (hHI.out.drewN N).eat2 hHA.out (by omega) hnx hb (v18 := (u : Int) + 1) (v21 := (rpos : Int) + 2) (v23 := (off : Int) + 2) (x0 := x) (x1 := y) (by omega) (by omega) (by have := HOFF.out; omega) HX.out HY.out
    exact HKK.out _ _ _ _ ⟨rfl, rfl, by rw [h0]; rfl, rfl, rfl, rfl⟩ (hfin _).1 (hfin 0).2.1 (hfin 0).2.2
end Go.Proofs.YtocbbekciphjgaaDoor.Pa
/- PaQ3 -/
/- One character of 3 bytes is decoded (yaml_parser_update_buffer, the inner loop's round): the walk. Printed by genPaQ.py. -/
namespace Go.Proofs.YtocbbekciphjgaaDoor.Pa
open Go.RowKit Go.Proofs.YtocbbekciphjgaaDoor.Rdp
set_option linter.unusedVariables false
set_option linter.unusedSimpArgs false
set_option maxHeartbeats 8000000 in
set_option maxRecDepth 100000 in
theorem in3 {k : Kn} {p c u b rl rpos ip : Nat} {eof : Bool} {L0 L RL BL : List Value} {w0 w : World} {a : Act} {K : Act → World → Prop} {Q : Exit → Act → World → Prop} (hI : Inn k p c u b rl rpos ip eof L0 L RL BL w0 w) (hA : ModeA k.T c u b (rl - rpos) ip) (hb : b + (rl - rpos) ≤ 540) (hlt : rpos + 3 ≤ rl)
    (hx : Ok3 (S k.T (ip - (rl - rpos))) (S k.T (ip - (rl - rpos) + 1)) (S k.T (ip - (rl - rpos) + 2))) (hnx : nx k.T (ip - (rl - rpos)) = ip - (rl - rpos) + 3) (hsz : a.tmps.size = 690) (hdf : a.defers = []) (h0 : gt a 0 = .pointer (some ⟨p, 0, none⟩)) (h5 : gt a 5 = .int .i64 (b : Nat))
    (hK : ∀ a' w' L' BL', Fr a a' (b + 3) → Inn k p c (u + 1) (b + 3) rl (rpos + 3) ip eof L0 L' RL BL' w0 w' → ModeA k.T c (u + 1) (b + 3) (rl - (rpos + 3)) ip → b + 3 + (rl - (rpos + 3)) ≤ 540 → K a' w') :
    iBody.wp Tryd.prog (Exit.then K Q) a w := by
  have hl := hI.lay
  have hraw0 := hl.raw 0 (by omega)
  have hraw1 := hl.raw 1 (by omega)
  have hraw2 := hl.raw 2 (by omega)
  rw [Nat.add_zero, Nat.add_zero] at hraw0
  obtain ⟨x, HX⟩ : ∃ x, Hid (x = S k.T (ip - (rl - rpos))) := ⟨_, rfl⟩
  rw [← HX.out] at hraw0 hx
  obtain ⟨y, HY⟩ : ∃ y, Hid (y = S k.T (ip - (rl - rpos) + 1)) := ⟨_, rfl⟩
  rw [← HY.out] at hraw1 hx
  obtain ⟨z, HZ⟩ : ∃ z, Hid (z = S k.T (ip - (rl - rpos) + 2)) := ⟨_, rfl⟩
  rw [← HZ.out] at hraw2 hx
  have rx : 224 ≤ x ∧ x ≤ 239 := by unfold Ok3 at hx; omega
  have ry : 128 ≤ y ∧ y ≤ 191 := by unfold Ok3 at hx; omega
  have rz : 128 ≤ z ∧ z ≤ 191 := by unfold Ok3 at hx; omega
  obtain ⟨t1, t2, t3, t4, t5, t6, t7, t8, t9, t10⟩ := bits_at x (by omega) (by omega)
  rw [show decide (x < 128) = false by simp; omega] at t1
  rw [show decide (192 ≤ x ∧ x < 224) = false by simp; omega] at t2
  rw [show decide (224 ≤ x ∧ x < 240) = true by simp; omega] at t3
  rw [show decide (240 ≤ x ∧ x < 248) = false by simp; omega] at t4
  obtain ⟨sy, qy⟩ : (Go.bits .and .u8 y 192 != 128) = false ∧ Go.bits .and .u8 y 63 = y % 64 := by
    obtain ⟨_, _, _, _, s, _, _, _, _, q⟩ := bits_at y (by omega) (by omega)
    rw [show decide (128 ≤ y ∧ y < 192) = true by simp; omega] at s
    exact ⟨s, q⟩
  obtain ⟨sz, qz⟩ : (Go.bits .and .u8 z 192 != 128) = false ∧ Go.bits .and .u8 z 63 = z % 64 := by
    obtain ⟨_, _, _, _, s, _, _, _, _, q⟩ := bits_at z (by omega) (by omega)
    rw [show decide (128 ≤ z ∧ z < 192) = true by simp; omega] at s
    exact ⟨s, q⟩
  obtain ⟨c16, f16⟩ := hl.pb.at 16 hI.at16
  obtain ⟨c18, f18⟩ := hl.pb.at 18 hl.at18
  obtain ⟨c20, f20⟩ := hl.pb.at 20 hl.at20
  obtain ⟨c21, f21⟩ := hl.pb.at 21 hl.at21
  obtain ⟨c22, f22⟩ := hl.pb.at 22 hI.at22
  obtain ⟨c23, f23⟩ := hl.pb.at 23 hl.at23
  obtain ⟨cr0, fr0⟩ := hl.rb.at rpos hraw0
  unfold by8 at cr0
  obtain ⟨cr1, fr1⟩ := hl.rb.at (rpos + 1) hraw1
  unfold by8 at cr1
  obtain ⟨cr2, fr2⟩ := hl.rb.at (rpos + 2) hraw2
  unfold by8 at cr2
  have hHI := Lib.hid hI
  have hHA := Lib.hid hA
  have HKK := Lib.hid hK
  have e1 : ((rpos : Int) != (rl : Int)) = true := by rw [bne_iff_ne]; omega
  have e2 : (rpos != rl) = true := by rw [bne_iff_ne]; omega
  have e3 : (rpos : Int) ≤ (rl : Int) := by omega
  have e4 : (rl : Int) ≤ 512 := by have := hl.hrl; omega
  have e5 : (0 : Int) ≤ (rpos : Int) := by omega
  have e6 : (rpos : Int) < (rl : Int) := by omega
  rw [lit690 a hsz hdf, h0, h5]
  have HOX := Lib.hid hx
  obtain ⟨off, HOFF⟩ : ∃ off : Nat, Hid (ip - (rl - rpos) = off) := ⟨_, rfl⟩
  have e11 : (off : Int) ≤ 2147483647 := by have := hI.ok.tlen; have := hl.hip; have := HOFF.out; omega
  rw [HOFF.out] at c23
  have hpq : ¬ p = k.q := hI.ok.pq
  have hqp : ¬ k.q = p := Ne.symm hI.ok.pq
  obtain ⟨yq0, hyq0⟩ := hl.qall (b) (by omega)
  have cq0 : w.cell? ⟨k.q, b, none⟩ = some (by8 yq0) := ((hl.qb.cell (b)).1).trans hyq0
  have fq0 : w.frozen? ⟨k.q, b, none⟩ = false := (hl.qb.cell (b)).2
  obtain ⟨yq1, hyq1⟩ := hl.qall (b + 1) (by omega)
  have cq1 : w.cell? ⟨k.q, b + 1, none⟩ = some (by8 yq1) := ((hl.qb.cell (b + 1)).1).trans hyq1
  have fq1 : w.frozen? ⟨k.q, b + 1, none⟩ = false := (hl.qb.cell (b + 1)).2
  obtain ⟨yq2, hyq2⟩ := hl.qall (b + 2) (by omega)
  have cq2 : w.cell? ⟨k.q, b + 2, none⟩ = some (by8 yq2) := ((hl.qb.cell (b + 2)).1).trans hyq2
  have fq2 : w.frozen? ⟨k.q, b + 2, none⟩ = false := (hl.qb.cell (b + 2)).2
  have e7 : (b : Int) < 1536 := by omega
  have e8 : (0 : Int) ≤ (b : Int) := by omega
  have e9 : (rpos : Int) + 3 ≤ 512 := by omega
  have e10 : (u : Int) ≤ 1000 := by have := hA.at1; have := hA.at2; have := adv_ge k.T c u; omega
  clear hI hA hK hl hraw0 hraw1 hraw2 hx hyq0 hyq1 hyq2
  have w0 : ¬ ((rl : Int) - (rpos : Int) < 3) := by omega
  have w1 : decide ((rl : Int) - (rpos : Int) < 3) = false := decide_eq_false w0
  conv => arg 2; whnf
  go_wp2_with fail
  go_quiet (fail)
  go_wp2_with fail
  go_quiet (fail)
  go_wp2_with fail
  go_quiet (fail)
  go_wp2_with fail
  refine wp_loop_rounds 3 ?_
  rw [rounds_succ]
  go_wp2_with fail
  go_quiet (fail)
  go_wp2_with fail
  rw [rounds_succ]
  go_wp2_with fail
  go_quiet (fail)
  go_wp2_with fail
  obtain ⟨v, HV⟩ : ∃ v, Hid ((x % 16 * 64 + y % 64) * 64 + z % 64 = v) := ⟨_, rfl⟩
  rw [HV.out]
  have hv : 2048 ≤ v ∧ v ≤ 65535 ∧ (v ≤ 55295 ∨ (57344 ≤ v ∧ v ≤ 65533)) := by
    have h1 := HV.out
    have h2 := HOX.out
    unfold Ok3 at h2
    omega
  have d1 : decide (128 ≤ v) = true := by simp; omega
  have d2 : decide (2048 ≤ v) = true := by simp; omega
  have d3 : decide (65536 ≤ v) = false := by simp; omega
  have d5 : decide (1114111 < v) = false := by simp; omega
  have d7 : decide (32 ≤ v) = true := by simp; omega
  have d8 : decide (v ≤ 126) = false := by simp; omega
  have d16 : decide (v ≤ 127) = false := by simp; omega
  have d17 : decide (v ≤ 2047) = false := by simp; omega
  have d18 : decide (v ≤ 65535) = true := by simp; omega
  have q9 : (v == 9) = false := by simp; omega
  have q10 : (v == 10) = false := by simp; omega
  have q13 : (v == 13) = false := by simp; omega
  rw [rounds_succ]
  have hx1 := HV.out
  clear hx1
  have hw : (v ≤ 55295) ∨ (57344 ≤ v ∧ v ≤ 65533) := by omega
  rcases hw with hw | hw
  · have g133 : (v == 133) = false := by simp; omega
    have g0 : decide (55296 ≤ v) = false := by simp; omega
    have g1 : decide (160 ≤ v) = true := by simp; omega
    have g2 : decide (v ≤ 55295) = true := by simp; omega
    clear hv hw
    go_wp2_with fail
    have E0 : wrap32 (224 + v / 4096) % 256 = x := by rw [IntWalk.wrap32_in _ (by have := HV.out; omega)]; have := HV.out; omega
    have E1 : wrap32 (128 + Go.bits .and .i32 (v / 64) 63) % 256 = y := by rw [m63 (v / 64) (by have := HV.out; omega) (by have := HV.out; omega)]; rw [IntWalk.wrap32_in _ (by have := HV.out; omega)]; have := HV.out; omega
    have E2 : wrap32 (128 + Go.bits .and .i32 v 63) % 256 = z := by rw [m63 v (by have := HV.out; omega) (by have := HV.out; omega)]; rw [IntWalk.wrap32_in _ (by have := HV.out; omega)]; have := HV.out; omega
    rw [E0, E1, E2]
    have hfin := fun N => (hHI.out.drewN N).eat3 hHA.out (by omega) hnx hb (v18 := (u : Int) + 1) (v21 := (rpos : Int) + 3) (v23 := (off : Int) + 3) (x0 := x) (x1 := y) (x2 := z) (by omega) (by omega) (by have := HOFF.out; omega) HX.out HY.out HZ.out
    exact HKK.out _ _ _ _ ⟨rfl, rfl, by rw [h0]; rfl, rfl, rfl, rfl⟩ (hfin _).1 (hfin 0).2.1 (hfin 0).2.2
  · have g133 : (v == 133) = false := by simp; omega
    have g0 : decide (55296 ≤ v) = true := by simp; omega
    have g1 : decide (v ≤ 57343) = false := by simp; omega
    have g2 : decide (160 ≤ v) = true := by simp; omega
    have g3 : decide (v ≤ 55295) = false := by simp; omega
    have g4 : decide (57344 ≤ v) = true := by simp; omega
    have g5 : decide (v ≤ 65533) = true := by simp; omega
    clear hv hw
    go_wp2_with fail
    have E0 : wrap32 (224 + v / 4096) % 256 = x := by rw [IntWalk.wrap32_in _ (by have := HV.out; omega)]; have := HV.out; omega
    have E1 : wrap32 (128 + Go.bits .and .i32 (v / 64) 63) % 256 = y := by rw [m63 (v / 64) (by have := HV.out; omega) (by have := HV.out; omega)]; rw [IntWalk.wrap32_in _ (by have := HV.out; omega)]; have := HV.out; omega
    have E2 : wrap32 (128 + Go.bits .and .i32 v 63) % 256 = z := by rw [m63 v (by have := HV.out; omega) (by have := HV.out; omega)]; rw [IntWalk.wrap32_in _ (by have := HV.out; omega)]; have := HV.out; omega
    rw [E0, E1, E2]
    have hfin := fun N => (hHI.out.drewN N).eat3 hHA.out (by omega) hnx hb (v18 := (u : Int) + 1) (v21 := (rpos : Int) + 3) (v23 := (off : Int) + 3) (x0 := x) (x1 := y) (x2 := z) (by omega) (by omega) (by have := HOFF.out; omega) HX.out HY.out HZ.out
    exact HKK.out _ _ _ _ ⟨rfl, rfl, by rw [h0]; rfl, rfl, rfl, rfl⟩ (hfin _).1 (hfin 0).2.1 (hfin 0).2.2
end Go.Proofs.YtocbbekciphjgaaDoor.Pa
/- PaQ4 -/
/- One character of 4 bytes is decoded (yaml_parser_update_buffer, the inner loop's round): the walk. Printed by genPaQ.py. -/
namespace Go.Proofs.YtocbbekciphjgaaDoor.Pa
open Go.RowKit Go.Proofs.YtocbbekciphjgaaDoor.Rdp
set_option linter.unusedVariables false
set_option linter.unusedSimpArgs false
set_option maxHeartbeats 8000000 in
set_option maxRecDepth 100000 in
theorem in4 {k : Kn} {p c u b rl rpos ip : Nat} {eof : Bool} {L0 L RL BL : List Value} {w0 w : World} {a : Act} {K : Act → World → Prop} {Q : Exit → Act → World → Prop} (hI : Inn k p c u b rl rpos ip eof L0 L RL BL w0 w) (hA : ModeA k.T c u b (rl - rpos) ip) (hb : b + (rl - rpos) ≤ 540) (hlt : rpos + 4 ≤ rl)
    (hx : Ok4 (S k.T (ip - (rl - rpos))) (S k.T (ip - (rl - rpos) + 1)) (S k.T (ip - (rl - rpos) + 2)) (S k.T (ip - (rl - rpos) + 3))) (hnx : nx k.T (ip - (rl - rpos)) = ip - (rl - rpos) + 4) (hsz : a.tmps.size = 690) (hdf : a.defers = []) (h0 : gt a 0 = .pointer (some ⟨p, 0, none⟩)) (h5 : gt a 5 = .int .i64 (b : Nat))
    (hK : ∀ a' w' L' BL', Fr a a' (b + 4) → Inn k p c (u + 1) (b + 4) rl (rpos + 4) ip eof L0 L' RL BL' w0 w' → ModeA k.T c (u + 1) (b + 4) (rl - (rpos + 4)) ip → b + 4 + (rl - (rpos + 4)) ≤ 540 → K a' w') :
    iBody.wp Tryd.prog (Exit.then K Q) a w := by
  have hl := hI.lay
  have hraw0 := hl.raw 0 (by omega)
  have hraw1 := hl.raw 1 (by omega)
  have hraw2 := hl.raw 2 (by omega)
  have hraw3 := hl.raw 3 (by omega)
  rw [Nat.add_zero, Nat.add_zero] at hraw0
  obtain ⟨x, HX⟩ : ∃ x, Hid (x = S k.T (ip - (rl - rpos))) := ⟨_, rfl⟩
  rw [← HX.out] at hraw0 hx
  obtain ⟨y, HY⟩ : ∃ y, Hid (y = S k.T (ip - (rl - rpos) + 1)) := ⟨_, rfl⟩
  rw [← HY.out] at hraw1 hx
  obtain ⟨z, HZ⟩ : ∃ z, Hid (z = S k.T (ip - (rl - rpos) + 2)) := ⟨_, rfl⟩
  rw [← HZ.out] at hraw2 hx
  obtain ⟨t, HT⟩ : ∃ t, Hid (t = S k.T (ip - (rl - rpos) + 3)) := ⟨_, rfl⟩
  rw [← HT.out] at hraw3 hx
  have rx : 240 ≤ x ∧ x ≤ 244 := by unfold Ok4 at hx; omega
  have ry : 128 ≤ y ∧ y ≤ 191 := by unfold Ok4 at hx; omega
  have rz : 128 ≤ z ∧ z ≤ 191 := by unfold Ok4 at hx; omega
  have rt : 128 ≤ t ∧ t ≤ 191 := by unfold Ok4 at hx; omega
  obtain ⟨t1, t2, t3, t4, t5, t6, t7, t8, t9, t10⟩ := bits_at x (by omega) (by omega)
  rw [show decide (x < 128) = false by simp; omega] at t1
  rw [show decide (192 ≤ x ∧ x < 224) = false by simp; omega] at t2
  rw [show decide (224 ≤ x ∧ x < 240) = false by simp; omega] at t3
  rw [show decide (240 ≤ x ∧ x < 248) = true by simp; omega] at t4
  obtain ⟨sy, qy⟩ : (Go.bits .and .u8 y 192 != 128) = false ∧ Go.bits .and .u8 y 63 = y % 64 := by
    obtain ⟨_, _, _, _, s, _, _, _, _, q⟩ := bits_at y (by omega) (by omega)
    rw [show decide (128 ≤ y ∧ y < 192) = true by simp; omega] at s
    exact ⟨s, q⟩
  obtain ⟨sz, qz⟩ : (Go.bits .and .u8 z 192 != 128) = false ∧ Go.bits .and .u8 z 63 = z % 64 := by
    obtain ⟨_, _, _, _, s, _, _, _, _, q⟩ := bits_at z (by omega) (by omega)
    rw [show decide (128 ≤ z ∧ z < 192) = true by simp; omega] at s
    exact ⟨s, q⟩
  obtain ⟨st, qt⟩ : (Go.bits .and .u8 t 192 != 128) = false ∧ Go.bits .and .u8 t 63 = t % 64 := by
    obtain ⟨_, _, _, _, s, _, _, _, _, q⟩ := bits_at t (by omega) (by omega)
    rw [show decide (128 ≤ t ∧ t < 192) = true by simp; omega] at s
    exact ⟨s, q⟩
  obtain ⟨c16, f16⟩ := hl.pb.at 16 hI.at16
  obtain ⟨c18, f18⟩ := hl.pb.at 18 hl.at18
  obtain ⟨c20, f20⟩ := hl.pb.at 20 hl.at20
  obtain ⟨c21, f21⟩ := hl.pb.at 21 hl.at21
  obtain ⟨c22, f22⟩ := hl.pb.at 22 hI.at22
  obtain ⟨c23, f23⟩ := hl.pb.at 23 hl.at23
  obtain ⟨cr0, fr0⟩ := hl.rb.at rpos hraw0
  unfold by8 at cr0
  obtain ⟨cr1, fr1⟩ := hl.rb.at (rpos + 1) hraw1
  unfold by8 at cr1
  obtain ⟨cr2, fr2⟩ := hl.rb.at (rpos + 2) hraw2
  unfold by8 at cr2
  obtain ⟨cr3, fr3⟩ := hl.rb.at (rpos + 3) hraw3
  unfold by8 at cr3
  have hHI := Lib.hid hI
  have hHA := Lib.hid hA
  have HKK := Lib.hid hK
  have e1 : ((rpos : Int) != (rl : Int)) = true := by rw [bne_iff_ne]; omega
  have e2 : (rpos != rl) = true := by rw [bne_iff_ne]; omega
  have e3 : (rpos : Int) ≤ (rl : Int) := by omega
  have e4 : (rl : Int) ≤ 512 := by have := hl.hrl; omega
  have e5 : (0 : Int) ≤ (rpos : Int) := by omega
  have e6 : (rpos : Int) < (rl : Int) := by omega
  rw [lit690 a hsz hdf, h0, h5]
  have HOX := Lib.hid hx
  obtain ⟨off, HOFF⟩ : ∃ off : Nat, Hid (ip - (rl - rpos) = off) := ⟨_, rfl⟩
  have e11 : (off : Int) ≤ 2147483647 := by have := hI.ok.tlen; have := hl.hip; have := HOFF.out; omega
  rw [HOFF.out] at c23
  have hpq : ¬ p = k.q := hI.ok.pq
  have hqp : ¬ k.q = p := Ne.symm hI.ok.pq
  obtain ⟨yq0, hyq0⟩ := hl.qall (b) (by omega)
  have cq0 : w.cell? ⟨k.q, b, none⟩ = some (by8 yq0) := ((hl.qb.cell (b)).1).trans hyq0
  have fq0 : w.frozen? ⟨k.q, b, none⟩ = false := (hl.qb.cell (b)).2
  obtain ⟨yq1, hyq1⟩ := hl.qall (b + 1) (by omega)
  have cq1 : w.cell? ⟨k.q, b + 1, none⟩ = some (by8 yq1) := ((hl.qb.cell (b + 1)).1).trans hyq1
  have fq1 : w.frozen? ⟨k.q, b + 1, none⟩ = false := (hl.qb.cell (b + 1)).2
  obtain ⟨yq2, hyq2⟩ := hl.qall (b + 2) (by omega)
  have cq2 : w.cell? ⟨k.q, b + 2, none⟩ = some (by8 yq2) := ((hl.qb.cell (b + 2)).1).trans hyq2
  have fq2 : w.frozen? ⟨k.q, b + 2, none⟩ = false := (hl.qb.cell (b + 2)).2
  obtain ⟨yq3, hyq3⟩ := hl.qall (b + 3) (by omega)
  have cq3 : w.cell? ⟨k.q, b + 3, none⟩ = some (by8 yq3) := ((hl.qb.cell (b + 3)).1).trans hyq3
  have fq3 : w.frozen? ⟨k.q, b + 3, none⟩ = false := (hl.qb.cell (b + 3)).2
  have e7 : (b : Int) < 1536 := by omega
  have e8 : (0 : Int) ≤ (b : Int) := by omega
  have e9 : (rpos : Int) + 4 ≤ 512 := by omega
  have e10 : (u : Int) ≤ 1000 := by have := hA.at1; have := hA.at2; have := adv_ge k.T c u; omega
  clear hI hA hK hl hraw0 hraw1 hraw2 hraw3 hx hyq0 hyq1 hyq2 hyq3
  have w0 : ¬ ((rl : Int) - (rpos : Int) < 4) := by omega
  have w1 : decide ((rl : Int) - (rpos : Int) < 4) = false := decide_eq_false w0
  conv => arg 2; whnf
  go_wp2_with fail
  go_quiet (fail)
  go_wp2_with fail
  go_quiet (fail)
  go_wp2_with fail
  go_quiet (fail)
  go_wp2_with fail
  refine wp_loop_rounds 4 ?_
  rw [rounds_succ]
  go_wp2_with fail
  go_quiet (fail)
  go_wp2_with fail
  rw [rounds_succ]
  go_wp2_with fail
  go_quiet (fail)
  go_wp2_with fail
  rw [rounds_succ]
  go_wp2_with fail
  go_quiet (fail)
  go_wp2_with fail
  obtain ⟨v, HV⟩ : ∃ v, Hid (((x % 8 * 64 + y % 64) * 64 + z % 64) * 64 + t % 64 = v) := ⟨_, rfl⟩
  rw [HV.out]
  have hv : 65536 ≤ v ∧ v ≤ 1114111 := by
    have h1 := HV.out
    have h2 := HOX.out
    unfold Ok4 at h2
    omega
  have d1 : decide (128 ≤ v) = true := by simp; omega
  have d2 : decide (2048 ≤ v) = true := by simp; omega
  have d3 : decide (65536 ≤ v) = true := by simp; omega
  have d5 : decide (1114111 < v) = false := by simp; omega
  have d7 : decide (32 ≤ v) = true := by simp; omega
  have d8 : decide (v ≤ 126) = false := by simp; omega
  have d16 : decide (v ≤ 127) = false := by simp; omega
  have d17 : decide (v ≤ 2047) = false := by simp; omega
  have d18 : decide (v ≤ 65535) = false := by simp; omega
  have q9 : (v == 9) = false := by simp; omega
  have q10 : (v == 10) = false := by simp; omega
  have q13 : (v == 13) = false := by simp; omega
  rw [rounds_succ]
  have hx1 := HV.out
  clear hx1
  have g133 : (v == 133) = false := by simp; omega
  have g0 : decide (55296 ≤ v) = true := by simp; omega
  have g1 : decide (v ≤ 57343) = false := by simp; omega
  have g2 : decide (160 ≤ v) = true := by simp; omega
  have g3 : decide (v ≤ 55295) = false := by simp; omega
  have g4 : decide (57344 ≤ v) = true := by simp; omega
  have g5 : decide (v ≤ 65533) = false := by simp; omega
  have g6 : decide (v ≤ 1114111) = true := by simp; omega
  clear hv
  go_wp2_with fail
  have E0 : wrap32 (240 + v / 262144) % 256 = x := by rw [IntWalk.wrap32_in _ (by have := HV.out; omega)]; have := HV.out; omega
  have E1 : wrap32 (128 + Go.bits .and .i32 (v / 4096) 63) % 256 = y := by rw [m63 (v / 4096) (by have := HV.out; omega) (by have := HV.out; omega)]; rw [IntWalk.wrap32_in _ (by have := HV.out; omega)]; have := HV.out; omega
  have E2 : wrap32 (128 + Go.bits .and .i32 (v / 64) 63) % 256 = z := by rw [m63 (v / 64) (by have := HV.out; omega) (by have := HV.out; omega)]; rw [IntWalk.wrap32_in _ (by have := HV.out; omega)]; have := HV.out; omega
  have E3 : wrap32 (128 + Go.bits .and .i32 v 63) % 256 = t := by rw [m63 v (by have := HV.out; omega) (by have := HV.out; omega)]; rw [IntWalk.wrap32_in _ (by have := HV.out; omega)]; have := HV.out; omega
  rw [E0, E1, E2, E3]
  have hfin := fun N => (hHI.out.drewN N).eat4 hHA.out (by omega) hnx hb (v18 := (u : Int) + 1) (v21 := (rpos : Int) + 4) (v23 := (off : Int) + 4) (x0 := x) (x1 := y) (x2 := z) (x3 := t) (by omega) (by omega) (by have := HOFF.out; omega) HX.out HY.out HZ.out HT.out
  exact HKK.out _ _ _ _ ⟨rfl, rfl, by rw [h0]; rfl, rfl, rfl, rfl⟩ (hfin _).1 (hfin 0).2.1 (hfin 0).2.2
end Go.Proofs.YtocbbekciphjgaaDoor.Pa

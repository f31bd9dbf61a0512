/- QiA, Al, Lex: parts of the proof, one behind another. -/
import Derived.Test.YtocbbekciphjgaaDoorRows
import Derived.WalkKit
import Derived.WalkSpells
import Derived.WalkLawsBesides
import Derived.BigGuard
import Derived.BigCall
import Derived.Deep.Quiet
import Derived.Test.YtocbbekciphjgaaDoorMz1
import Derived.Test.YtocbbekciphjgaaDoorMh2
import Derived.Test.YtocbbekciphjgaaDoorMh5
import Derived.Test.YtocbbekciphjgaaDoorMh6
/- QiA -/
/- The lines of a block scalar (yaml_parser_scan_block_scalar): its frames, and what stands in memory. Printed by genQi.py. -/
namespace Go.Proofs.YtocbbekciphjgaaDoor.Bs
open Go.RowKit Go.Proofs.YtocbbekciphjgaaDoor.Rdp Go.Proofs.YtocbbekciphjgaaDoor.Pa Go.Proofs.YtocbbekciphjgaaDoor.Sc Go.Proofs.YtocbbekciphjgaaDoor.Qd
set_option linter.unusedVariables false
set_option linter.unusedSimpArgs false
/-- A frame behind the header. -/
structure Fq (p t mk : Nat) (li : Bool) (ch : Int) (eb ib bb : Nat) (sv lbv v15 v16 : Value) (a : Act) : Prop where
  size : a.tmps.size = 464
  defers : a.defers = []
  s0 : gt a 0 = .pointer (some ⟨p, 0, none⟩)
  s1 : gt a 1 = .pointer (some ⟨t, 0, none⟩)
  s2 : gt a 2 = .bool li
  s7 : gt a 7 = .pointer (some ⟨mk, 0, none⟩)
  s8 : gt a 8 = .int .i64 ch
  s10 : gt a 10 = .pointer (some ⟨eb, 0, none⟩)
  s11 : gt a 11 = .pointer (some ⟨ib, 0, none⟩)
  s12 : gt a 12 = sv
  s13 : gt a 13 = lbv
  s14 : gt a 14 = .pointer (some ⟨bb, 0, none⟩)
  s15 : gt a 15 = v15
  s16 : gt a 16 = v16
/-- What does not turn. -/
structure Cq (k : Kn) (p mk lo ib bb eb : Nat) (s0 s1 s2 : Int) (L0 : List Value) (pn : Int) (w1 : World) : Prop where
  cb : Cb k p lo ib bb eb L0 pn
  low : w1.heap.size = lo
  mark : Bk w1 mk 74 [.int .i64 s0, .int .i64 s1, .int .i64 s2]
  own : mk ∉ ib :: bb :: eb :: k.bs p
/-- What stands in memory. -/
structure Sq (k : Kn) (p lo ib bb eb : Nat) (L0 : List Value) (w1 : World) (c u col : Nat) (rest : List Int) (d : Nat) (s lb : List Int) (tb : Nat) (sv lbv tbv : Value) (w : World) : Prop where
  here : At k p L0 c u col rest w
  bi : Bk w ib 3 [.int .i64 (d : Nat)]
  bv : Bk w bb 22 [tbv]
  be : ∃ e0 e1 e2 : Int, Bk w eb 74 [.int .i64 e0, .int .i64 e1, .int .i64 e2]
  r12 : Row lo w sv s
  r13 : Row lo w lbv lb
  r14 : Row lo w tbv (nls tb)
  a23 : Sep sv lbv
  a24 : Sep sv tbv
  a34 : Sep lbv tbv
  kp : Kp (ib :: bb :: eb :: k.bs p) w1 w
  sz : s.length + lb.length + tb ≤ 4 * c
theorem nls_len (n : Nat) : (nls n).length = n := by unfold nls; simp
theorem Sq.drewN {k : Kn} {p lo ib bb eb : Nat} {L0 : List Value} {w1 : World} {c u col : Nat} {rest s lb : List Int} {d tb : Nat} {sv lbv tbv : Value} {w : World} (h : Sq k p lo ib bb eb L0 w1 c u col rest d s lb tb sv lbv tbv w) (n : Nat) : Sq k p lo ib bb eb L0 w1 c u col rest d s lb tb sv lbv tbv (w.drewN n) :=
  ⟨h.here.drewN n, h.bi, h.bv, h.be, h.r12, h.r13, h.r14, h.a23, h.a24, h.a34, h.kp.drewN n, h.sz⟩
theorem Sq.turn {k : Kn} {p lo ib bb eb : Nat} {L0 : List Value} {pn : Int} (hC : Cb k p lo ib bb eb L0 pn) {w1 : World} {c u col c' u' col' : Nat} {rest rest' s lb : List Int} {d tb : Nat} {sv lbv tbv : Value} {w w' : World} (h : Sq k p lo ib bb eb L0 w1 c u col rest d s lb tb sv lbv tbv w) (hk : Kp (k.bs p) w w') (ha : At k p L0 c' u' col' rest' w') (hc : c ≤ c') : Sq k p lo ib bb eb L0 w1 c' u' col' rest' d s lb tb sv lbv tbv w' := by
  obtain ⟨e0, e1, e2, he⟩ := h.be
  have own : ∀ {v : Value} {l : List Int}, Row lo w v l → Row lo w' v l := fun h => h.kp hk (fun b hb hh => (hC.far b (h.own b hb).1).1 hh)
  exact ⟨ha, h.bi.kp hk hC.fi.1, h.bv.kp hk hC.fb.1, ⟨e0, e1, e2, he.kp hk hC.fe.1⟩, own h.r12, own h.r13, own h.r14, h.a23, h.a24, h.a34, h.kp.trans (hk.mono (fun b hb => by simp [hb])), by have := h.sz; omega⟩
theorem gave_no {k : Kn} {p lo : Nat} {w w' : World} {v v' : Value} {l l0 : List Int} (hr : Row lo w v l0) (hg : Gave k p lo v v' l w w') : ∃ ps, Kp ps w w' ∧ ∀ b ∈ ps, b ∈ k.bs p ∨ (v.ownBlock = some b ∧ lo ≤ b) := by
  obtain ⟨_, _, ps, h3, h4⟩ := hg
  exact ⟨ps, h3, fun b hb => (h4 b hb).imp id (fun e => ⟨e, (hr.own b e).1⟩)⟩
/-- The value's row has turned, and the parser perhaps. -/
theorem Sq.gave12 {k : Kn} {p lo ib bb eb : Nat} {L0 : List Value} {pn : Int} (hC : Cb k p lo ib bb eb L0 pn) {w1 : World} (hlow : w1.heap.size = lo) {c u col c' u' col' : Nat} {rest rest' s s' lb : List Int} {d tb : Nat} {sv sv' lbv tbv : Value} {w w' : World} (h : Sq k p lo ib bb eb L0 w1 c u col rest d s lb tb sv lbv tbv w) (hg : Gave k p lo sv sv' s' w w') (ha : At k p L0 c' u' col' rest' w') (hsz : s'.length + lb.length + tb ≤ 4 * c') : Sq k p lo ib bb eb L0 w1 c' u' col' rest' d s' lb tb sv' lbv tbv w' := by
  obtain ⟨e0, e1, e2, he⟩ := h.be
  obtain ⟨ps, g3, g4⟩ := gave_no h.r12 hg
  have no : ∀ b, b < lo → b ∉ k.bs p → b ∉ ps := fun b hb hn hh => by
    rcases g4 b hh with g | g
    · exact hn g
    · omega
  exact ⟨ha, h.bi.kp g3 (no _ hC.li hC.fi.1), h.bv.kp g3 (no _ hC.lb hC.fb.1), ⟨e0, e1, e2, he.kp g3 (no _ hC.le hC.fe.1)⟩, hg.1, gave_row hC.far hg h.r13 h.a23, gave_row hC.far hg h.r14 h.a24, gave_sep hg h.r13 h.a23, gave_sep hg h.r14 h.a24, h.a34, Sc.Kp.trans_new h.kp g3 (fun b hb => (g4 b hb).imp (fun e => by simp [e]) (fun e => by omega)), hsz⟩
theorem Sq.gave13 {k : Kn} {p lo ib bb eb : Nat} {L0 : List Value} {pn : Int} (hC : Cb k p lo ib bb eb L0 pn) {w1 : World} (hlow : w1.heap.size = lo) {c u col c' u' col' : Nat} {rest rest' s lb lb' : List Int} {d tb : Nat} {sv lbv lbv' tbv : Value} {w w' : World} (h : Sq k p lo ib bb eb L0 w1 c u col rest d s lb tb sv lbv tbv w) (hg : Gave k p lo lbv lbv' lb' w w') (ha : At k p L0 c' u' col' rest' w') (hsz : s.length + lb'.length + tb ≤ 4 * c') : Sq k p lo ib bb eb L0 w1 c' u' col' rest' d s lb' tb sv lbv' tbv w' := by
  obtain ⟨e0, e1, e2, he⟩ := h.be
  obtain ⟨ps, g3, g4⟩ := gave_no h.r13 hg
  have no : ∀ b, b < lo → b ∉ k.bs p → b ∉ ps := fun b hb hn hh => by
    rcases g4 b hh with g | g
    · exact hn g
    · omega
  exact ⟨ha, h.bi.kp g3 (no _ hC.li hC.fi.1), h.bv.kp g3 (no _ hC.lb hC.fb.1), ⟨e0, e1, e2, he.kp g3 (no _ hC.le hC.fe.1)⟩, gave_row hC.far hg h.r12 h.a23.symm, hg.1, gave_row hC.far hg h.r14 h.a34, (gave_sep hg h.r12 h.a23.symm).symm, h.a24, gave_sep hg h.r14 h.a34, Sc.Kp.trans_new h.kp g3 (fun b hb => (g4 b hb).imp (fun e => by simp [e]) (fun e => by omega)), hsz⟩
/-- Something has been laid behind the value. -/
theorem Sq.add12 {k : Kn} {p lo ib bb eb : Nat} {L0 : List Value} {pn : Int} (hC : Cb k p lo ib bb eb L0 pn) {w1 : World} (hlow : w1.heap.size = lo) {c u col : Nat} {rest s s' lb : List Int} {d tb : Nat} {sv sv' lbv tbv : Value} {w w0 w' : World} (h : Sq k p lo ib bb eb L0 w1 c u col rest d s lb tb sv lbv tbv w) (hb : Below w.heap.size w w0) (hrow' : Row lo w' sv' s') (hgrow : w0.grownBy w' sv.ownBlock) (hgr : Grew w0 sv sv') (hsz : s'.length + lb.length + tb ≤ 4 * c) : Sq k p lo ib bb eb L0 w1 c u col rest d s' lb tb sv' lbv tbv w' := by
  obtain ⟨hg, ps, h1, h2⟩ := add_gave (k := k) (p := p) h.r12 hb hrow' hgrow hgr
  exact h.gave12 hC hlow hg (h.here.far h1 (fun b hb => hC.far b (h.r12.own b (h2 b hb)).1)) hsz
theorem Sq.cut13 {k : Kn} {p lo ib bb eb : Nat} {L0 : List Value} {w1 : World} {c u col : Nat} {rest s lb : List Int} {d tb : Nat} {sv lbv tbv v' : Value} {w : World} (h : Sq k p lo ib bb eb L0 w1 c u col rest d s lb tb sv lbv tbv w) (hrow : Row lo w v' []) (ho : ∀ g, v'.ownBlock = some g → lbv.ownBlock = some g) : Sq k p lo ib bb eb L0 w1 c u col rest d s [] tb sv v' tbv w :=
  ⟨h.here, h.bi, h.bv, h.be, h.r12, hrow, h.r14, (fun g hg hg' => h.a23 g hg (ho g hg')), h.a24, (fun g hg => h.a34 g (ho g hg)), h.kp, by have := h.sz; simp only [List.length_nil]; omega⟩
/-- The breaks have been emptied. -/
theorem Sq.cut14 {k : Kn} {p lo ib bb eb : Nat} {L0 : List Value} {pn : Int} (hC : Cb k p lo ib bb eb L0 pn) {w1 : World} {c u col : Nat} {rest s lb : List Int} {d tb : Nat} {sv lbv tbv v' : Value} {w : World} (h : Sq k p lo ib bb eb L0 w1 c u col rest d s lb tb sv lbv tbv w) (hrow : Row lo w v' []) (ho : ∀ g, v'.ownBlock = some g → tbv.ownBlock = some g) : Sq k p lo ib bb eb L0 w1 c u col rest d s lb 0 sv lbv v' (w.setCell ⟨bb, 0, none⟩ v') := by
  obtain ⟨e0, e1, e2, he⟩ := h.be
  have hk : Kp [bb] w (w.setCell ⟨bb, 0, none⟩ v') := (Kp.refl _ _).setCell bb 0 v' (by simp)
  have own : ∀ {v : Value} {l : List Int}, Row lo w v l → Row lo (w.setCell ⟨bb, 0, none⟩ v') v l := fun h => h.kp hk (fun b hb hh => by
    rw [List.mem_singleton] at hh
    have := (h.own b hb).1
    have := hC.lb
    omega)
  exact ⟨h.here.far hk (by intro b hb; rw [List.mem_singleton] at hb; rw [hb]; exact hC.fb), h.bi.kp hk (by simp; exact hC.n1), h.bv.set 0 v', ⟨e0, e1, e2, he.kp hk (by simp; exact Ne.symm hC.n3)⟩, own h.r12, own h.r13, own hrow, h.a23, (fun g hg hg' => h.a24 g hg (ho g hg')), (fun g hg hg' => h.a34 g hg (ho g hg')), h.kp.trans (hk.mono (by simp)), by have := h.sz; omega⟩
theorem Sq.sb {k : Kn} {p lo ib bb eb : Nat} {L0 : List Value} {w1 : World} (hlow : w1.heap.size = lo) {c u col : Nat} {rest s lb : List Int} {d tb : Nat} {sv lbv tbv : Value} {w : World} (h : Sq k p lo ib bb eb L0 w1 c u col rest d s lb tb sv lbv tbv w) : Sb k p lo ib bb eb L0 w tbv c u col rest d tb tbv w :=
  ⟨h.here, h.bi, h.bv, h.be, h.r14, .inl rfl, Kp.refl _ _, by have := h.kp.size; omega, by have := h.sz; omega⟩
/-- Behind a call that reads indentation and breaks. -/
theorem Sq.brks {k : Kn} {p lo ib bb eb : Nat} {L0 : List Value} {pn : Int} (hC : Cb k p lo ib bb eb L0 pn) {w1 : World} (hlow : w1.heap.size = lo) {c u col c' u' col' : Nat} {rest rest' s lb : List Int} {d d' tb n : Nat} {sv lbv tbv v' : Value} {w w' : World} (h : Sq k p lo ib bb eb L0 w1 c u col rest d s lb tb sv lbv tbv w) (hs : Sb k p lo ib bb eb L0 w tbv c' u' col' rest' d' (tb + n) v' w') (hn : n + (us rest').length ≤ (us rest).length) : Sq k p lo ib bb eb L0 w1 c' u' col' rest' d' s lb (tb + n) sv lbv v' w' := by
  have hin : ∀ b, b ∈ bks k p ib bb eb tbv → b ∈ ib :: bb :: eb :: k.bs p ∨ (tbv.ownBlock = some b ∧ lo ≤ b) := fun b hb => by
    unfold bks at hb
    simp only [List.mem_cons, List.mem_append, Option.mem_toList] at hb ⊢
    rcases hb with hb | hb | hb | hb | hb
    · exact .inl (.inl hb)
    · exact .inl (.inr (.inl hb))
    · exact .inl (.inr (.inr (.inl hb)))
    · exact .inl (.inr (.inr (.inr hb)))
    · exact .inr ⟨hb, (h.r14.own b hb).1⟩
  have row : ∀ {v : Value} {l : List Int}, Row lo w v l → Sep v tbv → Row lo w' v l := fun {v l} hr hsep => hr.kp hs.kp (fun b hb hh => by
    have h1 := (hr.own b hb).1
    rcases hin b hh with g | g
    · simp only [List.mem_cons] at g
      rcases g with g | g | g | g
      · have := hC.li; omega
      · have := hC.lb; omega
      · have := hC.le; omega
      · exact (hC.far b h1).1 g
    · exact hsep b hb g.1)
  refine ⟨hs.here, hs.bi, hs.bv, hs.be, row h.r12 h.a24, row h.r13 h.a34, hs.row, h.a23, (hs.grew.sep h.a24.symm (fun g hg => (h.r12.own g hg).2)).symm, (hs.grew.sep h.a34.symm (fun g hg => (h.r13.own g hg).2)).symm, Sc.Kp.trans_new h.kp hs.kp (fun b hb => (hin b hb).imp id (fun e => by omega)), ?_⟩
  have h1 := h.here.fro.len
  have h2 := hs.here.fro.len
  have := h.sz
  omega
end Go.Proofs.YtocbbekciphjgaaDoor.Bs
/- Al -/
/- Whether a byte is a letter of a name (is_alpha), walked; one theorem a case. -/
namespace Go.Proofs.YtocbbekciphjgaaDoor.Al
open Go.RowKit
set_option linter.unusedVariables false
theorem ret_b {a b : Bool} (h : a = b) : Ending.returned (.bool a) = .returned (.bool b) := by rw [h]
/-- A letter of a name. -/
def al (x : Int) : Bool := decide ((48 ≤ x ∧ x ≤ 57) ∨ (65 ≤ x ∧ x ≤ 90) ∨ (97 ≤ x ∧ x ≤ 122) ∨ x = 95 ∨ x = 45)

set_option maxHeartbeats 1000000 in
set_option maxRecDepth 100000 in
theorem a_a (b o n c i : Nat) (x : Int) (hi : i < n) (hm : n ≤ 9223372036854775807) (hlo : 0 ≤ x) (hhi : x ≤ 44) (h95 : (x == 95) = false) (h45 : (x == 45) = false) (w : World) (hx : w.cell? ⟨b, o + i, none⟩ = some (.int .u8 x)) :
    Calls Tryd.prog 108 #[.slice (some ⟨b, o, none⟩) n c, .int .i64 i] w fun e w' => e = .returned (.bool false) ∧ w = w' := by
  go_enter Tryd.func108, Tryd.ntmps108
  try simp only [List.append]
  go_wp2_with fail
  go_ret
  first | exact ⟨rfl, rfl⟩ | exact ⟨ret_b (by simp; omega), rfl⟩

set_option maxHeartbeats 1000000 in
set_option maxRecDepth 100000 in
theorem a_b (b o n c i : Nat) (x : Int) (hi : i < n) (hm : n ≤ 9223372036854775807) (hlo : 45 ≤ x) (hhi : x ≤ 45) (h95 : (x == 95) = false) (h45 : (x == 45) = true) (w : World) (hx : w.cell? ⟨b, o + i, none⟩ = some (.int .u8 x)) :
    Calls Tryd.prog 108 #[.slice (some ⟨b, o, none⟩) n c, .int .i64 i] w fun e w' => e = .returned (.bool true) ∧ w = w' := by
  go_enter Tryd.func108, Tryd.ntmps108
  try simp only [List.append]
  go_wp2_with fail
  go_ret
  first | exact ⟨rfl, rfl⟩ | exact ⟨ret_b (by simp; omega), rfl⟩

set_option maxHeartbeats 1000000 in
set_option maxRecDepth 100000 in
theorem a_c (b o n c i : Nat) (x : Int) (hi : i < n) (hm : n ≤ 9223372036854775807) (hlo : 46 ≤ x) (hhi : x ≤ 47) (h95 : (x == 95) = false) (h45 : (x == 45) = false) (w : World) (hx : w.cell? ⟨b, o + i, none⟩ = some (.int .u8 x)) :
    Calls Tryd.prog 108 #[.slice (some ⟨b, o, none⟩) n c, .int .i64 i] w fun e w' => e = .returned (.bool false) ∧ w = w' := by
  go_enter Tryd.func108, Tryd.ntmps108
  try simp only [List.append]
  go_wp2_with fail
  go_ret
  first | exact ⟨rfl, rfl⟩ | exact ⟨ret_b (by simp; omega), rfl⟩

set_option maxHeartbeats 1000000 in
set_option maxRecDepth 100000 in
theorem a_d (b o n c i : Nat) (x : Int) (hi : i < n) (hm : n ≤ 9223372036854775807) (hlo : 48 ≤ x) (hhi : x ≤ 57) (h95 : (x == 95) = false) (h45 : (x == 45) = false) (w : World) (hx : w.cell? ⟨b, o + i, none⟩ = some (.int .u8 x)) :
    Calls Tryd.prog 108 #[.slice (some ⟨b, o, none⟩) n c, .int .i64 i] w fun e w' => e = .returned (.bool true) ∧ w = w' := by
  go_enter Tryd.func108, Tryd.ntmps108
  try simp only [List.append]
  go_wp2_with fail
  go_ret
  first | exact ⟨rfl, rfl⟩ | exact ⟨ret_b (by simp; omega), rfl⟩

set_option maxHeartbeats 1000000 in
set_option maxRecDepth 100000 in
theorem a_e (b o n c i : Nat) (x : Int) (hi : i < n) (hm : n ≤ 9223372036854775807) (hlo : 58 ≤ x) (hhi : x ≤ 64) (h95 : (x == 95) = false) (h45 : (x == 45) = false) (w : World) (hx : w.cell? ⟨b, o + i, none⟩ = some (.int .u8 x)) :
    Calls Tryd.prog 108 #[.slice (some ⟨b, o, none⟩) n c, .int .i64 i] w fun e w' => e = .returned (.bool false) ∧ w = w' := by
  go_enter Tryd.func108, Tryd.ntmps108
  try simp only [List.append]
  go_wp2_with fail
  go_ret
  first | exact ⟨rfl, rfl⟩ | exact ⟨ret_b (by simp; omega), rfl⟩

set_option maxHeartbeats 1000000 in
set_option maxRecDepth 100000 in
theorem a_f (b o n c i : Nat) (x : Int) (hi : i < n) (hm : n ≤ 9223372036854775807) (hlo : 65 ≤ x) (hhi : x ≤ 90) (h95 : (x == 95) = false) (h45 : (x == 45) = false) (w : World) (hx : w.cell? ⟨b, o + i, none⟩ = some (.int .u8 x)) :
    Calls Tryd.prog 108 #[.slice (some ⟨b, o, none⟩) n c, .int .i64 i] w fun e w' => e = .returned (.bool true) ∧ w = w' := by
  go_enter Tryd.func108, Tryd.ntmps108
  try simp only [List.append]
  go_wp2_with fail
  go_ret
  first | exact ⟨rfl, rfl⟩ | exact ⟨ret_b (by simp; omega), rfl⟩

set_option maxHeartbeats 1000000 in
set_option maxRecDepth 100000 in
theorem a_g (b o n c i : Nat) (x : Int) (hi : i < n) (hm : n ≤ 9223372036854775807) (hlo : 91 ≤ x) (hhi : x ≤ 94) (h95 : (x == 95) = false) (h45 : (x == 45) = false) (w : World) (hx : w.cell? ⟨b, o + i, none⟩ = some (.int .u8 x)) :
    Calls Tryd.prog 108 #[.slice (some ⟨b, o, none⟩) n c, .int .i64 i] w fun e w' => e = .returned (.bool false) ∧ w = w' := by
  go_enter Tryd.func108, Tryd.ntmps108
  try simp only [List.append]
  go_wp2_with fail
  go_ret
  first | exact ⟨rfl, rfl⟩ | exact ⟨ret_b (by simp; omega), rfl⟩

set_option maxHeartbeats 1000000 in
set_option maxRecDepth 100000 in
theorem a_h (b o n c i : Nat) (x : Int) (hi : i < n) (hm : n ≤ 9223372036854775807) (hlo : 95 ≤ x) (hhi : x ≤ 95) (h95 : (x == 95) = true) (h45 : (x == 45) = false) (w : World) (hx : w.cell? ⟨b, o + i, none⟩ = some (.int .u8 x)) :
    Calls Tryd.prog 108 #[.slice (some ⟨b, o, none⟩) n c, .int .i64 i] w fun e w' => e = .returned (.bool true) ∧ w = w' := by
  go_enter Tryd.func108, Tryd.ntmps108
  try simp only [List.append]
  go_wp2_with fail
  go_ret
  first | exact ⟨rfl, rfl⟩ | exact ⟨ret_b (by simp; omega), rfl⟩

set_option maxHeartbeats 1000000 in
set_option maxRecDepth 100000 in
theorem a_i (b o n c i : Nat) (x : Int) (hi : i < n) (hm : n ≤ 9223372036854775807) (hlo : 96 ≤ x) (hhi : x ≤ 96) (h95 : (x == 95) = false) (h45 : (x == 45) = false) (w : World) (hx : w.cell? ⟨b, o + i, none⟩ = some (.int .u8 x)) :
    Calls Tryd.prog 108 #[.slice (some ⟨b, o, none⟩) n c, .int .i64 i] w fun e w' => e = .returned (.bool false) ∧ w = w' := by
  go_enter Tryd.func108, Tryd.ntmps108
  try simp only [List.append]
  go_wp2_with fail
  go_ret
  first | exact ⟨rfl, rfl⟩ | exact ⟨ret_b (by simp; omega), rfl⟩

set_option maxHeartbeats 1000000 in
set_option maxRecDepth 100000 in
theorem a_j (b o n c i : Nat) (x : Int) (hi : i < n) (hm : n ≤ 9223372036854775807) (hlo : 97 ≤ x) (hhi : x ≤ 122) (h95 : (x == 95) = false) (h45 : (x == 45) = false) (w : World) (hx : w.cell? ⟨b, o + i, none⟩ = some (.int .u8 x)) :
    Calls Tryd.prog 108 #[.slice (some ⟨b, o, none⟩) n c, .int .i64 i] w fun e w' => e = .returned (.bool true) ∧ w = w' := by
  go_enter Tryd.func108, Tryd.ntmps108
  try simp only [List.append]
  go_wp2_with fail
  go_ret
  first | exact ⟨rfl, rfl⟩ | exact ⟨ret_b (by simp; omega), rfl⟩

set_option maxHeartbeats 1000000 in
set_option maxRecDepth 100000 in
theorem a_k (b o n c i : Nat) (x : Int) (hi : i < n) (hm : n ≤ 9223372036854775807) (hlo : 123 ≤ x) (hhi : x ≤ 255) (h95 : (x == 95) = false) (h45 : (x == 45) = false) (w : World) (hx : w.cell? ⟨b, o + i, none⟩ = some (.int .u8 x)) :
    Calls Tryd.prog 108 #[.slice (some ⟨b, o, none⟩) n c, .int .i64 i] w fun e w' => e = .returned (.bool false) ∧ w = w' := by
  go_enter Tryd.func108, Tryd.ntmps108
  try simp only [List.append]
  go_wp2_with fail
  go_ret
  first | exact ⟨rfl, rfl⟩ | exact ⟨ret_b (by simp; omega), rfl⟩

theorem al_any (b o n c i : Nat) (x : Int) (hi : i < n) (hm : n ≤ 9223372036854775807) (hx0 : 0 ≤ x) (hx1 : x ≤ 255) (w : World) (hx : w.cell? ⟨b, o + i, none⟩ = some (.int .u8 x)) :
    Calls Tryd.prog 108 #[.slice (some ⟨b, o, none⟩) n c, .int .i64 i] w fun e w' => e = .returned (.bool (al x)) ∧ w = w' := by
  have nb : ∀ {a b : Int}, a ≠ b → (a == b) = false := fun h => by simpa using h
  by_cases ca_a : x ≤ 44
  · rw [show al x = false from by unfold al; rw [decide_eq_false_iff_not]; omega]; exact a_a b o n c i x hi hm (by omega) (by omega) (nb (by omega)) (nb (by omega)) w hx
  by_cases ca_b : x ≤ 45
  · rw [show al x = true from by unfold al; rw [decide_eq_true_eq]; omega]; exact a_b b o n c i x hi hm (by omega) (by omega) (nb (by omega)) (by simpa using (show x = 45 by omega)) w hx
  by_cases ca_c : x ≤ 47
  · rw [show al x = false from by unfold al; rw [decide_eq_false_iff_not]; omega]; exact a_c b o n c i x hi hm (by omega) (by omega) (nb (by omega)) (nb (by omega)) w hx
  by_cases ca_d : x ≤ 57
  · rw [show al x = true from by unfold al; rw [decide_eq_true_eq]; omega]; exact a_d b o n c i x hi hm (by omega) (by omega) (nb (by omega)) (nb (by omega)) w hx
  by_cases ca_e : x ≤ 64
  · rw [show al x = false from by unfold al; rw [decide_eq_false_iff_not]; omega]; exact a_e b o n c i x hi hm (by omega) (by omega) (nb (by omega)) (nb (by omega)) w hx
  by_cases ca_f : x ≤ 90
  · rw [show al x = true from by unfold al; rw [decide_eq_true_eq]; omega]; exact a_f b o n c i x hi hm (by omega) (by omega) (nb (by omega)) (nb (by omega)) w hx
  by_cases ca_g : x ≤ 94
  · rw [show al x = false from by unfold al; rw [decide_eq_false_iff_not]; omega]; exact a_g b o n c i x hi hm (by omega) (by omega) (nb (by omega)) (nb (by omega)) w hx
  by_cases ca_h : x ≤ 95
  · rw [show al x = true from by unfold al; rw [decide_eq_true_eq]; omega]; exact a_h b o n c i x hi hm (by omega) (by omega) (by simpa using (show x = 95 by omega)) (nb (by omega)) w hx
  by_cases ca_i : x ≤ 96
  · rw [show al x = false from by unfold al; rw [decide_eq_false_iff_not]; omega]; exact a_i b o n c i x hi hm (by omega) (by omega) (nb (by omega)) (nb (by omega)) w hx
  by_cases ca_j : x ≤ 122
  · rw [show al x = true from by unfold al; rw [decide_eq_true_eq]; omega]; exact a_j b o n c i x hi hm (by omega) (by omega) (nb (by omega)) (nb (by omega)) w hx
  · rw [show al x = false from by unfold al; rw [decide_eq_false_iff_not]; omega]; exact a_k b o n c i x hi hm (by omega) (by omega) (nb (by omega)) (nb (by omega)) w hx

end Go.Proofs.YtocbbekciphjgaaDoor.Al
/- Lex -/
/- A region whose operations may be taken in the order of the text: a check that is quick for regions of a hundred operations. -/
namespace Go.Proofs.YtocbbekciphjgaaDoor.Sp
open Go
/-- All that an operation waits for lies ahead of it. -/
def backL : List Oper → Nat → Bool
  | [], _ => true
  | o :: r, k => (o.after.all fun e => !Region.binds .any e || decide (e.on < k)) && backL r (k + 1)
/-- Of two operations the second waits for the first, or they are apart. -/
def pairsL (ops : Array Oper) : List Oper → Nat → Bool
  | [], _ => true
  | o :: r, i => (r.all fun y => (y.after.any fun e => Region.binds .any e && e.on == i) || o.apart ops y) && pairsL ops r (i + 1)
theorem backL_at : ∀ (l : List Oper) (k : Nat), backL l k = true → ∀ (j : Nat) (o : Oper), l[j]? = some o → (o.after.all fun e => !Region.binds .any e || decide (e.on < k + j)) = true := by
  intro l
  induction l with
  | nil => intro k _ j o h; simp at h
  | cons x r ih =>
    intro k h j o hj
    simp only [backL, Bool.and_eq_true] at h
    cases j with
    | zero =>
      simp at hj
      subst hj
      exact h.1
    | succ j =>
      have := ih (k + 1) h.2 j o (by simpa using hj)
      rw [show k + 1 + j = k + (j + 1) by omega] at this
      exact this
theorem pairsL_at (ops : Array Oper) : ∀ (l : List Oper) (k : Nat), pairsL ops l k = true → ∀ (i j : Nat) (x y : Oper), i < j → l[i]? = some x → l[j]? = some y → ((y.after.any fun e => Region.binds .any e && e.on == k + i) || x.apart ops y) = true := by
  intro l
  induction l with
  | nil => intro k _ i j x y _ h; simp at h
  | cons z r ih =>
    intro k h i j x y hij hi hj
    simp only [pairsL, Bool.and_eq_true] at h
    cases j with
    | zero => omega
    | succ j =>
      have hj' : r[j]? = some y := by simpa using hj
      cases i with
      | zero =>
        simp at hi
        subst hi
        rw [List.all_eq_true] at h
        exact h.1 y (List.mem_of_getElem? hj')
      | succ i =>
        have := ih (k + 1) h.2 i j x y (by omega) (by simpa using hi) hj'
        rw [show k + 1 + i = k + (i + 1) by omega] at this
        exact this
theorem lexFrom_quick (ops : Array Oper) (hb : backL ops.toList 0 = true) (hp : pairsL ops ops.toList 0 = true) : ∀ (fuel k : Nat) (listed : Array Bool), k + fuel = ops.size → listed.size = ops.size → (∀ j x, j < ops.size → listed.getD j x = decide (j < k)) → Region.lexFrom .any ops fuel k listed = true := by
  intro fuel
  induction fuel with
  | zero =>
    intro k listed hk hs hl
    simp only [Region.lexFrom, List.isEmpty_iff]
    unfold Region.ready
    rw [List.filter_eq_nil_iff]
    intro i hi
    have hi' : i < ops.size := by simpa using hi
    rw [hl i true hi']
    simp
    omega
  | succ fuel ih =>
    intro k listed hk hs hl
    have hkl : k < ops.size := by omega
    obtain ⟨o, ho⟩ : ∃ o, ops[k]? = some o := ⟨_, Array.getElem?_eq_getElem hkl⟩
    have hoL : ops.toList[k]? = some o := by rw [Array.getElem?_toList]; exact ho
    simp only [Region.lexFrom, Bool.and_eq_true]
    refine ⟨⟨?_, ?_⟩, ih (k + 1) _ (by omega) (by simpa using hs) fun j x hj => ?_⟩
    · rw [List.contains_iff_mem]
      unfold Region.ready
      rw [List.mem_filter]
      refine ⟨by simpa using hkl, ?_⟩
      rw [hl k true hkl, ho]
      simp only [Nat.lt_irrefl, decide_false, Bool.not_false, Bool.true_and, Option.map_some, Option.getD_some]
      have := backL_at ops.toList 0 hb k o hoL
      rw [Nat.zero_add] at this
      rw [Array.all_eq_true_iff_forall_mem] at this ⊢
      intro e he
      have h1 := this e he
      rw [Bool.or_eq_true] at h1 ⊢
      rcases h1 with h1 | h1
      · exact .inl h1
      · right
        have h2 := of_decide_eq_true h1
        rw [hl e.on false (by omega)]
        exact h1
    · unfold Region.free
      rw [ho]
      simp only [List.all_eq_true, List.mem_range]
      intro j hj
      by_cases hjk : j = k
      · simp [hjk]
      · rw [hl j true hj]
        by_cases hlt : j < k
        · simp [hlt]
        · obtain ⟨y, hy⟩ : ∃ y, ops[j]? = some y := ⟨_, Array.getElem?_eq_getElem hj⟩
          have := pairsL_at ops ops.toList 0 hp k j o y (by omega) hoL (by rw [Array.getElem?_toList]; exact hy)
          rw [Nat.zero_add] at this
          rw [hy]
          simp only [this, Bool.or_true]
    · rw [Array.getD_eq_getD_getElem?]
      by_cases hjk : j = k
      · subst hjk
        rw [Array.getElem?_setIfInBounds_self_of_lt (by omega)]
        simp
      · rw [Array.getElem?_setIfInBounds_ne (by omega), ← Array.getD_eq_getD_getElem?, hl j x hj]
        congr 1
        simp
        omega
/-- The quick check. -/
def quickB (ops : Array Oper) : Bool := Region.noSelect ops && (backL ops.toList 0 && pairsL ops ops.toList 0)
theorem lexB_quick (ops : Array Oper) (h : quickB ops = true) : Region.lexB .any ops = true := by
  unfold quickB at h
  simp only [Bool.and_eq_true] at h
  unfold Region.lexB
  rw [Bool.and_eq_true]
  refine ⟨h.1, lexFrom_quick ops h.2.1 h.2.2 ops.size 0 _ (by omega) (by simp) fun j x hj => ?_⟩
  rw [Array.getD_eq_getD_getElem?]
  simp [hj]
end Go.Proofs.YtocbbekciphjgaaDoor.Sp

/- FnDirectivesAnalyzed: the law's walk. -/
import Derived.Test.YtccmflnkhabilaaDirC
import Derived.Test.YtccmflnkhabilaaNd
import Derived.Deep.QuietTactic
import Derived.BigQuiet
import Derived.Test.YtccmflnkhabilaaSp
namespace Go.Proofs.Ytccmflnkhabilaa.DirL
open Go.RowKit Go.Proofs.Ytccmflnkhabilaa.Em Go.Proofs.Ytccmflnkhabilaa.Dir
set_option linter.unusedVariables false
set_option linter.unusedSimpArgs false
/-- The bytes of a handle whose bytes are known. -/
def zat (n : Nat) (zs : List Int) (i : Nat) : Int := if i < n then zs.getD i 0 else 0
def isRow (k : IntKind) (w : World) (a : Option Addr) (len cap : Nat) (zs : List Int) : Prop :=
  (a = none ∧ len = 0 ∧ cap = 0 ∧ zs = []) ∨
  ∃ x, a = some x ∧ len ≤ cap ∧ cap ≤ maxLen ∧ zs.length = cap ∧ (∀ i, i < zs.length → w.cell? (x.add i) = some (.int k (zs.getD i 0))) ∧ ∀ n ∈ zs, (Lit.int k n).wf = true
/-- What the loop holds. -/
def fk (n : Nat) (z : Nat → Int) (k : Nat) : Bool := decide (∀ i, i < k → i = 0 ∨ i = n - 1 ∨ Al.al (z i) = true)
theorem fk_al (n : Nat) (z : Nat → Int) (k : Nat) (hf : fk n z k = true) (h0 : ¬ k = 0) (hl : ¬ k = n - 1) : fk n z (k + 1) = Al.al (z k) := by
  unfold fk at *
  rw [decide_eq_true_eq] at hf
  cases h : Al.al (z k) with
  | true =>
    rw [decide_eq_true_eq]
    intro i hi
    by_cases e : i = k
    · subst e; exact .inr (.inr h)
    · exact hf i (by omega)
  | false =>
    rw [decide_eq_false_iff_not]
    intro hh
    rcases hh k (by omega) with h1 | h1 | h1
    · exact h0 h1
    · exact hl h1
    · rw [h] at h1; cases h1
theorem fk_end (n : Nat) (z : Nat → Int) (k : Nat) (hf : fk n z k = true) (h : k = 0 ∨ k = n - 1) : fk n z (k + 1) = true := by
  unfold fk at *
  rw [decide_eq_true_eq] at *
  intro i hi
  by_cases e : i = k
  · subst e; rcases h with h | h
    · exact .inl h
    · exact .inr (.inl h)
  · exact hf i (by omega)
theorem fk_off (n : Nat) (z : Nat → Int) (k : Nat) (hf : fk n z k = false) : fk n z (k + 1) = false := by
  unfold fk at *
  rw [decide_eq_false_iff_not] at *
  exact fun h => hf fun i hi => h i (by omega)
theorem drewN {B : Nat} {w w' : World} (h : Below B w w') (n : Nat) : Below B w (w'.drewN n) := ⟨h.os, h.tape, h.output, h.size, h.block⟩
/-- The bytes within the text, 0 behind it. -/
def zin (n : Nat) (z : Nat → Int) (i : Nat) : Int := if i < n then z i else 0
theorem fine_fk (n m : Nat) (z : Nat → Int) (hn : 0 < n) (hm : 0 < m) (z0 : z 0 = 33) (zl : z (n - 1) = 33) : fine n m (zin n z) = fk n z n := by
  unfold fine fk
  rw [decide_eq_decide]
  have e : ∀ i, i < n → zin n z i = z i := fun i h => by unfold zin; rw [if_pos h]
  constructor
  · rintro ⟨_, _, _, h, _⟩ i hi
    by_cases h0 : i = 0
    · exact .inl h0
    · by_cases hl : i = n - 1
      · exact .inr (.inl hl)
      · exact .inr (.inr (by rw [← e i hi]; exact h i (by omega) (by omega)))
  · intro h
    refine ⟨hn, by rw [e 0 hn]; exact z0, by rw [e _ (by omega)]; exact zl, fun i hi h1 => ?_, hm⟩
    rw [e i (by omega)]
    rcases h i (by omega) with h | h | h
    · omega
    · omega
    · exact h
theorem field0 (k : Int) (w : World) : (Instr.field 27 (.agg #[.int .i64 k, .int .i64 0, .int .i64 0, .int .i64 0, .int .i64 0, .int .i64 0, .int .i64 0, .int .i64 0, .int .i64 0]) 0).run Try.prog w = .ok (.int .i64 k) w := by kernel_rfl
/-- A sign of names behind one. -/
def two (x : Int) : ByteArray := strOfNums [95, x]
theorem two_size (x : Int) : (two x).size = 2 := rfl
theorem conv_two (x : Int) (g c : Nat) (w : World) (h0 : w.cell? ⟨g, 0, none⟩ = some (.int .u8 95)) (h1 : w.cell? ⟨g, 1, none⟩ = some (.int .u8 x)) : (convert 22 9 (.slice (some ⟨g, 0, none⟩) 2 c)).run Try.prog w = .ok (.string (two x)) w := by
  refine run_convert_bytes_arg w 22 5 Try.underlying22 Try.underlying5 g 0 2 c [95, x] rfl ?_ 9 Try.underlying9
  intro i hi
  have : i = 0 ∨ i = 1 := by omega
  rcases this with rfl | rfl
  · exact h0
  · exact h1
theorem two_get0 (x : Int) : Nd.bt (two x) 0 = 95 := rfl
theorem two_get1 (x : Int) (h0 : 0 ≤ x) (h1 : x < 256) : Nd.bt (two x) 1 = x := by
  unfold Nd.bt
  rw [dif_pos (by rw [two_size]; omega)]
  show ((UInt8.ofNat x.toNat).toNat : Int) = x
  rw [UInt8.toNat_ofNat']
  omega
theorem two_got (x : Int) (h0 : 0 ≤ x) (h1 : x < 256) : Nd.got (two x) (two x).size = if Al.al x = true then [95, x] else [95] := by
  show Nd.got (two x) 2 = _
  have e0 : Nd.got (two x) 1 = [95] := by
    show (if (Nd.got (two x) 0).length < 8 ∧ Nd.al (Nd.bt (two x) 0) = true then Nd.got (two x) 0 ++ [Nd.bt (two x) 0] else Nd.got (two x) 0) = _
    rw [two_get0, if_pos ⟨by simp [Nd.got], by decide⟩]
    rfl
  show (if (Nd.got (two x) 1).length < 8 ∧ Nd.al (Nd.bt (two x) 1) = true then Nd.got (two x) 1 ++ [Nd.bt (two x) 1] else Nd.got (two x) 1) = _
  rw [e0, two_get1 x h0 h1]
  have e : Nd.al x = Al.al x := rfl
  rw [e]
  by_cases h : Al.al x = true
  · rw [if_pos ⟨by simp, h⟩, if_pos h]; rfl
  · rw [if_neg (fun hh => h hh.2), if_neg h]
theorem two_eq (x : Int) (h0 : 0 ≤ x) (h1 : x < 256) : ((Nd.nm (two x)).toList == (two x).toList) = Al.al x := by
  unfold Nd.nm
  rw [two_got x h0 h1]
  by_cases h : Al.al x = true
  · rw [if_pos h, if_neg (by simp), h]
    exact beq_self_eq_true (two x).toList
  · rw [if_neg h, if_neg (by simp)]
    have e : Al.al x = false := by simpa using h
    rw [e, beq_eq_false_iff_ne]
    intro hh
    have := congrArg List.length hh
    rw [Lib.toList_data, Lib.toList_data] at this
    simp [two, strOfNums] at this
theorem bcell {W w1 : World} (hb : Below W.heap.size W w1) : (∀ b o, b < W.heap.size → w1.cell? ⟨b, o, none⟩ = W.cell? ⟨b, o, none⟩) ∧ (∀ b o, b < W.heap.size → w1.frozen? ⟨b, o, none⟩ = W.frozen? ⟨b, o, none⟩) :=
  ⟨fun b o h => hb.cell (p := ⟨b, o, none⟩) h, fun b o h => hb.frozen (p := ⟨b, o, none⟩) h⟩
/-- A slice of two bytes. -/
def Pair (x : Int) (v : Value) (w : World) : Prop := ∃ g c, v = .slice (some ⟨g, 0, none⟩) 2 c ∧ g < w.heap.size ∧ w.cell? ⟨g, 0, none⟩ = some (.int .u8 95) ∧ w.cell? ⟨g, 1, none⟩ = some (.int .u8 x)
theorem Pair.below {x : Int} {v : Value} {w w' : World} (h : Pair x v w) (hb : Below w.heap.size w w') : Pair x v w' := by
  obtain ⟨g, c, e, h1, h2, h3⟩ := h
  exact ⟨g, c, e, by have := hb.size; omega, by rw [hb.cell (p := ⟨g, 0, none⟩) h1]; exact h2, by rw [hb.cell (p := ⟨g, 1, none⟩) h1]; exact h3⟩
def Sr (n k : Nat) (x : Int) : Nat → Value → World → Prop
  | 0, v, _ => v = .bool true
  | 1, v, _ => v = .bool true
  | 2, v, _ => v = .int .i64 (k : Int)
  | 3, v, _ => v = .bool false
  | 4, v, _ => v = .bool false
  | 5, v, _ => v = .int .i64 (k : Int)
  | 6, v, _ => v = .int .i64 (n : Int)
  | 7, v, _ => v = .int .i64 ((n : Int) - 1)
  | 8, v, _ => v = .bool false
  | 9, v, _ => v = .bool false
  | 10, v, _ => v = .bool false
  | 11, v, _ => v = .int .u8 x
  | 12, v, w => Pair x v w
  | 13, v, _ => v = .string (two x)
  | 14, v, _ => v = .string (Nd.nm (two x))
  | 15, v, _ => v = .int .u8 x
  | 16, v, w => Pair x v w
  | 17, v, _ => v = .string (two x)
  | 18, v, _ => v = .bool (Al.al x)
  | 19, v, _ => v = .bool (Al.al x)
  | 20, v, _ => v = .bool (Al.al x)
  | 21, v, _ => v = .bool (Al.al x)
  | _, _, _ => True
theorem Sr_mono (n k : Nat) (x : Int) (i : Nat) (v : Value) (w w' : World) (hb : Below w.heap.size w w') (h : Sr n k x i v w) : Sr n k x i v w' := by
  unfold Sr at h ⊢
  split at h <;> first | exact h | exact h.below hb
set_option maxHeartbeats 1000000 in
set_option maxRecDepth 100000 in
theorem law_true (b o n c m d : Nat) (B : Option Addr) (z : Nat → Int) (w : World) (hn0 : 0 < n) (hn : n ≤ 1024) (hm0 : 0 < m) (hm : m ≤ 1024)
    (hz : ∀ i, i < n → w.cell? ⟨b, o + i, none⟩ = some (.int .u8 (z i))) (hb : b < w.heap.size) (hr : ∀ i, 0 ≤ z i ∧ z i < 256) (z0 : z 0 = 33) (zl : z (n - 1) = 33) :
    Calls Try.prog 3 #[.slice (some ⟨b, o, none⟩) n c, .slice B m d] w fun e w' => e = .returned (.bool true) ∧ Below w.heap.size w w' := by
  have HZ := Lib.hid hz
  have HR := Lib.hid hr
  have c0 := hz 0 hn0
  rw [z0, Nat.add_zero] at c0
  have cl := hz (n - 1) (by omega)
  rw [zl] at cl
  have en : ((n : Int) - 1).toNat = n - 1 := by omega
  have en2 : IntKind.i64.wrap ((n : Int) - 1) = (n : Int) - 1 := by exact IntWalk.i64_in _ (by omega)
  have Z0 := Lib.hid z0
  have ZL := Lib.hid zl
  clear hz hr z0 zl
  go_enter Try.func3, Try.ntmps3
  go_wp2_with fail
  go_loopw [6, 50] (fun f i wr => ∃ k : Nat, k ≤ n ∧ i = .int .i64 k ∧ f = .bool (fk n z k) ∧ (∀ j, j < k → z j < 128) ∧ Below w.heap.size w wr) (fun _ i _ => n - (intOf i).toNat)
  case atStart => exact ⟨0, Nat.zero_le _, rfl, by rw [show fk n z 0 = true by unfold fk; rw [decide_eq_true_eq]; omega], by omega, Below.refl _ _⟩
  case round =>
    obtain ⟨k, hk, rfl, rfl, h128, hbel⟩ := hrel
    have HB := Lib.hid hbel
    have H128 := Lib.hid h128
    clear hbel h128
    by_cases hkn : k < n
    · have ck : wr.cell? ⟨b, o + k, none⟩ = some (.int .u8 (z k)) := by rw [HB.out.cell (p := ⟨b, o + k, none⟩) hb]; exact HZ.out k hkn
      have rk := HR.out k
      by_cases h8 : 128 ≤ z k
      · go_wp2_with fail
        go_ret
        exact ⟨rfl, HB.out⟩
      · by_cases hf : fk n z k = true
        · rw [hf]
          have HF := Lib.hid hf
          clear hf
          by_cases hk0 : k = 0
          · have hk0b : ((k : Int) == 0) = true := by simp; omega
            have HK := Lib.hid hk0
            clear hk0
            go_wp2_with fail
            go_quiet (fail)
            go_wp2_with fail
            go_roundw
            case rel => exact ⟨k + 1, by omega, by go_num, by rw [fk_end n z k HF.out (.inl HK.out)], fun j hj => by have := H128.out j; by_cases e : j = k; (subst e; omega); (exact this (by omega)), drewN HB.out _⟩
            case measure => simp [intOf]; omega
          · have hk0b : ((k : Int) == 0) = false := by simp; omega
            by_cases hkl : k = n - 1
            · have hklb : ((k : Int) == (n : Int) - 1) = true := by simp; omega
              have HK := Lib.hid hkl
              clear hkl
              go_wp2_with fail
              go_quiet (fail)
              go_wp2_with fail
              go_roundw
              case rel => exact ⟨k + 1, by omega, by go_num, by rw [fk_end n z k HF.out (.inr HK.out)], fun j hj => by have := H128.out j; by_cases e : j = k; (subst e; omega); (exact this (by omega)), drewN HB.out _⟩
              case measure => simp [intOf]; omega
            · have hklb : ((k : Int) == (n : Int) - 1) = false := by simp; omega
              have hnb : ((Nd.nm (two (z k))).toList == (two (z k)).toList) = Al.al (z k) := two_eq (z k) rk.1 rk.2
              go_wp2_with fail
              have hsub : IntKind.i64.wrap ((n : Int) - 1) = (n : Int) - 1 := en2
              refine Sp.region_specs (by kernel_rfl) _ (by kernel_rfl) (by kernel_rfl) (by kernel_rfl) rfl (by kernel_rfl) (Sr n k (z k)) (Below w.heap.size w) (fun w w' => Below w.heap.size w w') HB.out.drew (fun i v w w' _ hR => Sr_mono n k (z k) i v w w' hR) ?_ ?_
              · generalize z k = x at *
                intro i hi a w1 F hI
                have hcases : i = 0 ∨ i = 1 ∨ i = 2 ∨ i = 3 ∨ i = 4 ∨ i = 5 ∨ i = 6 ∨ i = 7 ∨ i = 8 ∨ i = 9 ∨ i = 10 ∨ i = 11 ∨ i = 12 ∨ i = 13 ∨ i = 14 ∨ i = 15 ∨ i = 16 ∨ i = 17 ∨ i = 18 ∨ i = 19 ∨ i = 20 ∨ i = 21 := by have hi' : i < 22 := hi; omega
                rcases hcases with rfl | rfl | rfl | rfl | rfl | rfl | rfl | rfl | rfl | rfl | rfl | rfl | rfl | rfl | rfl | rfl | rfl | rfl | rfl | rfl | rfl | rfl
                · have d6 : a.tmps.getD 6 undef = .bool true := F.out 6 (by kernel_rfl)
                  exact Sp.sp_value rfl (Sp.wanted_none rfl) (v := .bool true) (w' := w1) (by simp [execOp, Act.eval, d6, Sp.gd d6, go_sem]) hI (Below.refl _ _) rfl
                · have d57 : a.tmps.getD 57 undef = .bool true := F.val 0 57 (by kernel_rfl) (by rfl)
                  exact Sp.sp_value rfl (Sp.wanted_none rfl) (v := .bool true) (w' := w1) (by simp [execOp, Act.eval, d57, Sp.gd d57, go_sem]) hI (Below.refl _ _) rfl
                · have d58 : a.tmps.getD 58 undef = .bool true := F.val 1 58 (by kernel_rfl) (by rfl)
                  have d7 : a.tmps.getD 7 undef = .int .i64 (k : Int) := F.out 7 (by kernel_rfl)
                  exact Sp.sp_value rfl (Sp.wanted_on 1 58 rfl rfl d58) (v := .int .i64 (k : Int)) (w' := w1) (by simp [execOp, Act.eval, d7, Sp.gd d7, go_sem]) hI (Below.refl _ _) rfl
                · have d58 : a.tmps.getD 58 undef = .bool true := F.val 1 58 (by kernel_rfl) (by rfl)
                  have d59 : a.tmps.getD 59 undef = .int .i64 (k : Int) := F.val 2 59 (by kernel_rfl) (by rfl)
                  exact Sp.sp_value rfl (Sp.wanted_on 1 58 rfl rfl d58) (v := .bool false) (w' := w1) (by simp [execOp, Act.eval, d59, Sp.gd d59, hk0b, go_sem]) hI (Below.refl _ _) rfl
                · have d58 : a.tmps.getD 58 undef = .bool true := F.val 1 58 (by kernel_rfl) (by rfl)
                  have d60 : a.tmps.getD 60 undef = .bool false := F.val 3 60 (by kernel_rfl) (by rfl)
                  exact Sp.sp_value rfl (Sp.wanted_on 1 58 rfl rfl d58) (v := .bool false) (w' := w1) (by simp [execOp, Act.eval, d60, Sp.gd d60, go_sem]) hI (Below.refl _ _) rfl
                · have d61 : a.tmps.getD 61 undef = .bool false := F.val 4 61 (by kernel_rfl) (by rfl)
                  have d7 : a.tmps.getD 7 undef = .int .i64 (k : Int) := F.out 7 (by kernel_rfl)
                  exact Sp.sp_value rfl (Sp.wanted_on 4 61 rfl rfl d61) (v := .int .i64 (k : Int)) (w' := w1) (by simp [execOp, Act.eval, d7, Sp.gd d7, go_sem]) hI (Below.refl _ _) rfl
                · have d61 : a.tmps.getD 61 undef = .bool false := F.val 4 61 (by kernel_rfl) (by rfl)
                  have d5 : a.tmps.getD 5 undef = .int .i64 (n : Int) := F.out 5 (by kernel_rfl)
                  exact Sp.sp_value rfl (Sp.wanted_on 4 61 rfl rfl d61) (v := .int .i64 (n : Int)) (w' := w1) (by simp [execOp, Act.eval, d5, Sp.gd d5, go_sem]) hI (Below.refl _ _) rfl
                · have d61 : a.tmps.getD 61 undef = .bool false := F.val 4 61 (by kernel_rfl) (by rfl)
                  have d63 : a.tmps.getD 63 undef = .int .i64 (n : Int) := F.val 6 63 (by kernel_rfl) (by rfl)
                  exact Sp.sp_value rfl (Sp.wanted_on 4 61 rfl rfl d61) (v := .int .i64 ((n : Int) - 1)) (w' := w1) (by simp [execOp, Act.eval, d63, Sp.gd d63, hsub, go_sem]) hI (Below.refl _ _) rfl
                · have d61 : a.tmps.getD 61 undef = .bool false := F.val 4 61 (by kernel_rfl) (by rfl)
                  have d62 : a.tmps.getD 62 undef = .int .i64 (k : Int) := F.val 5 62 (by kernel_rfl) (by rfl)
                  have d64 : a.tmps.getD 64 undef = .int .i64 ((n : Int) - 1) := F.val 7 64 (by kernel_rfl) (by rfl)
                  exact Sp.sp_value rfl (Sp.wanted_on 4 61 rfl rfl d61) (v := .bool false) (w' := w1) (by simp [execOp, Act.eval, d62, Sp.gd d62, d64, Sp.gd d64, hklb, go_sem]) hI (Below.refl _ _) rfl
                · have d58 : a.tmps.getD 58 undef = .bool true := F.val 1 58 (by kernel_rfl) (by rfl)
                  have d61 : a.tmps.getD 61 undef = .bool false := F.val 4 61 (by kernel_rfl) (by rfl)
                  have d65 : a.tmps.getD 65 undef = .bool false := F.val 8 65 (by kernel_rfl) (by rfl)
                  exact Sp.sp_value rfl (Sp.wanted_on 1 58 rfl rfl d58) (v := .bool false) (w' := w1) (by simp [execOp, Act.eval, d61, Sp.gd d61, d65, Sp.gd d65, go_sem]) hI (Below.refl _ _) rfl
                · have d58 : a.tmps.getD 58 undef = .bool true := F.val 1 58 (by kernel_rfl) (by rfl)
                  have d66 : a.tmps.getD 66 undef = .bool false := F.val 9 66 (by kernel_rfl) (by rfl)
                  exact Sp.sp_value rfl (Sp.wanted_on 1 58 rfl rfl d58) (v := .bool false) (w' := w1) (by simp [execOp, Act.eval, d66, Sp.gd d66, go_sem]) hI (Below.refl _ _) rfl
                · have d67 : a.tmps.getD 67 undef = .bool false := F.val 10 67 (by kernel_rfl) (by rfl)
                  have d8 : a.tmps.getD 8 undef = .int .u8 x := F.out 8 (by kernel_rfl)
                  exact Sp.sp_value rfl (Sp.wanted_on 10 67 rfl rfl d67) (v := .int .u8 x) (w' := w1) (by simp [execOp, Act.eval, d8, Sp.gd d8, go_sem]) hI (Below.refl _ _) rfl
                · have d67 : a.tmps.getD 67 undef = .bool false := F.val 10 67 (by kernel_rfl) (by rfl)
                  have d68 : a.tmps.getD 68 undef = .int .u8 x := F.val 11 68 (by kernel_rfl) (by rfl)
                  refine Sp.sp_value rfl (Sp.wanted_on 10 67 rfl rfl d67) (v := .slice (some ⟨w1.heap.size, 0, none⟩) 2 2) (w' := w1.alloc (.cells #[.int .u8 95, .int .u8 x] 5)) (by simp [execOp, Act.eval, d68, Sp.gd d68, go_sem]) ?_ ?_ ?_
                  · exact hI.alloc hI.size _
                  · exact (Below.refl _ _).alloc (Nat.le_refl _) _
                  · exact ⟨w1.heap.size, 2, rfl, by simp, by simp, by simp⟩
                · have d67 : a.tmps.getD 67 undef = .bool false := F.val 10 67 (by kernel_rfl) (by rfl)
                  have d69 := F.val 12 69 (by kernel_rfl) (by rfl)
                  obtain ⟨g, c, e, hg, h0, h1⟩ := d69
                  exact Sp.sp_value rfl (Sp.wanted_on 10 67 rfl rfl d67) (v := .string (two x)) (w' := w1) (by have := conv_two x g c w1 h0 h1; simp [execOp, Act.eval, e, Sp.gd e, this, go_sem]) hI (Below.refl _ _) rfl
                · have d67 : a.tmps.getD 67 undef = .bool false := F.val 10 67 (by kernel_rfl) (by rfl)
                  have d70 : a.tmps.getD 70 undef = .string (two x) := F.val 13 70 (by kernel_rfl) (by rfl)
                  refine Sp.sp_call Try.func5 (by kernel_rfl) rfl #[.string (two x)] rfl (Sp.wanted_on 10 67 rfl rfl d67) rfl (by simp only [List.map_toArray, List.map_cons, List.map_nil, Act.eval, d70]) ?_
                  refine (Nd.nd_any _ _ (by rw [two_size]; omega)).mono ?_
                  rintro e w3 ⟨rfl, hb3⟩
                  exact ⟨_, rfl, hI.trans (hb3.mono hI.size), hb3, rfl⟩
                · have d67 : a.tmps.getD 67 undef = .bool false := F.val 10 67 (by kernel_rfl) (by rfl)
                  have d8 : a.tmps.getD 8 undef = .int .u8 x := F.out 8 (by kernel_rfl)
                  exact Sp.sp_value rfl (Sp.wanted_on 10 67 rfl rfl d67) (v := .int .u8 x) (w' := w1) (by simp [execOp, Act.eval, d8, Sp.gd d8, go_sem]) hI (Below.refl _ _) rfl
                · have d67 : a.tmps.getD 67 undef = .bool false := F.val 10 67 (by kernel_rfl) (by rfl)
                  have d72 : a.tmps.getD 72 undef = .int .u8 x := F.val 15 72 (by kernel_rfl) (by rfl)
                  refine Sp.sp_value rfl (Sp.wanted_on 10 67 rfl rfl d67) (v := .slice (some ⟨w1.heap.size, 0, none⟩) 2 2) (w' := w1.alloc (.cells #[.int .u8 95, .int .u8 x] 5)) (by simp [execOp, Act.eval, d72, Sp.gd d72, go_sem]) ?_ ?_ ?_
                  · exact hI.alloc hI.size _
                  · exact (Below.refl _ _).alloc (Nat.le_refl _) _
                  · exact ⟨w1.heap.size, 2, rfl, by simp, by simp, by simp⟩
                · have d67 : a.tmps.getD 67 undef = .bool false := F.val 10 67 (by kernel_rfl) (by rfl)
                  have d73 := F.val 16 73 (by kernel_rfl) (by rfl)
                  obtain ⟨g, c, e, hg, h0, h1⟩ := d73
                  exact Sp.sp_value rfl (Sp.wanted_on 10 67 rfl rfl d67) (v := .string (two x)) (w' := w1) (by have := conv_two x g c w1 h0 h1; simp [execOp, Act.eval, e, Sp.gd e, this, go_sem]) hI (Below.refl _ _) rfl
                · have d67 : a.tmps.getD 67 undef = .bool false := F.val 10 67 (by kernel_rfl) (by rfl)
                  have d71 : a.tmps.getD 71 undef = .string (Nd.nm (two x)) := F.val 14 71 (by kernel_rfl) (by rfl)
                  have d74 : a.tmps.getD 74 undef = .string (two x) := F.val 17 74 (by kernel_rfl) (by rfl)
                  exact Sp.sp_value rfl (Sp.wanted_on 10 67 rfl rfl d67) (v := .bool (Al.al x)) (w' := w1) (by simp [execOp, Act.eval, d71, Sp.gd d71, d74, Sp.gd d74, hnb, go_sem]) hI (Below.refl _ _) rfl
                · have d58 : a.tmps.getD 58 undef = .bool true := F.val 1 58 (by kernel_rfl) (by rfl)
                  have d67 : a.tmps.getD 67 undef = .bool false := F.val 10 67 (by kernel_rfl) (by rfl)
                  have d75 : a.tmps.getD 75 undef = .bool (Al.al x) := F.val 18 75 (by kernel_rfl) (by rfl)
                  exact Sp.sp_value rfl (Sp.wanted_on 1 58 rfl rfl d58) (v := .bool (Al.al x)) (w' := w1) (by simp [execOp, Act.eval, d67, Sp.gd d67, d75, Sp.gd d75, go_sem]) hI (Below.refl _ _) rfl
                · have d58 : a.tmps.getD 58 undef = .bool true := F.val 1 58 (by kernel_rfl) (by rfl)
                  have d76 : a.tmps.getD 76 undef = .bool (Al.al x) := F.val 19 76 (by kernel_rfl) (by rfl)
                  exact Sp.sp_value rfl (Sp.wanted_none rfl) (v := .bool (Al.al x)) (w' := w1) (by simp [execOp, Act.eval, d58, Sp.gd d58, d76, Sp.gd d76, go_sem]) hI (Below.refl _ _) rfl
                · have d77 : a.tmps.getD 77 undef = .bool (Al.al x) := F.val 20 77 (by kernel_rfl) (by rfl)
                  exact Sp.sp_value rfl (Sp.wanted_none rfl) (v := .bool (Al.al x)) (w' := w1) (by simp [execOp, Act.eval, d77, Sp.gd d77, go_sem]) hI (Below.refl _ _) rfl
              · intro val w1 hI hS
                have h6 : val 21 = .bool (Al.al (z k)) := hS 21 (by decide)
                have h57 : val 0 = .bool true := hS 0 (by decide)
                simp only [Sp.setAll, List.setIfInBounds_toArray, List.set_cons_zero, List.set_cons_succ, h6]
                clear hS h6 h57
                have HI := Lib.hid hI
                clear hI
                go_wp2_with fail
                go_roundw
                case rel => exact ⟨k + 1, by omega, by go_num, by rw [fk_al n z k HF.out hk0 hkl], fun j hj => by have := H128.out j; by_cases e : j = k; (subst e; omega); (exact this (by omega)), HI.out⟩
                case measure => simp [intOf]; omega
        · have hf : fk n z k = false := by simpa using hf
          rw [hf]
          have HF := Lib.hid hf
          clear hf
          go_wp2_with fail
          go_quiet (fail)
          go_wp2_with fail
          go_roundw
          case rel => exact ⟨k + 1, by omega, by go_num, by rw [fk_off n z k HF.out], fun j hj => by have := H128.out j; by_cases e : j = k; (subst e; omega); (exact this (by omega)), drewN HB.out _⟩
          case measure => simp [intOf]; omega
    · have hk' : k = n := by omega
      have HK := Lib.hid hk'
      clear hk'
      go_wp2_with fail
      have hempty := fun w0 : World => impl_bool 0 0 0 0 none none (fun _ => 0) w0 false (by unfold fine; simp) (by omega) (by omega) (.inl rfl) (fun i => ⟨by omega, by omega⟩)
      have hz' : ∀ i, 0 ≤ zin n z i ∧ zin n z i < 128 := by
        intro i
        unfold zin
        split
        · rename_i h; have := (HR.out i).1; exact ⟨this, H128.out i (by rw [HK.out]; exact h)⟩
        · omega
      have hfull := fun (w0 : World) (hw : Below w.heap.size w w0) => impl_bool n c m d (some ⟨b, o, none⟩) B (zin n z) w0 (fk n z k) (by rw [HK.out]; exact fine_fk n m z hn0 hm0 Z0.out ZL.out) (by omega) (by omega) (.inr ⟨b, o, rfl, by have := hw.size; omega, fun i hi => by rw [hw.cell (p := ⟨b, o + i, none⟩) hb]; unfold zin; rw [if_pos hi]; exact HZ.out i hi⟩) hz'
      have HE := Lib.hid hempty
      have HL := Lib.hid hfull
      clear hempty hfull hz' c0 cl
      go_wp2_with fail
      refine (HE.out _).mono ?_
      rintro e w1 ⟨rfl, hb1⟩
      have HB1 := Lib.hid (HB.out.trans (hb1.mono HB.out.size))
      have hs1 := HB1.out.size
      clear hb1
      simp only [flt, Bool.false_eq_true, if_false]
      go_wp2_with fail
      refine (HL.out _ ?_).mono ?_
      · exact HB1.out.alloc hs1 _
      rintro e w2 ⟨rfl, hb2⟩
      have HB2 := Lib.hid ((HB1.out.alloc hs1 _).trans (hb2.mono (by simp; omega)))
      have c9 : w2.cell? ⟨w1.heap.size, 0, none⟩ = some (.int .i64 5) := by
        rw [(bcell hb2).1 _ _ (by simp)]
        simp
      clear hb2
      have hfd := field0
      cases fk n z k
      all_goals
        simp only [flt, Bool.false_eq_true, if_false, if_true]
        go_wp2_with fail
        go_ret
        exact ⟨rfl, HB2.out⟩
end Go.Proofs.Ytccmflnkhabilaa.DirL

/- Which tag directives may be written: the package's analysis, walked. For handles in ASCII. -/
import Derived.Test.YtccmflnkhabilaaEmB
import Derived.Test.YtccmflnkhabilaaAl
import Derived.Test.YtccmflnkhabilaaWd
namespace Go.Proofs.Ytccmflnkhabilaa.Dir
open Go.RowKit Go.Proofs.Ytccmflnkhabilaa.Em Go.Proofs.Ytccmflnkhabilaa.Al Go.Proofs.Ytccmflnkhabilaa.Wd
set_option linter.unusedVariables false
/-- The emitter has its error, and nothing else of note has turned. -/
def Failed (p : Nat) (w : World) (e : Ending) (w' : World) : Prop := e = .returned (.bool false) ∧ w'.cell? ⟨p, 0, none⟩ = some (.int .i64 7) ∧ Ext p w w'
theorem ext_setCell {p : Nat} (w : World) (o : Nat) (v : Value) : Ext p w (w.setCell ⟨p, o, none⟩ v) :=
  ⟨rfl, rfl, rfl, by simp [World.setCell], fun k hk hp => Below.heap_setCell _ _ _ _ hp⟩
set_option maxHeartbeats 400000 in
theorem err_any (p : Nat) (s : ByteArray) (w : World) (x y : Value) (h0 : w.cell? ⟨p, 0, none⟩ = some x) (h1 : w.cell? ⟨p, 1, none⟩ = some y) (f0 : w.frozen? ⟨p, 0, none⟩ = false) (f1 : w.frozen? ⟨p, 1, none⟩ = false) :
    Calls Try.prog 36 #[.pointer (some ⟨p, 0, none⟩), .string s] w (Failed p w) := by
  go_enter Try.func36, Try.ntmps36
  go_wp2
  go_ret
  refine ⟨rfl, ?_, ?_⟩
  · first | go_cell | (simp [go_sem, h0]; done)
  · exact (ext_setCell w 0 _).trans (ext_setCell _ 1 _)
/-- May it be written? -/
def fine (n m : Nat) (z : Nat → Int) : Bool := decide (0 < n ∧ z 0 = 33 ∧ z (n - 1) = 33 ∧ (∀ i, i < n - 1 → 1 ≤ i → al (z i) = true) ∧ 0 < m)
/-- What the analysis leaves. -/
def Told (p : Nat) (b : Bool) (w : World) (e : Ending) (w' : World) : Prop := e = .returned (.bool b) ∧ w'.cell? ⟨p, 0, none⟩ = some (.int .i64 (if b then 0 else 7)) ∧ Ext p w w'
theorem told_failed {p : Nat} {w w' : World} {e : Ending} {b : Bool} (hb : b = false) (h : Failed p w e w') : Told p b w e w' := by subst hb; exact h
set_option maxHeartbeats 1000000 in
set_option maxRecDepth 100000 in
theorem dir_any (p t hb ho : Nat) (n c m d : Nat) (B : Option Addr) (z : Nat → Int) (w : World) (y : Value) (hn : n ≤ 2147483647)
    (hm : m ≤ 2147483647)
    (h0 : w.cell? ⟨p, 0, none⟩ = some (.int .i64 0)) (h1 : w.cell? ⟨p, 1, none⟩ = some y) (f0 : w.frozen? ⟨p, 0, none⟩ = false) (f1 : w.frozen? ⟨p, 1, none⟩ = false)
    (t0 : w.cell? ⟨t, 0, none⟩ = some (.slice (some ⟨hb, ho, none⟩) n c)) (t1 : w.cell? ⟨t, 1, none⟩ = some (.slice B m d))
    (hz : ∀ i, i < n → w.cell? ⟨hb, ho + i, none⟩ = some (.int .u8 (z i))) (hr : ∀ i, 0 ≤ z i ∧ z i < 128) :
    Calls Try.prog 25 #[.pointer (some ⟨p, 0, none⟩), .pointer (some ⟨t, 0, none⟩)] w (Told p (fine n m z) w) := by
  have herr := fun s => err_any p s w _ _ h0 h1 f0 f1
  have HE := Lib.hid herr
  have HZ := Lib.hid hz
  have HR := Lib.hid hr
  have H0 := Lib.hid h0
  clear herr hz hr h1 f0 f1
  by_cases hn0 : n = 0
  · subst hn0
    have hf : fine 0 m z = false := by unfold fine; rw [decide_eq_false_iff_not]; omega
    go_enter Try.func25, Try.ntmps25
    go_wp2_with fail
    refine (HE.out _).mono ?_
    intro e w' h
    obtain ⟨rfl, hc, hx⟩ := h
    have HC := Lib.hid hc
    clear hc
    go_wp2_with fail
    go_ret
    exact told_failed hf ⟨rfl, HC.out, hx⟩
  have z0 := HZ.out 0 (by omega)
  rw [Nat.add_zero] at z0
  have hn0b : ((n : Int) == 0) = false := by simpa using hn0
  by_cases a : z 0 = 33
  · have ab : (z 0 != 33) = false := by simpa using a
    have hzn := HZ.out (n - 1) (by omega)
    have en : ((n : Int) - 1).toNat = n - 1 := by omega
    by_cases l : z (n - 1) = 33
    · have lb : (z (n - 1) != 33) = false := by simpa using l
      have A := Lib.hid a
      have L := Lib.hid l
      clear a l
      go_enter Try.func25, Try.ntmps25
      go_wp2_with fail
      clear lb ab
      go_loop [7] (fun i => ∃ k : Nat, 1 ≤ k ∧ k ≤ n ∧ i = .int .i64 k ∧ ∀ j, j < k → 1 ≤ j → al (z j) = true) (fun i => n - (intOf i).toNat)
      case atStart => exact ⟨1, by omega, by omega, rfl, fun j h1 h2 => by omega⟩
      case round =>
        obtain ⟨k, hk1, hkn, rfl, hall⟩ := hrel
        have HA := Lib.hid hall
        clear hall
        by_cases hk : k < n - 1
        · have hk' : (k : Int) < (n : Int) - 1 := by omega
          have zk := HZ.out k (by omega)
          have rk := HR.out k
          by_cases hal : al (z k) = true
          · have hca := fun w' (h : w'.cell? ⟨hb, ho + k, none⟩ = _) => al_any hb ho n c k (z k) (by omega) (by omega) rk.1 (by omega) w' h
            have hcw := fun w' => wd_any (z k) rk.1 (by omega) w'
            rw [hal] at hca
            rw [show wd (z k) = 1 by unfold wd; rw [if_pos rk.2]] at hcw
            have HCA := Lib.hid (hca w zk)
            have HCW := Lib.hid hcw
            have HAL := Lib.hid hal
            clear hca hcw hal
            go_wp2_with fail
            refine HCA.out.mono ?_
            rintro e w' ⟨rfl, rfl⟩
            go_wp2_with fail
            refine (HCW.out _).mono ?_
            rintro e w' ⟨rfl, rfl⟩
            go_wp2_with fail
            go_round
            case rel =>
              refine ⟨k + 1, by omega, by omega, by go_num, fun j h1 h2 => ?_⟩
              by_cases e : j = k
              · subst e; exact HAL.out
              · exact HA.out j (by omega) h2
            case measure => simp [intOf]; omega
          · have hf : fine n m z = false := by
              unfold fine
              rw [decide_eq_false_iff_not]
              exact fun h => hal (h.2.2.2.1 k hk hk1)
            have hca := fun w' (h : w'.cell? ⟨hb, ho + k, none⟩ = _) => al_any hb ho n c k (z k) (by omega) (by omega) rk.1 (by omega) w' h
            rw [show al (z k) = false by simpa using hal] at hca
            have HCA := Lib.hid (hca w zk)
            clear hca hal
            go_wp2_with fail
            refine HCA.out.mono ?_
            rintro e w' ⟨rfl, rfl⟩
            go_wp2_with fail
            refine (HE.out _).mono ?_
            intro e w' h
            obtain ⟨rfl, hc, hx⟩ := h
            have HC := Lib.hid hc
            clear hc
            go_wp2_with fail
            go_ret
            exact told_failed hf ⟨rfl, HC.out, hx⟩
        · have hk' : ¬ (k : Int) < (n : Int) - 1 := by omega
          by_cases m0 : m = 0
          · subst m0
            have hf : fine n 0 z = false := by unfold fine; rw [decide_eq_false_iff_not]; omega
            go_wp2_with fail
            refine (HE.out _).mono ?_
            intro e w' h
            obtain ⟨rfl, hc, hx⟩ := h
            have HC := Lib.hid hc
            clear hc
            go_wp2_with fail
            go_ret
            exact told_failed hf ⟨rfl, HC.out, hx⟩
          · have m0b : ((m : Int) == 0) = false := by simpa using m0
            have hf : fine n m z = true := by
              unfold fine
              rw [decide_eq_true_eq]
              exact ⟨by omega, A.out, L.out, fun i h1 h2 => HA.out i (by omega) h2, by omega⟩
            go_wp2_with fail
            go_ret
            exact ⟨rfl, H0.out, Ext.refl _ _⟩
    · have hf : fine n m z = false := by unfold fine; rw [decide_eq_false_iff_not]; exact fun h => l h.2.2.1
      have lb : (z (n - 1) != 33) = true := by simpa using l
      clear a l
      go_enter Try.func25, Try.ntmps25
      go_wp2_with fail
      refine (HE.out _).mono ?_
      intro e w' h
      obtain ⟨rfl, hc, hx⟩ := h
      have HC := Lib.hid hc
      clear hc
      go_wp2_with fail
      go_ret
      exact told_failed hf ⟨rfl, HC.out, hx⟩
  · have hf : fine n m z = false := by unfold fine; rw [decide_eq_false_iff_not]; exact fun h => a h.2.1
    have ab : (z 0 != 33) = true := by simpa using a
    clear a
    go_enter Try.func25, Try.ntmps25
    go_wp2_with fail
    refine (HE.out _).mono ?_
    intro e w' h
    obtain ⟨rfl, hc, hx⟩ := h
    have HC := Lib.hid hc
    clear hc
    go_wp2_with fail
    go_ret
    exact told_failed hf ⟨rfl, HC.out, hx⟩
end Go.Proofs.Ytccmflnkhabilaa.Dir

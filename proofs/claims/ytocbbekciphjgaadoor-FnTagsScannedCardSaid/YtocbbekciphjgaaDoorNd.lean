/- laws.ndName: at most 8 letters of a name out of a text, or x: the walk. For texts of at most 2^31 - 1 bytes. -/
import Derived.Test.YtocbbekciphjgaaDoorRows
import Derived.WalkKit
import Derived.WalkSpells
import Derived.WalkLawsBesides
import Derived.Laws.AppendOwn
import Derived.Laws.BytesArg
import Derived.RowKit3
import Derived.Lib.Hide
import Derived.Lib.Strings
import Derived.Below
import Derived.BigGuard
import Derived.BigCall
namespace Go.Proofs.YtocbbekciphjgaaDoor.Nd
open Go.RowKit
set_option linter.unusedVariables false
def al (x : Int) : Bool := decide ((48 ≤ x ∧ x ≤ 57) ∨ (65 ≤ x ∧ x ≤ 90) ∨ (97 ≤ x ∧ x ≤ 122) ∨ x = 95 ∨ x = 45)
def bt (s : ByteArray) (i : Nat) : Int := if h : i < s.size then (s[i].toNat : Int) else 0
theorem bt_of (s : ByteArray) (i : Nat) (h : i < s.size) : bt s i = (s[i].toNat : Int) := by unfold bt; rw [dif_pos h]
/-- The letters of the first k bytes, at most 8. -/
def got (s : ByteArray) : Nat → List Int
  | 0 => []
  | k + 1 => if (got s k).length < 8 ∧ al (bt s k) = true then got s k ++ [bt s k] else got s k
theorem got_len (s : ByteArray) : ∀ k, (got s k).length ≤ 8 := by
  intro k
  induction k with
  | zero => simp [got]
  | succ k ih =>
    simp only [got]
    split
    · rename_i h; simp; omega
    · exact ih
theorem got_full (s : ByteArray) (k : Nat) (h : 8 ≤ (got s k).length) : ∀ d, got s (k + d) = got s k := by
  intro d
  induction d with
  | zero => rfl
  | succ d ih =>
    rw [← Nat.add_assoc]
    simp only [got]
    rw [ih, if_neg (by omega)]
theorem got_range (s : ByteArray) : ∀ k, ∀ x ∈ got s k, 0 ≤ x ∧ x ≤ 255 ∧ al x = true := by
  intro k
  induction k with
  | zero => simp [got]
  | succ k ih =>
    simp only [got]
    split
    · rename_i h
      intro x hx
      rcases List.mem_append.1 hx with hx | hx
      · exact ih x hx
      · simp at hx
        subst hx
        have h2 := h.2
        refine ⟨?_, ?_, h2⟩
        · unfold al at h2; rw [decide_eq_true_eq] at h2; omega
        · unfold al at h2; rw [decide_eq_true_eq] at h2; omega
    · exact ih
/-- The name of a text. -/
def nm (s : ByteArray) : ByteArray := if got s s.size = [] then ⟨#[120]⟩ else strOfNums (got s s.size)
theorem own_slice {w : World} {base n : Nat} {e : TypeId} {v : Value} {xs : List Value} (h : w.ownsRow base e 1 v n xs) : ∃ A cap, v = .slice A n cap := by
  obtain ⟨_, ⟨rfl, rfl⟩ | ⟨g, cap, cur, rfl, _⟩⟩ := h
  · exact ⟨none, 0, rfl⟩
  · exact ⟨_, cap, rfl⟩
theorem infoE : (Tryd.prog.info? 5).map (fun i => (i.zero, i.size, i.bytes)) = some (some (.int .u8 0), 1, 1) := by kernel_rfl
/-- One value more behind a row of the call's own. -/
theorem wpList_push {ops : Array Oper} {rest : List Oper} {o : Oper} {a : Act} {w : World} {Q : Exit → Act → World → Prop} (hgd : o.guard = none) (s x : Operand)
    (ho : o.op = .call { callee := .builtin .append, args := #[s, x], argTypes := #[22, 22] }) (base n : Nat) (v u : Value) (xs : List Value) (hs : a.eval s = v) (hown : w.ownsRow base 5 1 v n xs)
    (b c : Nat) (hx : a.eval x = .slice (some ⟨b, 0, none⟩) 1 c) (hu : w.cell? ⟨b, 0, none⟩ = some u) (h1 : u.oneCell' = true) (hn : n + 1 ≤ 140737488355328) (hbase : base ≤ w.heap.size)
    (h : ∀ v' w', w'.ownsRow base 5 1 v' (n + 1) (xs ++ [u]) → w.grownBy w' v.ownBlock → wpList Tryd.prog ops Q rest (a.put o.dst v') w') : wpList Tryd.prog ops Q (o :: rest) a w := by
  obtain ⟨i0, hi, hz0, hz1, hz2⟩ := info_parts infoE
  refine wpList_append_own w hgd s x 22 ho base 5 i0 (.int .u8 0) 1 1 Tryd.underlying22 hi hz0 hz1 hz2 rfl (by decide) v n xs hs hown ⟨b, 0, none⟩ 1 c [u] hx rfl ?_ ?_ ?_ ?_ hbase (fun v' w' a b _ => h v' w' a b)
  · intro j y hy
    match j, hy with
    | 0, hy => simp at hy; subst hy; exact hu
    | j + 1, hy => simp at hy
  · intro y hy
    simp at hy
    subst hy
    exact h1
  · unfold maxLen; omega
  · omega
theorem conv_own {w0 w : World} {A : Option Addr} {n cap : Nat} {l : List Int} (h : w.ownsRow w0.heap.size 5 1 (.slice A n cap) l.length (l.map (Value.int .u8))) (hz : ¬ l.length = 0) :
    (convert 22 9 (.slice A n cap)).run Tryd.prog w = .ok (.string (strOfNums l)) w := by
  have hcells := fun g hg => World.ownsRow.cells h (g := g) hg
  obtain ⟨_, ⟨_, h0⟩ | ⟨g, cap', cur, hv, _⟩⟩ := h
  · omega
  simp only [Value.slice.injEq] at hv
  obtain ⟨rfl, rfl, rfl⟩ := hv
  refine run_convert_bytes_arg w 22 5 Tryd.underlying22 Tryd.underlying5 g 0 l.length cap l rfl ?_ 9 Tryd.underlying9
  intro i hi
  have h := hcells g rfl i (.int .u8 (l.getD i 0)) (by rw [List.getElem?_map, List.getD_eq_getElem?_getD, List.getElem?_eq_getElem hi]; rfl)
  have e : ({ block := g, off := 0 } : Addr).add i = ⟨g, 0 + i, none⟩ := by
    unfold Addr.add
    split
    · rename_i h; subst h; rfl
    · rfl
  rw [e] at h
  exact h
theorem ret_str {a b : ByteArray} (h : a = b) : Ending.returned (.string a) = .returned (.string b) := by rw [h]
theorem empty_list : (⟨#[]⟩ : ByteArray).toList = [] := by rw [Lib.toList_data]
theorem nm_x {s : ByteArray} (h : got s s.size = []) : nm s = ⟨#[120]⟩ := by unfold nm; rw [if_pos h]
theorem nm_ne {s : ByteArray} (h : got s s.size ≠ []) : nm s = strOfNums (got s s.size) := by unfold nm; rw [if_neg h]
set_option maxHeartbeats 2000000 in
set_option maxRecDepth 100000 in
theorem nd_any (s : ByteArray) (w : World) (hs : s.size ≤ 2147483647) : Calls Tryd.prog 16 #[.string s] w fun e w' => e = .returned (.string (nm s)) ∧ Below w.heap.size w w' := by
  obtain ⟨i0, hi, hz0, hz1, hz2⟩ := info_parts infoE
  go_enter Tryd.func16, Tryd.ntmps16
  try simp only [List.append]
  go_wp2_with fail
  go_loopw [3, 4] (fun v i wr => ∃ k : Nat, k ≤ s.size ∧ i = .int .i64 k ∧ wr.ownsRow w.heap.size 5 1 v (got s k).length ((got s k).map (Value.int .u8)) ∧ Below w.heap.size w wr) (fun _ i _ => s.size - (intOf i).toNat)
  case atStart => exact ⟨0, Nat.zero_le _, rfl, ⟨rfl, .inl ⟨rfl, rfl⟩⟩, Below.refl _ _⟩
  case round =>
    obtain ⟨k, hk, rfl, hown, hbel⟩ := hrel
    obtain ⟨A, cap, rfl⟩ := own_slice hown
    have hlen := got_len s k
    have HO := Lib.hid hown
    have HB := Lib.hid hbel
    clear hown hbel
    by_cases hks : k < s.size
    · by_cases h8 : (got s k).length < 8
      · have hb := bt_of s k hks
        have hx1 := s[k].toNat_lt
        by_cases hal : al (bt s k) = true
        · have hnext : got s (k + 1) = got s k ++ [(s[k].toNat : Int)] := by simp only [got]; rw [if_pos ⟨h8, hal⟩, hb]
          have HN := Lib.hid hnext
          have hcls : (97 ≤ (s[k].toNat : Int) ∧ (s[k].toNat : Int) ≤ 122) ∨ (65 ≤ (s[k].toNat : Int) ∧ (s[k].toNat : Int) ≤ 90) ∨ (48 ≤ (s[k].toNat : Int) ∧ (s[k].toNat : Int) ≤ 57) ∨ (95 ≤ (s[k].toNat : Int) ∧ (s[k].toNat : Int) ≤ 95) ∨ (45 ≤ (s[k].toNat : Int) ∧ (s[k].toNat : Int) ≤ 45) := by
            rw [hb] at hal
            unfold al at hal
            rw [decide_eq_true_eq] at hal
            omega
          clear hal hb hnext
          rcases hcls with ⟨c1, c2⟩ | ⟨c1, c2⟩ | ⟨c1, c2⟩ | ⟨c1, c2⟩ | ⟨c1, c2⟩
          all_goals
            first
              | have e95 : ((s[k].toNat : Int) == 95) = true := by simp; omega
              | have e95 : ((s[k].toNat : Int) == 95) = false := by simp; omega
            first
              | have e45 : ((s[k].toNat : Int) == 45) = true := by simp; omega
              | have e45 : ((s[k].toNat : Int) == 45) = false := by simp; omega
            go_wp2_with ((at_builtin; refine wpList_push rfl (.tmp 50) (.tmp 52) rfl w.heap.size (got s k).length _ (.int .u8 (s[k].toNat : Int)) _ rfl (HO.out.alloc _) wr.heap.size 1 rfl (by simp [World.cell?_alloc_new]) rfl (by omega) (by have := HB.out.size; simp; omega) ?_))
            intro v' w' hown' hg'
            have hb' : Below w.heap.size w w' := (HB.out.alloc HB.out.size _).grown hg' (by have := HB.out.size; simp; omega) (fun k hk => (HO.out.lt k hk).1)
            have HO' := Lib.hid hown'
            have HB' := Lib.hid hb'
            clear hown' hg' hb'
            go_wp2_with fail
            go_roundw
            case rel => exact ⟨k + 1, by omega, by go_num, by rw [HN.out]; simpa using HO'.out, HB'.out⟩
            case measure => simp [intOf]; omega
        · have hnext : got s (k + 1) = got s k := by simp only [got]; rw [if_neg (fun h => hal h.2)]
          have HN := Lib.hid hnext
          have hcls : (s[k].toNat : Int) ≤ 44 ∨ (46 ≤ (s[k].toNat : Int) ∧ (s[k].toNat : Int) ≤ 47) ∨ (58 ≤ (s[k].toNat : Int) ∧ (s[k].toNat : Int) ≤ 64) ∨ (91 ≤ (s[k].toNat : Int) ∧ (s[k].toNat : Int) ≤ 94) ∨ (96 ≤ (s[k].toNat : Int) ∧ (s[k].toNat : Int) ≤ 96) ∨ 123 ≤ (s[k].toNat : Int) := by
            rw [hb] at hal
            unfold al at hal
            rw [decide_eq_true_eq] at hal
            omega
          have e95 : ((s[k].toNat : Int) == 95) = false := by simp; omega
          have e45 : ((s[k].toNat : Int) == 45) = false := by simp; omega
          clear hal hb hnext
          rcases hcls with c1 | ⟨c1, c2⟩ | ⟨c1, c2⟩ | ⟨c1, c2⟩ | ⟨c1, c2⟩ | c1
          all_goals
            go_wp2_with fail
            go_roundw
            case rel => exact ⟨k + 1, by omega, by go_num, by rw [HN.out]; exact HO.out, HB.out⟩
            case measure => simp [intOf]; omega
      · have hfull := got_full s k (by omega) (s.size - k)
        rw [show k + (s.size - k) = s.size by omega] at hfull
        have HF := Lib.hid hfull
        clear hfull
        by_cases hz : (got s k).length = 0
        · have hzb : (((got s k).length : Int) == 0) = true := by simpa using hz
          have hnil : got s s.size = [] := by rw [HF.out]; exact List.eq_nil_of_length_eq_zero hz
          have HN := Lib.hid (nm_x hnil)
          clear hnil hz
          go_wp2_with fail
          go_ret
          exact ⟨ret_str (by rw [HN.out]), HB.out⟩
        · have hzb : (((got s k).length : Int) == 0) = false := by simpa using hz
          have hcv := conv_own HO.out hz
          have hnil : got s s.size ≠ [] := by rw [HF.out]; exact fun h => hz (by rw [h]; rfl)
          have HN := Lib.hid (nm_ne hnil)
          clear hnil hz
          go_wp2_with fail
          go_ret
          exact ⟨ret_str (by rw [HN.out, HF.out]), HB.out⟩
    · have hfull : got s s.size = got s k := by rw [show k = s.size by omega]
      have HF := Lib.hid hfull
      clear hfull
      by_cases hz : (got s k).length = 0
      · have hzb : (((got s k).length : Int) == 0) = true := by simpa using hz
        have hnil : got s s.size = [] := by rw [HF.out]; exact List.eq_nil_of_length_eq_zero hz
        have HN := Lib.hid (nm_x hnil)
        clear hnil hz
        go_wp2_with fail
        go_ret
        exact ⟨ret_str (by rw [HN.out]), HB.out⟩
      · have hzb : (((got s k).length : Int) == 0) = false := by simpa using hz
        have hcv := conv_own HO.out hz
        have hnil : got s s.size ≠ [] := by rw [HF.out]; exact fun h => hz (by rw [h]; rfl)
        have HN := Lib.hid (nm_ne hnil)
        clear hnil hz
        go_wp2_with fail
        go_ret
        exact ⟨ret_str (by rw [HN.out, HF.out]), HB.out⟩
end Go.Proofs.YtocbbekciphjgaaDoor.Nd

/- A text without a byte that is not in it (zzWithout): the walk. -/
import Derived.Test.YtpdfamigmkeflaaDoorRiB
import Derived.Laws.AppendOwn
import Derived.Laws.BytesArg
import Derived.RowKit3
import Derived.Lib.Hide
import Derived.Deep.QuietTactic
namespace Go.Proofs.YtpdfamigmkeflaaDoor.Ri
open Go.RowKit
set_option linter.unusedVariables false
set_option linter.unusedSimpArgs false
theorem own_slice {w : World} {base n : Nat} {e : TypeId} {v : Value} {xs : List Value} (h : w.ownsRow base e 1 v n xs) : ∃ A cap, v = .slice A n cap := by
  obtain ⟨_, ⟨rfl, rfl⟩ | ⟨g, cap, cur, rfl, _⟩⟩ := h
  · exact ⟨none, 0, rfl⟩
  · exact ⟨_, cap, rfl⟩
theorem infoE : (Tryd.prog.info? 5).map (fun i => (i.zero, i.size, i.bytes)) = some (some (.int .u8 0), 1, 1) := by kernel_rfl
/-- One value more behind a row of the call's own. -/
theorem wpList_push {ops : Array Oper} {rest : List Oper} {o : Oper} {a : Act} {w : World} {Q : Exit → Act → World → Prop} (hgd : o.guard = none) (s x : Operand)
    (ho : o.op = .call { callee := .builtin .append, args := #[s, x], argTypes := #[38, 38] }) (base n : Nat) (v u : Value) (xs : List Value) (hs : a.eval s = v) (hown : w.ownsRow base 5 1 v n xs)
    (b c : Nat) (hx : a.eval x = .slice (some ⟨b, 0, none⟩) 1 c) (hu : w.cell? ⟨b, 0, none⟩ = some u) (h1 : u.oneCell' = true) (hn : n + 1 ≤ 140737488355328) (hbase : base ≤ w.heap.size)
    (h : ∀ v' w', w'.ownsRow base 5 1 v' (n + 1) (xs ++ [u]) → w.grownBy w' v.ownBlock → wpList Tryd.prog ops Q rest (a.put o.dst v') w') : wpList Tryd.prog ops Q (o :: rest) a w := by
  obtain ⟨i0, hi, hz0, hz1, hz2⟩ := info_parts infoE
  refine wpList_append_own w hgd s x 38 ho base 5 i0 (.int .u8 0) 1 1 Tryd.underlying38 hi hz0 hz1 hz2 rfl (by decide) v n xs hs hown ⟨b, 0, none⟩ 1 c [u] hx rfl ?_ ?_ ?_ ?_ hbase (fun v' w' a b _ => h v' w' a b)
  · intro j y hy
    match j, hy with
    | 0, hy => simp at hy; subst hy; exact hu
    | j + 1, hy => simp at hy
  · intro y hy
    simp at hy
    subst hy
    exact h1
  · unfold maxLen; omega
  · omega
def vals (l : List UInt8) : List Value := l.map fun c => .int .u8 (c.toNat : Int)
theorem vals_snoc (l : List UInt8) (i : Nat) (h : i < l.length) : vals (l.take (i + 1)) = vals (l.take i) ++ [.int .u8 (l[i].toNat : Int)] := by
  unfold vals
  rw [List.take_add_one, List.getElem?_eq_getElem h]
  simp only [Option.toList_some, List.map_append, List.map_cons, List.map_nil]
theorem back_own {w0 w : World} {A : Option Addr} {n cap : Nat} {l : List UInt8} (hl : 1 ≤ l.length) (h : w.ownsRow w0.heap.size 5 1 (.slice A n cap) l.length (vals l)) : (convert 38 9 (.slice A n cap)).run Tryd.prog w = .ok (.string (S l)) w := by
  have hcells := fun g hg => World.ownsRow.cells h (g := g) hg
  obtain ⟨_, ⟨_, h0⟩ | ⟨g, cap', cur, hv, _⟩⟩ := h
  · omega
  simp only [Value.slice.injEq] at hv
  obtain ⟨rfl, rfl, rfl⟩ := hv
  refine run_convert_bytes_back w 38 9 5 ⟨g, 0, none⟩ cap l Tryd.underlying38 Tryd.underlying5 Tryd.underlying9 (fun j hj => ?_)
  exact hcells g rfl j _ (by unfold vals; rw [List.getElem?_map, List.getElem?_eq_getElem hj]; rfl)
set_option maxHeartbeats 2000000 in
set_option maxRecDepth 100000 in
theorem without_any (l : List UInt8) (w : World) (h1 : 1 ≤ l.length) (h2 : l.length ≤ 1000) (hno : ∀ c ∈ l, c.toNat ≠ 95) : Calls Tryd.prog 29 #[.string (S l), .int .u8 95] w fun e w' => e = .returned (.string (S l)) ∧ Below w.heap.size w w' := by
  obtain ⟨i0, hi, hz0, hz1, hz2⟩ := info_parts infoE
  have hsz := S_size l
  have HNO := Lib.hid hno
  clear hno
  go_enter Tryd.func29, Tryd.ntmps29
  try simp only [List.append]
  go_wp2_with fail
  go_loopg [5, 6] l.length (fun g v i wr => ∃ k : Nat, k ≤ l.length ∧ g = l.length - k ∧ i = .int .i64 k ∧ wr.ownsRow w.heap.size 5 1 v k (vals (l.take k)) ∧ Below w.heap.size w wr)
  case atStart => exact ⟨0, Nat.zero_le _, rfl, rfl, ⟨rfl, .inl ⟨rfl, rfl⟩⟩, Below.refl _ _⟩
  obtain ⟨k, hk, hgk, rfl, hown, hbel⟩ := hrel
  obtain ⟨A, cap, rfl⟩ := own_slice hown
  have HGK := Lib.hid hgk
  have HO := Lib.hid hown
  have HB := Lib.hid hbel
  clear hgk hown hbel
  by_cases hks : k < l.length
  · have hg0 : (((S l)[k]'(by rw [hsz]; exact hks)).toNat : Int) = (l[k].toNat : Int) := by rw [S_get l k hks]
    have hne := HNO.out l[k] (List.getElem_mem hks)
    have hnx := vals_snoc l k hks
    obtain ⟨y, HY⟩ : ∃ y : Int, Hid (((l[k]'hks).toNat : Int) = y) := ⟨_, Lib.hid rfl⟩
    have hy := HY.out
    rw [hy] at hg0 hnx
    have e95 : (y == 95) = false := by rw [beq_eq_false_iff_ne]; omega
    have e95' : (y != 95) = true := by rw [bne, e95]; rfl
    have HNX := Lib.hid hnx
    clear hne hnx hy
    go_wp2_with ((at_builtin; refine wpList_push rfl (.tmp 18) (.tmp 22) rfl w.heap.size k _ (.int .u8 y) _ rfl (HO.out.alloc _) wr.heap.size 1 rfl (by simp [World.cell?_alloc_new]) rfl (by omega) (by have := HB.out.size; simp; omega) ?_))
    intro v' w' hown' hg'
    have hb' : Below w.heap.size w w' := (HB.out.alloc HB.out.size _).grown hg' (by have := HB.out.size; simp; omega) (fun k hk => (HO.out.lt k hk).1)
    have HO' := Lib.hid hown'
    have HB' := Lib.hid hb'
    clear hown' hg' hb'
    go_wp2_with fail
    go_roundg (l.length - (k + 1))
    case measure => have := HGK.out; omega
    case rel => exact ⟨k + 1, by omega, rfl, rfl, by rw [HNX.out]; exact HO'.out, HB'.out⟩
  · obtain rfl : k = l.length := by omega
    have ht : l.take l.length = l := List.take_of_length_le (Nat.le_refl _)
    have ho := HO.out
    rw [ht] at ho
    have hcv := back_own h1 ho
    have j1 : ¬ ((l.length : Int) < (l.length : Int)) := by omega
    clear ho
    go_wp2_with fail
    go_ret
    exact ⟨rfl, HB.out⟩
end Go.Proofs.YtpdfamigmkeflaaDoor.Ri

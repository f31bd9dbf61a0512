/- FnEncodingTold: the reference's walk, and the law's. -/
import Derived.Test.YtocbbekciphjgaaDoorPaG
import Derived.OpenShut
namespace Go.Proofs.YtocbbekciphjgaaDoor.Pa
open Go.RowKit
set_option linter.unusedVariables false
set_option linter.unusedSimpArgs false
set_option maxHeartbeats 8000000 in
set_option maxRecDepth 100000 in
theorem marked_lo (A : Option Addr) (T : List Int) (ci : Nat) (w : World) (r2 : T.length < 2) :
    Calls Tryd.prog 12 #[.slice A T.length ci] w fun e w' => e = .returned (.tuple #[.int .i64 (mk T).1, .int .i64 (mk T).2]) ∧ w = w' := by
  have b2 : decide ((2 : Int) ≤ (T.length : Int)) = false := by simp; omega
  have b2n : decide (2 ≤ T.length) = false := by simp; omega
  have b3 : decide ((3 : Int) ≤ (T.length : Int)) = false := by simp; omega
  have b3n : decide (3 ≤ T.length) = false := by simp; omega
  have hmk : mk T = (1, 0) := by unfold mk; rw [if_neg (by omega), if_neg (by omega), if_neg (by omega)]
  rw [hmk]
  clear hmk r2
  go_enter Tryd.func12, Tryd.ntmps12
  try simp only [List.append]
  go_wp2_with fail
  go_ret2
  exact ⟨rfl, rfl⟩
set_option maxHeartbeats 8000000 in
set_option maxRecDepth 100000 in
theorem marked_hi (b o : Nat) (T : List Int) (ci : Nat) (w : World) (r2 : 2 ≤ T.length) (htl : T.length ≤ 2147483647) (hbyte' : ∀ i, i < T.length → w.cell? ⟨b, o + i, none⟩ = some (.int .u8 (T.getD i 0))) :
    Calls Tryd.prog 12 #[.slice (some ⟨b, o, none⟩) T.length ci] w fun e w' => e = .returned (.tuple #[.int .i64 (mk T).1, .int .i64 (mk T).2]) ∧ w = w' := by
  have hbyte := hbyte'
  clear hbyte'
  obtain ⟨t0, ht0⟩ : ∃ t0, t0 = T.getD 0 0 := ⟨_, rfl⟩
  obtain ⟨t1, ht1⟩ : ∃ t1, t1 = T.getD 1 0 := ⟨_, rfl⟩
  obtain ⟨t2, ht2⟩ : ∃ t2, t2 = T.getD 2 0 := ⟨_, rfl⟩
  have c0 := hbyte 0 (by omega)
  have c1 := hbyte 1 (by omega)
  rw [← ht0, Nat.add_zero] at c0
  rw [← ht1] at c1
  by_cases r3 : T.length < 3
  · by_cases x : t0 = 255
    · by_cases y : t1 = 254
      · have b2 : decide ((2 : Int) ≤ (T.length : Int)) = true := by simp; omega
        have b2n : decide (2 ≤ T.length) = true := by simp; omega
        have b3 : decide ((3 : Int) ≤ (T.length : Int)) = false := by simp; omega
        have b3n : decide (3 ≤ T.length) = false := by simp; omega
        have i0 : (0 : Int) < (T.length : Int) := by omega
        have i1 : (1 : Int) < (T.length : Int) := by omega
        have i0n : 0 < T.length := by omega
        have i1n : 1 < T.length := by omega
        have x0 : (t0 == 255) = true := by simp; omega
        have x1 : (t1 == 254) = true := by simp; omega
        have hmk : mk T = (2, 2) := by unfold mk; rw [if_pos (by omega)]
        rw [hmk]
        clear hmk ht0 ht1 ht2 hbyte
        try clear x
        try clear y
        try clear z
        try clear u
        try clear v
        try clear r3
        clear r2
        go_enter Tryd.func12, Tryd.ntmps12
        try simp only [List.append]
        go_wp2_with fail
        go_ret2
        exact ⟨rfl, rfl⟩
      · have b2 : decide ((2 : Int) ≤ (T.length : Int)) = true := by simp; omega
        have b2n : decide (2 ≤ T.length) = true := by simp; omega
        have b3 : decide ((3 : Int) ≤ (T.length : Int)) = false := by simp; omega
        have b3n : decide (3 ≤ T.length) = false := by simp; omega
        have i0 : (0 : Int) < (T.length : Int) := by omega
        have i1 : (1 : Int) < (T.length : Int) := by omega
        have i0n : 0 < T.length := by omega
        have i1n : 1 < T.length := by omega
        have x0 : (t0 == 255) = true := by simp; omega
        have x1 : (t1 == 254) = false := by simp; omega
        have x2 : (t0 == 254) = false := by simp; omega
        have x3 : (t0 == 239) = false := by simp; omega
        have hmk : mk T = (1, 0) := by unfold mk; rw [if_neg (by omega), if_neg (by omega), if_neg (by omega)]
        rw [hmk]
        clear hmk ht0 ht1 ht2 hbyte
        try clear x
        try clear y
        try clear z
        try clear u
        try clear v
        try clear r3
        clear r2
        go_enter Tryd.func12, Tryd.ntmps12
        try simp only [List.append]
        go_wp2_with fail
        go_ret2
        exact ⟨rfl, rfl⟩
    by_cases y : t0 = 254
    · by_cases z : t1 = 255
      · have b2 : decide ((2 : Int) ≤ (T.length : Int)) = true := by simp; omega
        have b2n : decide (2 ≤ T.length) = true := by simp; omega
        have b3 : decide ((3 : Int) ≤ (T.length : Int)) = false := by simp; omega
        have b3n : decide (3 ≤ T.length) = false := by simp; omega
        have i0 : (0 : Int) < (T.length : Int) := by omega
        have i1 : (1 : Int) < (T.length : Int) := by omega
        have i0n : 0 < T.length := by omega
        have i1n : 1 < T.length := by omega
        have x0 : (t0 == 255) = false := by simp; omega
        have x1 : (t0 == 254) = true := by simp; omega
        have x2 : (t1 == 255) = true := by simp; omega
        have hmk : mk T = (3, 2) := by unfold mk; rw [if_neg (by omega), if_pos (by omega)]
        rw [hmk]
        clear hmk ht0 ht1 ht2 hbyte
        try clear x
        try clear y
        try clear z
        try clear u
        try clear v
        try clear r3
        clear r2
        go_enter Tryd.func12, Tryd.ntmps12
        try simp only [List.append]
        go_wp2_with fail
        go_ret2
        exact ⟨rfl, rfl⟩
      · have b2 : decide ((2 : Int) ≤ (T.length : Int)) = true := by simp; omega
        have b2n : decide (2 ≤ T.length) = true := by simp; omega
        have b3 : decide ((3 : Int) ≤ (T.length : Int)) = false := by simp; omega
        have b3n : decide (3 ≤ T.length) = false := by simp; omega
        have i0 : (0 : Int) < (T.length : Int) := by omega
        have i1 : (1 : Int) < (T.length : Int) := by omega
        have i0n : 0 < T.length := by omega
        have i1n : 1 < T.length := by omega
        have x0 : (t0 == 255) = false := by simp; omega
        have x1 : (t0 == 254) = true := by simp; omega
        have x2 : (t1 == 255) = false := by simp; omega
        have x3 : (t0 == 239) = false := by simp; omega
        have hmk : mk T = (1, 0) := by unfold mk; rw [if_neg (by omega), if_neg (by omega), if_neg (by omega)]
        rw [hmk]
        clear hmk ht0 ht1 ht2 hbyte
        try clear x
        try clear y
        try clear z
        try clear u
        try clear v
        try clear r3
        clear r2
        go_enter Tryd.func12, Tryd.ntmps12
        try simp only [List.append]
        go_wp2_with fail
        go_ret2
        exact ⟨rfl, rfl⟩
    have b2 : decide ((2 : Int) ≤ (T.length : Int)) = true := by simp; omega
    have b2n : decide (2 ≤ T.length) = true := by simp; omega
    have b3 : decide ((3 : Int) ≤ (T.length : Int)) = false := by simp; omega
    have b3n : decide (3 ≤ T.length) = false := by simp; omega
    have i0 : (0 : Int) < (T.length : Int) := by omega
    have i1 : (1 : Int) < (T.length : Int) := by omega
    have i0n : 0 < T.length := by omega
    have i1n : 1 < T.length := by omega
    have x0 : (t0 == 255) = false := by simp; omega
    have x1 : (t0 == 254) = false := by simp; omega
    have hmk : mk T = (1, 0) := by unfold mk; rw [if_neg (by omega), if_neg (by omega), if_neg (by omega)]
    rw [hmk]
    clear hmk ht0 ht1 ht2 hbyte
    try clear x
    try clear y
    try clear z
    try clear u
    try clear v
    try clear r3
    clear r2
    go_enter Tryd.func12, Tryd.ntmps12
    try simp only [List.append]
    go_wp2_with fail
    go_ret2
    exact ⟨rfl, rfl⟩
  have c2 := hbyte 2 (by omega)
  rw [← ht2] at c2
  by_cases x : t0 = 255
  · by_cases y : t1 = 254
    · have b2 : decide ((2 : Int) ≤ (T.length : Int)) = true := by simp; omega
      have b2n : decide (2 ≤ T.length) = true := by simp; omega
      have b3 : decide ((3 : Int) ≤ (T.length : Int)) = true := by simp; omega
      have b3n : decide (3 ≤ T.length) = true := by simp; omega
      have i0 : (0 : Int) < (T.length : Int) := by omega
      have i1 : (1 : Int) < (T.length : Int) := by omega
      have i0n : 0 < T.length := by omega
      have i1n : 1 < T.length := by omega
      have i2 : (2 : Int) < (T.length : Int) := by omega
      have i2n : 2 < T.length := by omega
      have x0 : (t0 == 255) = true := by simp; omega
      have x1 : (t1 == 254) = true := by simp; omega
      have hmk : mk T = (2, 2) := by unfold mk; rw [if_pos (by omega)]
      rw [hmk]
      clear hmk ht0 ht1 ht2 hbyte
      try clear x
      try clear y
      try clear z
      try clear u
      try clear v
      try clear r3
      clear r2
      go_enter Tryd.func12, Tryd.ntmps12
      try simp only [List.append]
      go_wp2_with fail
      go_ret2
      exact ⟨rfl, rfl⟩
    · have b2 : decide ((2 : Int) ≤ (T.length : Int)) = true := by simp; omega
      have b2n : decide (2 ≤ T.length) = true := by simp; omega
      have b3 : decide ((3 : Int) ≤ (T.length : Int)) = true := by simp; omega
      have b3n : decide (3 ≤ T.length) = true := by simp; omega
      have i0 : (0 : Int) < (T.length : Int) := by omega
      have i1 : (1 : Int) < (T.length : Int) := by omega
      have i0n : 0 < T.length := by omega
      have i1n : 1 < T.length := by omega
      have i2 : (2 : Int) < (T.length : Int) := by omega
      have i2n : 2 < T.length := by omega
      have x0 : (t0 == 255) = true := by simp; omega
      have x1 : (t1 == 254) = false := by simp; omega
      have x2 : (t0 == 254) = false := by simp; omega
      have x3 : (t0 == 239) = false := by simp; omega
      have hmk : mk T = (1, 0) := by unfold mk; rw [if_neg (by omega), if_neg (by omega), if_neg (by omega)]
      rw [hmk]
      clear hmk ht0 ht1 ht2 hbyte
      try clear x
      try clear y
      try clear z
      try clear u
      try clear v
      try clear r3
      clear r2
      go_enter Tryd.func12, Tryd.ntmps12
      try simp only [List.append]
      go_wp2_with fail
      go_ret2
      exact ⟨rfl, rfl⟩
  by_cases y : t0 = 254
  · by_cases z : t1 = 255
    · have b2 : decide ((2 : Int) ≤ (T.length : Int)) = true := by simp; omega
      have b2n : decide (2 ≤ T.length) = true := by simp; omega
      have b3 : decide ((3 : Int) ≤ (T.length : Int)) = true := by simp; omega
      have b3n : decide (3 ≤ T.length) = true := by simp; omega
      have i0 : (0 : Int) < (T.length : Int) := by omega
      have i1 : (1 : Int) < (T.length : Int) := by omega
      have i0n : 0 < T.length := by omega
      have i1n : 1 < T.length := by omega
      have i2 : (2 : Int) < (T.length : Int) := by omega
      have i2n : 2 < T.length := by omega
      have x0 : (t0 == 255) = false := by simp; omega
      have x1 : (t0 == 254) = true := by simp; omega
      have x2 : (t1 == 255) = true := by simp; omega
      have hmk : mk T = (3, 2) := by unfold mk; rw [if_neg (by omega), if_pos (by omega)]
      rw [hmk]
      clear hmk ht0 ht1 ht2 hbyte
      try clear x
      try clear y
      try clear z
      try clear u
      try clear v
      try clear r3
      clear r2
      go_enter Tryd.func12, Tryd.ntmps12
      try simp only [List.append]
      go_wp2_with fail
      go_ret2
      exact ⟨rfl, rfl⟩
    · have b2 : decide ((2 : Int) ≤ (T.length : Int)) = true := by simp; omega
      have b2n : decide (2 ≤ T.length) = true := by simp; omega
      have b3 : decide ((3 : Int) ≤ (T.length : Int)) = true := by simp; omega
      have b3n : decide (3 ≤ T.length) = true := by simp; omega
      have i0 : (0 : Int) < (T.length : Int) := by omega
      have i1 : (1 : Int) < (T.length : Int) := by omega
      have i0n : 0 < T.length := by omega
      have i1n : 1 < T.length := by omega
      have i2 : (2 : Int) < (T.length : Int) := by omega
      have i2n : 2 < T.length := by omega
      have x0 : (t0 == 255) = false := by simp; omega
      have x1 : (t0 == 254) = true := by simp; omega
      have x2 : (t1 == 255) = false := by simp; omega
      have x3 : (t0 == 239) = false := by simp; omega
      have hmk : mk T = (1, 0) := by unfold mk; rw [if_neg (by omega), if_neg (by omega), if_neg (by omega)]
      rw [hmk]
      clear hmk ht0 ht1 ht2 hbyte
      try clear x
      try clear y
      try clear z
      try clear u
      try clear v
      try clear r3
      clear r2
      go_enter Tryd.func12, Tryd.ntmps12
      try simp only [List.append]
      go_wp2_with fail
      go_ret2
      exact ⟨rfl, rfl⟩
  by_cases z : t0 = 239
  · by_cases u : t1 = 187
    · by_cases v : t2 = 191
      · have b2 : decide ((2 : Int) ≤ (T.length : Int)) = true := by simp; omega
        have b2n : decide (2 ≤ T.length) = true := by simp; omega
        have b3 : decide ((3 : Int) ≤ (T.length : Int)) = true := by simp; omega
        have b3n : decide (3 ≤ T.length) = true := by simp; omega
        have i0 : (0 : Int) < (T.length : Int) := by omega
        have i1 : (1 : Int) < (T.length : Int) := by omega
        have i0n : 0 < T.length := by omega
        have i1n : 1 < T.length := by omega
        have i2 : (2 : Int) < (T.length : Int) := by omega
        have i2n : 2 < T.length := by omega
        have x0 : (t0 == 255) = false := by simp; omega
        have x1 : (t0 == 254) = false := by simp; omega
        have x2 : (t0 == 239) = true := by simp; omega
        have x3 : (t1 == 187) = true := by simp; omega
        have x4 : (t2 == 191) = true := by simp; omega
        have hmk : mk T = (1, 3) := by unfold mk; rw [if_neg (by omega), if_neg (by omega), if_pos (by omega)]
        rw [hmk]
        clear hmk ht0 ht1 ht2 hbyte
        try clear x
        try clear y
        try clear z
        try clear u
        try clear v
        try clear r3
        clear r2
        go_enter Tryd.func12, Tryd.ntmps12
        try simp only [List.append]
        go_wp2_with fail
        go_ret2
        exact ⟨rfl, rfl⟩
      · have b2 : decide ((2 : Int) ≤ (T.length : Int)) = true := by simp; omega
        have b2n : decide (2 ≤ T.length) = true := by simp; omega
        have b3 : decide ((3 : Int) ≤ (T.length : Int)) = true := by simp; omega
        have b3n : decide (3 ≤ T.length) = true := by simp; omega
        have i0 : (0 : Int) < (T.length : Int) := by omega
        have i1 : (1 : Int) < (T.length : Int) := by omega
        have i0n : 0 < T.length := by omega
        have i1n : 1 < T.length := by omega
        have i2 : (2 : Int) < (T.length : Int) := by omega
        have i2n : 2 < T.length := by omega
        have x0 : (t0 == 255) = false := by simp; omega
        have x1 : (t0 == 254) = false := by simp; omega
        have x2 : (t0 == 239) = true := by simp; omega
        have x3 : (t1 == 187) = true := by simp; omega
        have x4 : (t2 == 191) = false := by simp; omega
        have hmk : mk T = (1, 0) := by unfold mk; rw [if_neg (by omega), if_neg (by omega), if_neg (by omega)]
        rw [hmk]
        clear hmk ht0 ht1 ht2 hbyte
        try clear x
        try clear y
        try clear z
        try clear u
        try clear v
        try clear r3
        clear r2
        go_enter Tryd.func12, Tryd.ntmps12
        try simp only [List.append]
        go_wp2_with fail
        go_ret2
        exact ⟨rfl, rfl⟩
    · have b2 : decide ((2 : Int) ≤ (T.length : Int)) = true := by simp; omega
      have b2n : decide (2 ≤ T.length) = true := by simp; omega
      have b3 : decide ((3 : Int) ≤ (T.length : Int)) = true := by simp; omega
      have b3n : decide (3 ≤ T.length) = true := by simp; omega
      have i0 : (0 : Int) < (T.length : Int) := by omega
      have i1 : (1 : Int) < (T.length : Int) := by omega
      have i0n : 0 < T.length := by omega
      have i1n : 1 < T.length := by omega
      have i2 : (2 : Int) < (T.length : Int) := by omega
      have i2n : 2 < T.length := by omega
      have x0 : (t0 == 255) = false := by simp; omega
      have x1 : (t0 == 254) = false := by simp; omega
      have x2 : (t0 == 239) = true := by simp; omega
      have x3 : (t1 == 187) = false := by simp; omega
      have hmk : mk T = (1, 0) := by unfold mk; rw [if_neg (by omega), if_neg (by omega), if_neg (by omega)]
      rw [hmk]
      clear hmk ht0 ht1 ht2 hbyte
      try clear x
      try clear y
      try clear z
      try clear u
      try clear v
      try clear r3
      clear r2
      go_enter Tryd.func12, Tryd.ntmps12
      try simp only [List.append]
      go_wp2_with fail
      go_ret2
      exact ⟨rfl, rfl⟩
  have b2 : decide ((2 : Int) ≤ (T.length : Int)) = true := by simp; omega
  have b2n : decide (2 ≤ T.length) = true := by simp; omega
  have b3 : decide ((3 : Int) ≤ (T.length : Int)) = true := by simp; omega
  have b3n : decide (3 ≤ T.length) = true := by simp; omega
  have i0 : (0 : Int) < (T.length : Int) := by omega
  have i1 : (1 : Int) < (T.length : Int) := by omega
  have i0n : 0 < T.length := by omega
  have i1n : 1 < T.length := by omega
  have i2 : (2 : Int) < (T.length : Int) := by omega
  have i2n : 2 < T.length := by omega
  have x0 : (t0 == 255) = false := by simp; omega
  have x1 : (t0 == 254) = false := by simp; omega
  have x2 : (t0 == 239) = false := by simp; omega
  have hmk : mk T = (1, 0) := by unfold mk; rw [if_neg (by omega), if_neg (by omega), if_neg (by omega)]
  rw [hmk]
  clear hmk ht0 ht1 ht2 hbyte
  try clear x
  try clear y
  try clear z
  try clear u
  try clear v
  try clear r3
  clear r2
  go_enter Tryd.func12, Tryd.ntmps12
  try simp only [List.append]
  go_wp2_with fail
  go_ret2
  exact ⟨rfl, rfl⟩
theorem marked_any (A : Option Addr) (T : List Int) (ci : Nat) (w : World) (htl : T.length ≤ 2147483647) (hin : In w A T) :
    Calls Tryd.prog 12 #[.slice A T.length ci] w fun e w' => e = .returned (.tuple #[.int .i64 (mk T).1, .int .i64 (mk T).2]) ∧ w = w' := by
  by_cases r2 : T.length < 2
  · exact marked_lo A T ci w r2
  · rcases hin with h | ⟨b, o, rfl, _, h⟩
    · omega
    · exact marked_hi b o T ci w (by omega) htl h
def isRow (k : IntKind) (w : World) (a : Option Addr) (len cap : Nat) (zs : List Int) : Prop :=
  (a = none ∧ len = 0 ∧ cap = 0 ∧ zs = []) ∨
  ∃ x, a = some x ∧ len ≤ cap ∧ cap ≤ maxLen ∧ zs.length = cap ∧ (∀ i, i < zs.length → w.cell? (x.add i) = some (.int k (zs.getD i 0))) ∧ ∀ n ∈ zs, (Lit.int k n).wf = true
theorem in_of {w : World} {a : Option Addr} {len cap : Nat} {zs : List Int} (h : isRow .u8 w a len cap zs) : ∃ T : List Int, T.length = len ∧ In w a T ∧ len ≤ cap := by
  rcases h with ⟨_, h, h2, _⟩ | ⟨⟨b, o, sp⟩, rfl, hl, _, hz, hc, _⟩
  · exact ⟨[], h.symm, .inl rfl, by omega⟩
  · refine ⟨zs.take len, by simp; omega, ?_, hl⟩
    by_cases h0 : len = 0
    · exact .inl (by simp [h0])
    · have hc0 := hc 0 (by omega)
      obtain rfl : sp = none := by simpa [Addr.add] using World.cell?_spot hc0
      refine .inr ⟨b, o, rfl, World.block_lt_of_cell? w ⟨b, o, none⟩ (by simpa [Addr.add] using hc0), fun i hi => ?_⟩
      have hi2 : i < len := by simp at hi; omega
      have := hc i (by omega)
      rw [List.getD_eq_getElem?_getD, List.getElem?_take_of_lt hi2, ← List.getD_eq_getElem?_getD]
      unfold Addr.add at this
      split at this
      · rename_i e; subst e; exact this
      · exact this
theorem eof_blk {w : World} {A : Option Addr} {T : List Int} (h : In w A T) : ∀ b o, A = some ⟨b, o, none⟩ → 0 < T.length → b < w.heap.size := by
  rcases h with h | ⟨b, o, rfl, h, _⟩
  · intro _ _ _ h2; omega
  · intro b' o' e _; simp at e; omega
set_option maxHeartbeats 1000000 in
theorem told_walk (a0 : Option Addr) (len0 cap0 : Nat) (z0 : List Int) (W : World) (E : Value) (hE : W.cell? ⟨2, 0, none⟩ = some E) (hEof : IsEof E) (w0 : isRow .u8 W a0 len0 cap0 z0) (y0 : len0 * 1 ≤ 140737488351232) :
    Calls Tryd.prog 3 #[.slice a0 len0 cap0] W fun e w' => e = .returned (.bool true) ∧ Below W.heap.size W w' := by
  obtain ⟨T, rfl, hin, hcap⟩ := in_of w0
  by_cases h1 : 2147483647 < T.length
  · go_enter Tryd.func3, Tryd.ntmps3
    go_wp2_with fail
    go_ret
    exact ⟨rfl, Below.refl _ _⟩
  have h2 : T.length ≤ 2147483647 := by omega
  have he := enc_any a0 T cap0 E W hE hEof hin h2 hcap
  have HENC := Lib.hid he
  have HIN := Lib.hid hin
  have H2 := Lib.hid h2
  clear he hE hEof hin w0
  go_enter Tryd.func3, Tryd.ntmps3
  go_wp2_with fail
  refine HENC.out.mono ?_
  rintro e w1 ⟨rfl, hb⟩
  have hin1 : In w1 a0 T := by
    rcases HIN.out with h | ⟨b, o, e, h1, h2⟩
    · exact .inl h
    · exact .inr ⟨b, o, e, by have := hb.size; omega, fun i hi => by rw [hb.cell (p := ⟨b, o + i, none⟩) h1]; exact h2 i hi⟩
  have HIN1 := Lib.hid hin1
  have HB := Lib.hid hb
  clear hb hin1
  go_wp2_with fail
  refine (marked_any a0 T cap0 w1 H2.out HIN1.out).mono ?_
  rintro e w2 ⟨rfl, rfl⟩
  go_wp2_with fail
  go_ret
  exact ⟨rfl, HB.out⟩
end Go.Proofs.YtocbbekciphjgaaDoor.Pa

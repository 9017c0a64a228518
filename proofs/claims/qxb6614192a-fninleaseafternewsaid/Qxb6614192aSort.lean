import Derived.Test.Qxb6614192aShelf
import Derived.Test.Qxb6614192aNode
namespace Go.Proofs.Qxb6614192a
open Go.RowKit Go.Shelf Go.Lib Go.Sort

theorem info23 : ∃ i, Try.prog.info? 23 = some i ∧ i.desc = .slice 22 := by
  have h1 : (Try.prog.info? 23).map (fun i => i.desc) = some (.slice 22) := by kernel_rfl
  cases h : Try.prog.info? 23 with
  | none => rw [h] at h1; cases h1
  | some i =>
    rw [h] at h1
    simp at h1
    exact ⟨i, rfl, h1⟩
theorem info22 : ∃ i, Try.prog.info? 22 = some i ∧ i.zero = some (.int .u64 0) ∧ i.size = 1 ∧ i.bytes = 8 ∧ i.hasPointers = false := by
  have h1 : (Try.prog.info? 22).map (fun i => (i.size, i.bytes, i.hasPointers)) = some (1, 8, false) := by kernel_rfl
  have h2 : (Try.prog.info? 22).bind (·.zero) = some (.int .u64 0) := by kernel_rfl
  cases h : Try.prog.info? 22 with
  | none => rw [h] at h1; cases h1
  | some i =>
    rw [h] at h1 h2
    simp at h1 h2
    exact ⟨i, rfl, h2, h1.1, h1.2.1, h1.2.2⟩
theorem swapper_many (n : Nat) (h2 : 2 ≤ n) (i : TypeInfo) (hb : i.bytes = 8) (hp : i.hasPointers = false) : Lib.swapperK n i 11 = 5 := by
  have c : (n == 0) = false := by simp; omega
  have d : (n == 1) = false := by simp; omega
  simp [Lib.swapperK, hp, hb, c, d]

/-- The closures read two elements of the node's field. -/
theorem less21 (blk off c kb b size : Nat) (W : World) (G : Nat → Int) (hk : W.cell? ⟨kb, 0, none⟩ = some (.pointer (some ⟨b, 0, none⟩))) (hs : W.cell? ⟨b, 1, none⟩ = some (.slice (some ⟨blk, off, none⟩) size c))
    (hc : ∀ t, t < size → W.cell? ⟨blk, off + t, none⟩ = some (.int .u64 (G t))) (i j : Nat) (hi : i < size) (hj : j < size) (_hsz : size < 4611686018427387904) :
    Calls Try.prog 21 #[.int .i64 i, .int .i64 j, .pointer (some ⟨kb, 0, none⟩)] W fun e w' => e = .returned (.bool (decide (G i < G j))) ∧ ∃ q, w' = W.drewN q := by
  have ci := hc i hi
  have cj := hc j hj
  have hi' : (i : Int) < (size : Int) := by omega
  have hj' : (j : Int) < (size : Int) := by omega
  clear hc
  go_enter Try.func21, Try.ntmps21
  go_wp2_with fail
  go_quiet (fail)
  go_wp2_with fail
  go_ret
  exact ⟨rfl, nq, rfl⟩
theorem less22 (blk off c kb b size : Nat) (W : World) (G : Nat → Int) (hk : W.cell? ⟨kb, 0, none⟩ = some (.pointer (some ⟨b, 0, none⟩))) (hs : W.cell? ⟨b, 2, none⟩ = some (.slice (some ⟨blk, off, none⟩) size c))
    (hc : ∀ t, t < size → W.cell? ⟨blk, off + t, none⟩ = some (.int .u64 (G t))) (i j : Nat) (hi : i < size) (hj : j < size) (_hsz : size < 4611686018427387904) :
    Calls Try.prog 22 #[.int .i64 i, .int .i64 j, .pointer (some ⟨kb, 0, none⟩)] W fun e w' => e = .returned (.bool (decide (G i < G j))) ∧ ∃ q, w' = W.drewN q := by
  have ci := hc i hi
  have cj := hc j hj
  have hi' : (i : Int) < (size : Int) := by omega
  have hj' : (j : Int) < (size : Int) := by omega
  clear hc
  go_enter Try.func22, Try.ntmps22
  go_wp2_with fail
  go_quiet (fail)
  go_wp2_with fail
  go_ret
  exact ⟨rfl, nq, rfl⟩

theorem keep_sorted (w : World) (n blk off : Nat) (d : Array Int) (os : Array Obj) : Keep [blk] w (Sort.grow (putRow (Value.int .u64) (Sort.ahead w n) blk off d) os) := by
  refine ⟨rfl, rfl, rfl, ?_, fun k hk hn => ?_⟩
  · simp [Sort.grow, putRow, mapBlock, Sort.ahead]
  · have hne : k ≠ blk := by simpa using hn
    simp only [Sort.grow, putRow, mapBlock, Sort.ahead]
    rw [Array.getElem?_append_left (by simpa using hk), Array.getElem?_modify, if_neg (fun e => hne e.symm)]
theorem keep_grown (w : World) (os : Array Obj) : Keep [] w (Sort.grow w os) := by
  refine ⟨rfl, rfl, rfl, ?_, fun k hk _ => ?_⟩
  · simp [Sort.grow]
  · simp only [Sort.grow]
    rw [Array.getElem?_append_left hk]

/-- sort.Slice over a field of the node, by one of the two closures (g: its number; j: the field's cell): nothing turns but the row. -/
theorem sort_field (g j : Nat) (hg : (g = 21 ∧ j = 1) ∨ (g = 22 ∧ j = 2)) (blk c kb b : Nat) (d : Array Int) (hsz : d.size < 4611686018427387904) (h2 : 2 ≤ d.size) (w : World)
    (hk : w.cell? ⟨kb, 0, none⟩ = some (.pointer (some ⟨b, 0, none⟩))) (hs : w.cell? ⟨b, j, none⟩ = some (.slice (some ⟨blk, 0, none⟩) d.size c)) (hH : Holds (Value.int .u64) w blk 0 d) (hblk : blk < w.heap.size) (hkb : kb ≠ blk) (hbb : b ≠ blk) :
    Calls Try.prog 20 #[.iface 23 (.slice (some ⟨blk, 0, none⟩) d.size c), .func (.func g) #[] #[.pointer (some ⟨kb, 0, none⟩)]] w fun e w' => e = .returned (.tuple #[]) ∧ Keep [blk] w w' := by
  have hkl := block_lt_of_cell hk
  have hbl := block_lt_of_cell hs
  have hless : LessReads Try.prog g #[.pointer (some ⟨kb, 0, none⟩)] (Value.int .u64) ltInt blk 0 d.size w := by
    intro m os dk hsd i i' hi hi'
    have e : sortWorld (Value.int .u64) w blk 0 m dk os = putRow (Value.int .u64) (Sort.grow (Sort.ahead w m) os) blk 0 dk := by
      unfold sortWorld; rw [putRow_grow _ (Sort.ahead w m) _ blk 0 _ hblk]
    have hHg : Holds (Value.int .u64) (Sort.grow (Sort.ahead w m) os) blk 0 d := holds_grow _ _ _ blk 0 d hblk (holds_ahead _ _ _ _ _ _ hH)
    have k1 : (sortWorld (Value.int .u64) w blk 0 m dk os).cell? ⟨kb, 0, none⟩ = some (.pointer (some ⟨b, 0, none⟩)) := by
      rw [e, cell?_putRow_other _ _ blk 0 dk _ (Or.inl hkb), cell?_grow (Sort.ahead w m) os _ (show kb < (Sort.ahead w m).heap.size from hkl)]; exact hk
    have k2 : (sortWorld (Value.int .u64) w blk 0 m dk os).cell? ⟨b, j, none⟩ = some (.slice (some ⟨blk, 0, none⟩) d.size c) := by
      rw [e, cell?_putRow_other _ _ blk 0 dk _ (Or.inl hbb), cell?_grow (Sort.ahead w m) os _ (show b < (Sort.ahead w m).heap.size from hbl)]; exact hs
    have k3 : ∀ t, t < d.size → (sortWorld (Value.int .u64) w blk 0 m dk os).cell? ⟨blk, 0 + t, none⟩ = some (.int .u64 ((fun t => dk[t]!) t)) := by
      intro t ht
      rw [e]; exact cell?_putRow _ _ blk 0 d dk hHg hsd t (by omega)
    rcases hg with ⟨rfl, rfl⟩ | ⟨rfl, rfl⟩
    · exact less21 blk 0 c kb b d.size _ (fun t => dk[t]!) k1 k2 k3 i i' hi hi' hsz
    · exact less22 blk 0 c kb b d.size _ (fun t => dk[t]!) k1 k2 k3 i i' hi hi' hsz
  obtain ⟨i, hi, hd⟩ := info23
  obtain ⟨ie, hie, _, hs1, hby, hpt⟩ := info22
  have eg : ∀ args w, (callFunc g args).run Try.prog w = .ok (.enter g args) w := by
    rcases hg with ⟨rfl, _⟩ | ⟨rfl, _⟩
    · exact enters_of Try.func21 (by kernel_rfl) rfl
    · exact enters_of Try.func22 (by kernel_rfl) rfl
  have hS := Any.sort_Slice_sorted Try.laysGg6 23 22 i ie hi hd (by kernel_rfl) hie 11 (fun _ => by kernel_rfl) hs1 (fun _ => by kernel_rfl) (Value.int .u64) (fun _ => rfl) ltInt swo_ltInt g _ eg blk 0 c d h2 hsz 48 (by rw [swapper_many _ h2 ie hby hpt]; kernel_rfl) true
    (fun args W => run_callFunc_extern Try.func48 (by kernel_rfl) (by kernel_rfl) (by kernel_rfl) (e := Extern.ReflectliteSwapper.swap true) (by kernel_rfl) args W) w hless hH hblk
  change Calls Try.prog 20 _ _ _ at hS
  refine hS.mono ?_
  rintro e w' ⟨rfl, d', n, os, _, _, rfl⟩
  exact ⟨rfl, keep_sorted _ _ _ _ _ _⟩

/-- sort.Slice over none or one. -/
theorem sort_tiny (p : Option Addr) (n c : Nat) (h1 : n ≤ 1) (lf : Fn) (la lb : Array Value) (w : World) :
    Calls Try.prog 20 #[.iface 23 (.slice p n c), .func lf la lb] w fun e w' => e = .returned (.tuple #[]) ∧ Keep [] w w' := by
  obtain ⟨i, hi, hd⟩ := info23
  obtain ⟨ie, hie, _, hs1, hby, hpt⟩ := info22
  have : n = 0 ∨ n = 1 := by omega
  rcases this with rfl | rfl
  · have hS := Any.sort_Slice_tiny Try.laysGg6 23 22 i ie hi hd (by kernel_rfl) hie 11 (fun _ => by kernel_rfl) p 0 c h1 44 (by kernel_rfl) lf la lb w
    change Calls Try.prog 20 _ _ _ at hS
    refine hS.mono ?_
    rintro e w' ⟨rfl, os, rfl⟩
    exact ⟨rfl, keep_grown _ _⟩
  · have hS := Any.sort_Slice_tiny Try.laysGg6 23 22 i ie hi hd (by kernel_rfl) hie 11 (fun _ => by kernel_rfl) p 1 c h1 45 (by kernel_rfl) lf la lb w
    change Calls Try.prog 20 _ _ _ at hS
    refine hS.mono ?_
    rintro e w' ⟨rfl, os, rfl⟩
    exact ⟨rfl, keep_grown _ _⟩
end Go.Proofs.Qxb6614192a

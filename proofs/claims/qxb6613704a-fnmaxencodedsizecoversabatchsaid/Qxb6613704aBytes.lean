import Derived.Test.Qxb6613704aSmall
namespace Go.Proofs.Qxb6613704a
open Go.RowKit

/-- The slice's elements, as they lie: so many strings. -/
def Strs (w : World) (p : Option Addr) (len : Nat) (f : Nat → ByteArray) : Prop := ∀ i, i < len → ∃ b off, p = some ⟨b, off, none⟩ ∧ w.cell? ⟨b, off + i, none⟩ = some (.string (f i)) ∧ (f i).size ≤ maxLen
/-- So many slices. -/
def Slcs (w : World) (p : Option Addr) (len : Nat) (a : Nat → Option Addr) (l c : Nat → Nat) : Prop := ∀ i, i < len → ∃ b off, p = some ⟨b, off, none⟩ ∧ w.cell? ⟨b, off + i, none⟩ = some (.slice (a i) (l i) (c i)) ∧ l i ≤ maxLen
/-- So many unsigned numbers of a kind below a bound. -/
def Nums (k : IntKind) (top : Nat) (w : World) (p : Option Addr) (len : Nat) (f : Nat → Nat) : Prop := ∀ i, i < len → ∃ b off, p = some ⟨b, off, none⟩ ∧ w.cell? ⟨b, off + i, none⟩ = some (.int k (f i)) ∧ f i < top

/-- Each of the first k is no longer than 1<<20. -/
def Upto (k : Nat) (f : Nat → Nat) : Prop := ∀ i, i < k → f i ≤ 1048576
theorem Upto.zero (f : Nat → Nat) : Upto 0 f := fun _ h => by omega
theorem Upto.succ {k : Nat} {f : Nat → Nat} (h : Upto k f) (hk : f k ≤ 1048576) : Upto (k + 1) f := fun i hi => by
  by_cases e : i = k
  · subst e; exact hk
  · exact h i (by omega)

/-- It returned a bool; if that is true, each of the inner lengths is at most 1<<20. -/
def Told (l2 : Nat) (f : Nat → Nat) (l3 : Nat) (g : Nat → Nat) (e : Ending) : Prop := ∃ r : Bool, e = .returned (.bool r) ∧ (r = true → Upto l2 f ∧ Upto l3 g)
theorem Told.no {l2 : Nat} {f : Nat → Nat} {l3 : Nat} {g : Nat → Nat} : Told l2 f l3 g (.returned (.bool false)) := ⟨false, rfl, fun h => by cases h⟩

set_option maxHeartbeats 1000000 in
theorem bytes4 (p0 p1 p2 p3 : Option Addr) (l0 c0 l1 c1 l2 c2 l3 c3 : Nat) (ks : Nat → ByteArray) (va : Nat → Option Addr) (vl vc : Nat → Nat) (w : World) (h0 : l0 ≤ maxLen) (h1 : l1 ≤ maxLen) (h2 : l2 ≤ maxLen) (h3 : l3 ≤ maxLen)
    (hk : Strs w p2 l2 ks) (hv : Slcs w p3 l3 va vl vc) :
    Calls Try.prog 4 #[.slice p0 l0 c0, .slice p1 l1 c1, .slice p2 l2 c2, .slice p3 l3 c3] w fun e w' => Told l2 (fun i => (ks i).size) l3 vl e ∧ w' = w := by
  unfold maxLen at h0 h1 h2 h3
  by_cases g0 : (1048576 : Int) < l0
  · go_enter Try.func4, Try.ntmps4
    go_wp2
    go_ret
    exact ⟨Told.no, rfl⟩
  by_cases g1 : (1048576 : Int) < l1
  · go_enter Try.func4, Try.ntmps4
    go_wp2
    go_ret
    exact ⟨Told.no, rfl⟩
  by_cases g1' : (1048576 : Int) < (l0 : Int) + l1
  · go_enter Try.func4, Try.ntmps4
    go_wp2
    go_ret
    exact ⟨Told.no, rfl⟩
  by_cases g2 : (1048576 : Int) < l2
  · go_enter Try.func4, Try.ntmps4
    go_wp2
    go_ret
    exact ⟨Told.no, rfl⟩
  by_cases g2' : (1048576 : Int) < (l0 : Int) + l1 + l2
  · go_enter Try.func4, Try.ntmps4
    go_wp2
    go_ret
    exact ⟨Told.no, rfl⟩
  go_enter Try.func4, Try.ntmps4
  go_wp2
  go_loop [9, 10] (fun z i => ∃ (Z k : Nat), Z ≤ 1048576 ∧ k ≤ l2 ∧ z = .int .i64 Z ∧ i = .int .i64 k ∧ Upto k (fun i => (ks i).size)) (fun _ i => l2 - (intOf i).toNat)
  case atStart => exact ⟨l0 + l1 + l2, 0, by omega, by omega, by go_num, rfl, Upto.zero _⟩
  case round =>
    obtain ⟨Z, k, hZ, hk1, rfl, rfl, hup⟩ := hrel
    by_cases hlt : k < l2
    · obtain ⟨b, off, rfl, hc, hs⟩ := hk k hlt
      unfold maxLen at hs
      have hlt' : (k : Int) < l2 := by omega
      have hup' : Hid ((ks k).size ≤ 1048576 → Upto (k + 1) (fun i => (ks i).size)) := fun h => Upto.succ hup h
      generalize ks k = s at hc hs hup'
      by_cases s1 : (1048576 : Int) < s.size
      · go_wp2
        go_ret
        exact ⟨Told.no, rfl⟩
      by_cases s2 : (1048576 : Int) < (Z : Int) + s.size
      · go_wp2
        go_ret
        exact ⟨Told.no, rfl⟩
      go_wp2
      go_round
      case rel => exact ⟨Z + s.size, k + 1, by omega, by omega, by go_num, by go_num, hup'.out (by omega)⟩
      case measure => simp [intOf]; omega
    · have hlt' : ¬ (k : Int) < l2 := by omega
      have hkl : k = l2 := by omega
      have HKL : Hid (Upto l2 (fun i => (ks i).size)) := by rw [← hkl]; exact hup
      clear hkl hup
      by_cases g3 : (1048576 : Int) < l3
      · go_wp2
        go_ret
        exact ⟨Told.no, rfl⟩
      by_cases g3' : (1048576 : Int) < (Z : Int) + l3
      · go_wp2
        go_ret
        exact ⟨Told.no, rfl⟩
      go_wp2
      go_loop [9, 11] (fun z i => ∃ (Z k : Nat), Z ≤ 1048576 ∧ k ≤ l3 ∧ z = .int .i64 Z ∧ i = .int .i64 k ∧ Upto k vl) (fun _ i => l3 - (intOf i).toNat)
      case atStart => exact ⟨Z + l3, 0, by omega, by omega, by go_num, rfl, Upto.zero _⟩
      case round =>
        obtain ⟨Y, j, hY, hj1, rfl, rfl, hup⟩ := hrel
        by_cases hlj : j < l3
        · obtain ⟨b, off, rfl, hc, hs⟩ := hv j hlj
          unfold maxLen at hs
          have hlj' : (j : Int) < l3 := by omega
          have hup' : Hid (vl j ≤ 1048576 → Upto (j + 1) vl) := fun h => Upto.succ hup h
          generalize vl j = s at hc hs hup'
          by_cases s1 : (1048576 : Int) < s
          · go_wp2
            go_ret
            exact ⟨Told.no, rfl⟩
          by_cases s2 : (1048576 : Int) < (Y : Int) + s
          · go_wp2
            go_ret
            exact ⟨Told.no, rfl⟩
          go_wp2
          go_round
          case rel => exact ⟨Y + s, j + 1, by omega, by omega, by go_num, by go_num, hup'.out (by omega)⟩
          case measure => simp [intOf]; omega
        · have hlj' : ¬ (j : Int) < l3 := by omega
          have hjl : j = l3 := by omega
          have HJL : Hid (Upto l3 vl) := by rw [← hjl]; exact hup
          clear hjl hup
          go_wp2
          go_ret
          exact ⟨⟨true, rfl, fun _ => ⟨HKL.out, HJL.out⟩⟩, rfl⟩
end Go.Proofs.Qxb6613704a

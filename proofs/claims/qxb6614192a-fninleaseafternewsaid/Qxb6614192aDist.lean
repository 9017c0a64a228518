import Derived.Test.Qxb6614192aClone
namespace Go.Proofs.Qxb6614192a
open Go.RowKit

theorem keep_drew1 (w : World) (n : Nat) : Keep [] w (w.drewN n) := ⟨rfl, rfl, rfl, Nat.le_refl _, fun _ _ _ => rfl⟩
theorem Src.at {w wr : World} {a : Option Addr} {n : Nat} {vs : List Int} (h : Src w a n vs) (hk : Keep [] w wr) (k : Nat) (hlt : k < n) : ∃ g o, a = some ⟨g, o, none⟩ ∧ ∀ i, i < n → wr.cell? ⟨g, o + i, none⟩ = some (.int .u64 (vs.getD i 0)) := by
  obtain ⟨g, o, e, hc⟩ := h.2 (by omega)
  refine ⟨g, o, e, fun i hi => ?_⟩
  have h1 := hc i hi
  exact (World.cell?_of_block (hk.block g (World.block_lt_of_cell? _ _ h1) (by simp))).trans h1

set_option maxRecDepth 100000 in
set_option maxHeartbeats 1000000 in
theorem distinct6 (a : Option Addr) (n cap : Nat) (vs : List Int) (w : World) (h : Src w a n vs) (hn : n ≤ 1024) :
    Calls Try.prog 6 #[.slice a n cap] w fun e w' => (∃ b : Bool, e = .returned (.bool b)) ∧ Keep [] w w' := by
  have H : Hid (Src w a n vs) := h
  clear h
  go_enter Try.func6, Try.ntmps6
  go_wp2_with fail
  go_loopw [3] (fun i wr => ∃ k : Nat, k ≤ n ∧ i = .int .i64 k ∧ Keep [] w wr) (fun i _ => n - (intOf i).toNat)
  case atStart => exact ⟨0, Nat.zero_le _, rfl, Keep.refl _ _⟩
  case round =>
    obtain ⟨k, hk, rfl, hK⟩ := hrel
    obtain ⟨wo, rfl⟩ : ∃ wo, wo = wr := ⟨wr, rfl⟩
    have HK : Hid (Keep [] w wo) := hK
    clear hK
    by_cases hlt : k < n
    · obtain ⟨g, o, rfl, hc⟩ := H.out.at HK.out k hlt
      have ck := hc k hlt
      have HC : Hid (∀ i, i < n → wo.cell? ⟨g, o + i, none⟩ = some (.int .u64 (vs.getD i 0))) := hc
      have hlt' : (k : Int) < n := by omega
      clear hc
      generalize vs.getD k 0 = x at *
      by_cases hx : x = 0
      · go_wp2_with fail
        go_ret
        exact ⟨⟨_, rfl⟩, HK.out⟩
      · have hx' : (x == 0) = false := by simp [hx]
        go_wp2_with fail
        go_loopw [4] (fun i wr => ∃ j : Nat, j ≤ k ∧ i = .int .i64 j ∧ Keep [] wo wr) (fun i _ => k - (intOf i).toNat)
        case atStart => exact ⟨0, Nat.zero_le _, rfl, Keep.refl _ _⟩
        case round =>
          obtain ⟨j, hj, rfl, hQ⟩ := hrel
          have HQ : Hid (Keep [] wo wr) := hQ
          clear hQ
          by_cases hjk : j < k
          · have hjk' : (j : Int) < k := by omega
            have d1 := HC.out j (by omega)
            have e0 : wr.cell? ⟨g, o + k, none⟩ = some (.int .u64 x) := (World.cell?_of_block (HQ.out.block g (World.block_lt_of_cell? _ _ ck) (by simp))).trans ck
            have e1 : wr.cell? ⟨g, o + j, none⟩ = some (.int .u64 (vs.getD j 0)) := (World.cell?_of_block (HQ.out.block g (World.block_lt_of_cell? _ _ ck) (by simp))).trans d1
            clear d1 ck
            generalize vs.getD j 0 = y at *
            by_cases hxy : y = x
            · subst hxy
              go_wp2_with fail
              go_quiet (fail)
              go_wp2_with fail
              go_ret
              exact ⟨⟨_, rfl⟩, HK.out.trans (HQ.out.trans (keep_drew1 _ _))⟩
            · have hxy' : (y == x) = false := by simp [hxy]
              go_wp2_with fail
              go_quiet (fail)
              go_wp2_with fail
              refine ⟨⟨j + 1, by omega, by go_num, HQ.out.trans (keep_drew1 _ _)⟩, by simp [intOf]; omega⟩
          · obtain rfl : j = k := by omega
            go_wp2_with fail
            refine ⟨⟨j + 1, by omega, by go_num, HK.out.trans HQ.out⟩, by simp [intOf]; omega⟩
    · obtain rfl : k = n := by omega
      go_wp2_with fail
      go_ret
      exact ⟨⟨_, rfl⟩, HK.out⟩
end Go.Proofs.Qxb6614192a

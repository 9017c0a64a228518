import Derived.Test.Qxb6614192aNew2
import Derived.Deep.DeepCutAuto
namespace Go.Proofs.Qxb6614192a
open Go.RowKit

theorem Row.src {w : World} {B : Nat} {p : Option Addr} {c : Nat} {vs : List Int} (h : Row w B (.slice p vs.length c) vs) : Src w p vs.length vs ∧ (p = none → vs.length = 0 ∧ c = 0) := by
  refine ⟨⟨rfl, fun h0 => ?_⟩, fun hp => ?_⟩
  · obtain ⟨g, rfl, _⟩ := h.cell 0 h0
    refine ⟨g, 0, rfl, fun i hi => ?_⟩
    obtain ⟨g', e, _, _, hc⟩ := h.cell i hi
    simp only [Option.some.injEq, Addr.mk.injEq] at e
    obtain ⟨rfl, _⟩ := e
    rw [Nat.zero_add]
    exact hc
  · rcases h.2 with ⟨h1, h2⟩ | ⟨g, cap, cur, h1, _⟩
    · simp only [Value.slice.injEq] at h1
      exact ⟨h2, h1.2.2⟩
    · rw [hp] at h1
      simp at h1

theorem Src.keep {w w' : World} {a : Option Addr} {n : Nat} {vs : List Int} (h : Src w a n vs) (hk : Keep [] w w') : Src w' a n vs := by
  refine ⟨h.1, fun h0 => ?_⟩
  exact h.at hk 0 h0

/-- The lease of a started node tells whether it is the only voter. -/
theorem started_lease {w w' : World} {b pb : Nat} {vs : List Int} {id : Int} (h : Started w w' b pb vs id) :
    Calls Try.prog 12 #[.pointer (some ⟨b, 0, none⟩)] w' fun e w'' => e = .returned (.bool (decide (vs = [id]))) ∧ Keep [] w' w'' := by
  obtain ⟨s', hL, _, ⟨rfl, hr⟩ | ⟨hn, hr, hl⟩⟩ := h
  · rw [decide_eq_true rfl]
    exact lease12 b true w' (lease19_yes b pb s' w' hL hr)
  · rw [decide_eq_false hn]
    exact lease12 b false w' (lease19_no b pb s' w' hL hr hl)

set_option maxRecDepth 100000 in
set_option maxHeartbeats 2000000 in
theorem law4 (id term ticks seed : Int) (a : Option Addr) (cap : Nat) (vs : List Int) (w : World) (h : Src w a vs.length vs) (ha : a = none → vs.length = 0 ∧ cap = 0) (hid : 0 ≤ id ∧ id < 18446744073709551616) (hse : 0 ≤ seed ∧ seed < 18446744073709551616) :
    Calls Try.prog 4 #[.int .u64 id, .slice a vs.length cap, .int .u64 term, .int .i64 ticks, .int .u64 seed] w fun e w' => e = .returned (.bool true) ∧ Keep [] w w' := by
  have H : Hid (Src w a vs.length vs ∧ (a = none → vs.length = 0 ∧ cap = 0)) := ⟨h, ha⟩
  have HI : Hid ((0 ≤ id ∧ id < 18446744073709551616) ∧ (0 ≤ seed ∧ seed < 18446744073709551616)) := ⟨hid, hse⟩
  clear h ha hid hse
  by_cases hb : vs.length ≤ 1048576
  · have H11 := bytes11 id term ticks seed a vs.length cap w hb
    by_cases hn : vs.length ≤ 1024
    · have hn' : ¬ ((vs.length : Int) > 1024) := by omega
      by_cases t1 : ticks < 2
      · go_enter Try.func4, Try.ntmps4
        go_wp2_with fail
        refine H11.mono ?_
        rintro e w1 ⟨rfl, rfl⟩
        clear H11
        go_wp2_with fail
        go_ret
        exact ⟨rfl, Keep.refl _ _⟩
      by_cases t2 : ticks > 65536
      · go_enter Try.func4, Try.ntmps4
        go_wp2_with fail
        refine H11.mono ?_
        rintro e w1 ⟨rfl, rfl⟩
        clear H11
        go_wp2_with fail
        go_ret
        exact ⟨rfl, Keep.refl _ _⟩
      by_cases t3 : term > 4611686018427387904
      · go_enter Try.func4, Try.ntmps4
        go_wp2_with fail
        refine H11.mono ?_
        rintro e w1 ⟨rfl, rfl⟩
        clear H11
        go_wp2_with fail
        go_ret
        exact ⟨rfl, Keep.refl _ _⟩
      by_cases hi0 : id = 0
      · have hi0' : (id == 0) = true := by simp [hi0]
        clear hi0
        go_enter Try.func4, Try.ntmps4
        go_wp2_with fail
        refine H11.mono ?_
        rintro e w1 ⟨rfl, rfl⟩
        clear H11
        go_wp2_with fail
        go_ret
        exact ⟨rfl, Keep.refl _ _⟩
      have hi0' : (id == 0) = false := by simp [hi0]
      clear hi0
      have HT : Hid (2 ≤ ticks ∧ ticks ≤ 65536) := ⟨by omega, by omega⟩
      go_enter Try.func4, Try.ntmps4
      go_wp2_with fail
      refine H11.mono ?_
      rintro e w1 ⟨rfl, rfl⟩
      clear H11
      go_wp2_with fail
      refine (distinct6 a vs.length cap vs w1 H.out.1 hn).mono ?_
      rintro e w2 ⟨⟨d, rfl⟩, hk2⟩
      have HK : Hid (Keep [] w1 w2) := hk2
      clear hk2
      cases d with
      | false =>
        go_wp2_with fail
        go_ret
        exact ⟨rfl, HK.out⟩
      | true =>
        have hc8 := clone8 a vs.length cap vs w2 (H.out.1.keep HK.out) H.out.2 hn
        have HC8 : Hid (Calls Try.prog 8 #[.slice a vs.length cap] w2 fun e w' => ∃ p c, e = .returned (.slice p vs.length c) ∧ w'.ownsRow w2.heap.size 22 1 (.slice p vs.length c) vs.length (vs.map (Value.int .u64)) ∧ Keep [] w2 w') := hc8
        clear hc8
        go_wp2_with fail
        refine HC8.out.mono ?_
        rintro e w3 ⟨p, c, rfl, ho, hk3⟩
        have hR : Row w3 w2.heap.size (.slice p vs.length c) vs := ho
        have HR : Hid (Row w3 w2.heap.size (.slice p vs.length c) vs ∧ Keep [] w1 w3) := ⟨hR, HK.out.trans hk3⟩
        clear ho hk3 hR HC8 HK
        go_upto_region 12 with fail
        go_cut [11] (fun v wc => v = .bool (decide (vs = [id])) ∧ wc = w3)
        case first =>
          by_cases h1 : vs.length = 1
          · obtain ⟨x, rfl⟩ : ∃ x, vs = [x] := List.length_eq_one_iff.1 h1
            obtain ⟨g, rfl, _, _, hc⟩ := HR.out.1.cell 0 (by simp)
            have hx : w3.cell? ⟨g, 0, none⟩ = some (.int .u64 x) := hc
            clear hc h1 hn hn' hb
            have hl1 : [x].length = 1 := rfl
            by_cases hxe : x = id
            · have hw : Hid (decide ([x] = [id]) = true) := (show _ = true by simp [hxe])
              have hxe' : (x == id) = true := by simp [hxe]
              clear hxe
              go_wp2
              go_meet
              case rel => exact ⟨by rw [hw.out], rfl⟩
            · have hw : Hid (decide ([x] = [id]) = false) := (show _ = false by simp [hxe])
              have hxe' : (x == id) = false := by simp [hxe]
              clear hxe
              go_wp2
              go_meet
              case rel => exact ⟨by rw [hw.out], rfl⟩
          · have hw : Hid (decide (vs = [id]) = false) := by
              apply decide_eq_false
              intro e
              rw [e] at h1
              exact h1 rfl
            have h1' : ((vs.length : Int) == 1) = false := by simp; omega
            clear h1
            go_wp2
            go_meet
            case rel => exact ⟨by rw [hw.out], rfl⟩
        case rest =>
          obtain ⟨rfl, rfl⟩ := hcut
          have hc8 := clone8 p vs.length c vs wc HR.out.1.src.1 HR.out.1.src.2 hn
          have HC8 : Hid (Calls Try.prog 8 #[.slice p vs.length c] wc fun e w' => ∃ p c, e = .returned (.slice p vs.length c) ∧ w'.ownsRow wc.heap.size 22 1 (.slice p vs.length c) vs.length (vs.map (Value.int .u64)) ∧ Keep [] wc w') := hc8
          clear hc8
          go_wp2_with fail
          refine HC8.out.mono ?_
          rintro e w4 ⟨p2, c2, rfl, ho, hk4⟩
          have hR4 : Row w4 wc.heap.size (.slice p2 vs.length c2) vs := ho
          have HN : Hid (Calls Try.prog 9 #[.int .u64 id, .agg #[.slice p2 vs.length c2, .slice none 0 0, .slice none 0 0], .agg #[.int .u64 term, .int .u64 0, .int .u64 0], .agg #[.int .u64 0, .int .u64 0, .nilIface], .slice none 0 0, .int .i64 ticks, .int .u64 seed] w4 fun e w' => ∃ b pb, e = .returned (.pointer (some ⟨b, 0, none⟩)) ∧ Started w4 w' b pb vs id) :=
            new9 id term ticks seed vs p2 c2 _ w4 hR4 hn HT.out.1 HT.out.2 HI.out.1 HI.out.2
          have HK4 : Hid (Keep [] w1 w4) := HR.out.2.trans hk4
          clear ho hk4 hR4 HC8 HR
          go_wp2_with fail
          refine HN.out.mono ?_
          rintro e w5 ⟨b, pb, rfl, hst⟩
          have HL := started_lease hst
          have HK5 : Hid (Keep [] w1 w5) := by
            obtain ⟨_, _, hk, _⟩ := hst
            exact HK4.out.trans hk
          have HL' : Hid (Calls Try.prog 12 #[.pointer (some ⟨b, 0, none⟩)] w5 fun e w'' => e = .returned (.bool (decide (vs = [id]))) ∧ Keep [] w5 w'') := HL
          clear HL hst HN HK4
          generalize decide (vs = [id]) = want at *
          go_wp2_with fail
          refine HL'.out.mono ?_
          rintro e w6 ⟨rfl, hk6⟩
          have HK6 : Hid (Keep [] w1 w6) := HK5.out.trans hk6
          clear HL' hk6 HK5
          cases want
          · go_wp2_with fail
            go_ret
            exact ⟨rfl, HK6.out⟩
          · go_wp2_with fail
            go_ret
            exact ⟨rfl, HK6.out⟩
    · have hn' : ((vs.length : Int) > 1024) := by omega
      go_enter Try.func4, Try.ntmps4
      go_wp2_with fail
      refine H11.mono ?_
      rintro e w1 ⟨rfl, rfl⟩
      clear H11
      go_wp2_with fail
      go_ret
      exact ⟨rfl, Keep.refl _ _⟩
  · have H11 := bytes11_no id term ticks seed a vs.length cap w hb
    go_enter Try.func4, Try.ntmps4
    go_wp2_with fail
    refine H11.mono ?_
    rintro e w1 ⟨rfl, rfl⟩
    clear H11
    go_wp2_with fail
    go_ret
    exact ⟨rfl, Keep.refl _ _⟩
end Go.Proofs.Qxb6614192a

import Derived.Test.Qxb6614192aBld
import Derived.Test.Qxb6614192aStand
import Derived.Test.Qxb6614192aDist
import Derived.Deep.RegionHeldLaw
import Derived.Deep.DeepCutAuto
namespace Go.Proofs.Qxb6614192a
open Go.RowKit

theorem fresh_live (id term ticks seed : Int) (W : World) (hid : 0 ≤ id ∧ id < 18446744073709551616) (hse : 0 ≤ seed ∧ seed < 18446744073709551616) :
    Live (((W.alloc (.cells #[.int .u64 seed, .int .u64 id] 67)).alloc (.cells #[.iface 48 (.pointer (some ⟨W.heap.size, 0, none⟩))] 65)).alloc (.cells (nodeCells (fresh id term ticks (W.heap.size + 1))) 58)).drew (W.heap.size + 1 + 1) W.heap.size (fresh id term ticks (W.heap.size + 1)) := by
  obtain ⟨i, rfl⟩ := Int.eq_ofNat_of_zero_le hid.1
  obtain ⟨j, rfl⟩ := Int.eq_ofNat_of_zero_le hse.1
  refine ⟨heap_alloc_at _ _ _ (by simp), (Below.heap_alloc _ _ _ (by simp [fresh])).trans (heap_alloc_at _ _ _ (by simp [fresh])), j, i, by omega, by omega, ?_⟩
  exact (Below.heap_alloc _ _ _ (by simp; omega)).trans ((Below.heap_alloc _ _ _ (by simp)).trans (heap_alloc_new W _))

/-- What New comes to. -/
def Started (w w' : World) (b pb : Nat) (vs : List Int) (id : Int) : Prop := ∃ s', Live w' b pb s' ∧ Keep [] w w' ∧ ((vs = [id] ∧ s'.role = 3) ∨ (vs ≠ [id] ∧ s'.role = 0 ∧ s'.leader = 0))

/-- Behind setMembers and follow. -/
def Joined (w wc w2 : World) (b pb : Nat) (vs : List Int) (s' : N) (pp : Option Addr) (pc : Nat) (vp : Option Addr) (vc : Nat) (id : Int) : Prop :=
  Live w2 b pb s' ∧ s'.id = id ∧ s'.peers = .slice pp (vs.filter (· != id)).length pc ∧ s'.voters = .slice vp vs.length vc ∧ s'.voter = vs.contains id ∧ s'.log = .slice none 0 0 ∧ s'.commit = 0 ∧ (2 ≤ s'.ticks ∧ s'.ticks ≤ 65536) ∧ s'.role = 0 ∧ s'.leader = 0 ∧
    (vs.length ≤ 1 → Row w2 wc.heap.size (.slice vp vs.length vc) vs) ∧ Keep [] w w2 ∧ b < wc.heap.size ∧ pb < wc.heap.size ∧ w.heap.size ≤ b ∧ w.heap.size ≤ pb

theorem joined {w wc w1 w2 : World} {b pb : Nat} {vs : List Int} {id term ticks : Int} {rb : Nat} {s' : N} {pp : Option Addr} {pc : Nat} {vp : Option Addr} {vc : Nat} (t1 : 2 ≤ ticks) (t2 : ticks ≤ 65536)
    (hk0 : Keep [] w wc) (hb : b < wc.heap.size) (hp : pb < wc.heap.size) (hb0 : w.heap.size ≤ b) (hp0 : w.heap.size ≤ pb)
    (hrow : vs.length ≤ 1 → Row w1 wc.heap.size (.slice vp vs.length vc) vs) (hk1 : Keep [b] wc w1) (hL : Live w2 b pb s')
    (hF : Followed { fresh id term ticks rb with peers := .slice pp (vs.filter (· != id)).length pc, voters := .slice vp vs.length vc, voter := vs.contains id } s') (hk2 : Keep [b, pb] w1 w2) : Joined w wc w2 b pb vs s' pp pc vp vc id := by
  obtain ⟨tm, vt, tt, d, rfl⟩ := hF
  refine ⟨hL, rfl, rfl, rfl, rfl, rfl, rfl, ⟨t1, t2⟩, rfl, rfl, fun h => (hrow h).keep hk2 (fun g e => ?_), ?_, hb, hp, hb0, hp0⟩
  · have := ((hrow h).lt g e).1
    simp; omega
  · exact (hk0.past hk1 (fun q hq => by simp at hq; omega)).past hk2 (fun q hq => by simp at hq; omega)

theorem lone_eq {vs : List Int} {id : Int} (h1 : vs.contains id = true) (h2 : vs.length = 1) : vs = [id] := by
  match vs, h2 with
  | [x], _ => simp at h1; rw [h1]

theorem Joined.lone {w wc w2 : World} {b pb : Nat} {s' : N} {pp : Option Addr} {pc : Nat} {vp : Option Addr} {vc : Nat} {id : Int} (h : Joined w wc w2 b pb [id] s' pp pc vp vc id) : Lone w2 wc.heap.size b pb s' vp vc pp pc := by
  obtain ⟨h1, h2, h3, h4, _, h5, h6, h7, _, _, h8, _, h9, h10, _, _⟩ := h
  refine ⟨h1, h4, ?_, by simpa using h3, h5, h6, h7.1, h7.2, h9, h10⟩
  rw [h2]
  exact h8 (by simp)

theorem Joined.no {w wc w2 : World} {b pb : Nat} {vs : List Int} {s' : N} {pp : Option Addr} {pc : Nat} {vp : Option Addr} {vc : Nat} {id : Int} (h : Joined w wc w2 b pb vs s' pp pc vp vc id) (hn : vs ≠ [id]) (n : Nat) : Started w (w2.drewN n) b pb vs id := by
  obtain ⟨h1, _, _, _, _, _, _, _, h9, h10, _, h12, _⟩ := h
  exact ⟨s', ⟨h1.node, h1.rand, h1.gen⟩, h12.trans (keep_drew1 _ _), .inr ⟨hn, h9, h10⟩⟩

set_option maxRecDepth 100000 in
set_option maxHeartbeats 2000000 in
theorem new9 (id term ticks seed : Int) (vs : List Int) (p : Option Addr) (c B : Nat) (w : World) (hR : Row w B (.slice p vs.length c) vs) (hn : vs.length ≤ 1024) (t1 : 2 ≤ ticks) (t2 : ticks ≤ 65536) (hid : 0 ≤ id ∧ id < 18446744073709551616) (hse : 0 ≤ seed ∧ seed < 18446744073709551616) :
    Calls Try.prog 9 #[.int .u64 id, .agg #[.slice p vs.length c, .slice none 0 0, .slice none 0 0], .agg #[.int .u64 term, .int .u64 0, .int .u64 0], .agg #[.int .u64 0, .int .u64 0, .nilIface], .slice none 0 0, .int .i64 ticks, .int .u64 seed] w fun e w' =>
      ∃ b pb, e = .returned (.pointer (some ⟨b, 0, none⟩)) ∧ Started w w' b pb vs id := by
  have HID : Hid (0 ≤ id ∧ id < 18446744073709551616) := hid
  have HSE : Hid (0 ≤ seed ∧ seed < 18446744073709551616) := hse
  clear hid hse
  go_enter Try.func9, Try.ntmps9
  go_upto_region 1 with fail
  have hkA : Keep [] w (((w.alloc (Obj.cells #[Value.slice p vs.length c, Value.slice none 0 0, Value.slice none 0 0] 35)).alloc (Obj.cells #[Value.int IntKind.u64 term, Value.int IntKind.u64 0, Value.int IntKind.u64 0] 37)).alloc (Obj.cells #[Value.int IntKind.u64 0, Value.int IntKind.u64 0, Value.nilIface] 41)) := (((Keep.refl _ _).alloc _).alloc _).alloc _
  have hm0 : (((w.alloc (Obj.cells #[Value.slice p vs.length c, Value.slice none 0 0, Value.slice none 0 0] 35)).alloc (Obj.cells #[Value.int IntKind.u64 term, Value.int IntKind.u64 0, Value.int IntKind.u64 0] 37)).alloc (Obj.cells #[Value.int IntKind.u64 0, Value.int IntKind.u64 0, Value.nilIface] 41)).heap[w.heap.size]? = some (.cells #[Value.slice p vs.length c, Value.slice none 0 0, Value.slice none 0 0] 35 (0, 0)) := (Below.heap_alloc _ _ _ (by simp; omega)).trans ((Below.heap_alloc _ _ _ (by simp)).trans (heap_alloc_new w _))
  have hm1 : (((w.alloc (Obj.cells #[Value.slice p vs.length c, Value.slice none 0 0, Value.slice none 0 0] 35)).alloc (Obj.cells #[Value.int IntKind.u64 term, Value.int IntKind.u64 0, Value.int IntKind.u64 0] 37)).alloc (Obj.cells #[Value.int IntKind.u64 0, Value.int IntKind.u64 0, Value.nilIface] 41)).heap[w.heap.size + 1]? = some (.cells #[Value.int IntKind.u64 term, Value.int IntKind.u64 0, Value.int IntKind.u64 0] 37 (0, 0)) := (Below.heap_alloc _ _ _ (by simp)).trans (heap_alloc_at _ _ _ (by simp))
  have hm2 : (((w.alloc (Obj.cells #[Value.slice p vs.length c, Value.slice none 0 0, Value.slice none 0 0] 35)).alloc (Obj.cells #[Value.int IntKind.u64 term, Value.int IntKind.u64 0, Value.int IntKind.u64 0] 37)).alloc (Obj.cells #[Value.int IntKind.u64 0, Value.int IntKind.u64 0, Value.nilIface] 41)).heap[w.heap.size + 1 + 1]? = some (.cells #[Value.int IntKind.u64 0, Value.int IntKind.u64 0, Value.nilIface] 41 (0, 0)) := heap_alloc_at _ _ _ (by simp)
  generalize (((w.alloc (Obj.cells #[Value.slice p vs.length c, Value.slice none 0 0, Value.slice none 0 0] 35)).alloc (Obj.cells #[Value.int IntKind.u64 term, Value.int IntKind.u64 0, Value.int IntKind.u64 0] 37)).alloc (Obj.cells #[Value.int IntKind.u64 0, Value.int IntKind.u64 0, Value.nilIface] 41)) = W0 at hkA hm0 hm1 hm2 ⊢
  have hl2 : w.heap.size + 1 + 1 < W0.heap.size := (Array.getElem?_eq_some_iff.1 hm2).1
  have HSo : Hid (∀ w', Keep [] W0 w' → w'.cell? ⟨w.heap.size + 1, 0, none⟩ = some (.int .u64 term) ∧ w'.cell? ⟨w.heap.size + 1, 1, none⟩ = some (.int .u64 0) ∧ w'.cell? ⟨w.heap.size + 1, 2, none⟩ = some (.int .u64 0) ∧ w'.cell? ⟨w.heap.size + 1 + 1, 0, none⟩ = some (.int .u64 0) ∧ w'.cell? ⟨w.heap.size + 1 + 1, 1, none⟩ = some (.int .u64 0) ∧ w'.cell? ⟨w.heap.size + 1 + 1, 2, none⟩ = some .nilIface) := by
    intro w' hk
    have g1 := (hk.block (w.heap.size + 1) (by omega) (by simp)).trans hm1
    have g2 := (hk.block (w.heap.size + 1 + 1) (by omega) (by simp)).trans hm2
    exact ⟨cell_of_row _ _ 0 _ 37 (0, 0) g1, cell_of_row _ _ 1 _ 37 (0, 0) g1, cell_of_row _ _ 2 _ 37 (0, 0) g1, cell_of_row _ _ 0 _ 41 (0, 0) g2, cell_of_row _ _ 1 _ 41 (0, 0) g2, cell_of_row _ _ 2 _ 41 (0, 0) g2⟩
  obtain ⟨d0, d1, d2, d3, d4, d5⟩ := HSo.out W0 (Keep.refl _ _)
  have HX : Hid (Keep [] w W0 ∧ W0.heap[w.heap.size]? = some (.cells #[Value.slice p vs.length c, Value.slice none 0 0, Value.slice none 0 0] 35 (0, 0)) ∧ W0.heap[w.heap.size + 1]? = some (.cells #[Value.int IntKind.u64 term, Value.int IntKind.u64 0, Value.int IntKind.u64 0] 37 (0, 0)) ∧ Row w B (.slice p vs.length c) vs) := ⟨hkA, hm0, hm1, hR⟩
  clear hkA hm0 hm1 hm2 hR
  go_cut [15] (fun v wc => v = .pointer (some ⟨W0.heap.size + 1 + 1, 0, none⟩) ∧ Live wc (W0.heap.size + 1 + 1) W0.heap.size (fresh id term ticks (W0.heap.size + 1)) ∧ Keep [] W0 wc)
  case first =>
    obtain ⟨f, Z, pl, hp⟩ := plan58
    obtain ⟨e1, e2, e3, ⟨q0, q5, q7, q8, q17, q18, q19, q20, q21, q22, q23, q36⟩, e4, e5, e6⟩ := hp
    have hw0 : IntKind.u64.wrap 0 = 0 := rfl
    go_region_held_law (fun w' => w'.cell? ⟨w.heap.size + 1, 0, none⟩ = some (.int .u64 term) ∧ w'.cell? ⟨w.heap.size + 1, 1, none⟩ = some (.int .u64 0) ∧ w'.cell? ⟨w.heap.size + 1, 2, none⟩ = some (.int .u64 0) ∧ w'.cell? ⟨w.heap.size + 1 + 1, 0, none⟩ = some (.int .u64 0) ∧ w'.cell? ⟨w.heap.size + 1 + 1, 1, none⟩ = some (.int .u64 0) ∧ w'.cell? ⟨w.heap.size + 1 + 1, 2, none⟩ = some .nilIface)
      (exact HSo.out _ (by repeat first | exact Keep.refl _ _ | apply Keep.drew | apply Keep.alloc))
      ((first | (go_at_call 15; refine (pcg15 _ _ _).mono ?_; rintro e w' ⟨rfl, rfl⟩) | (go_at_call 14; refine (rand14 _ _).mono ?_; rintro e w' ⟨rfl, rfl⟩)))
    all_goals
      go_wp2
      go_meet
      case rel => exact ⟨rfl, fresh_live id term ticks seed W0 HID.out HSE.out, ((((Keep.refl _ _).alloc _).alloc _).alloc _).drew⟩
  case rest =>
    obtain ⟨rfl, hL, hK⟩ := hcut
    obtain ⟨hkA, hm0, hm1, hR⟩ := HX.out
    have g0 := (hK.block w.heap.size (by omega) (by simp)).trans hm0
    have g1 := (hK.block (w.heap.size + 1) (by omega) (by simp)).trans hm1
    have hblt := hL.node.lt
    have hplt : W0.heap.size < wc.heap.size := by omega
    have hB0 : w.heap.size ≤ W0.heap.size + 1 + 1 := by omega
    have hP0 : w.heap.size ≤ W0.heap.size := by omega
    have hbn : w.heap.size + 1 ≠ W0.heap.size + 1 + 1 := by omega
    have hne : (Value.slice p vs.length c).ownBlock ≠ some (W0.heap.size + 1 + 1) := fun e => by have := (hR.lt _ e).2; omega
    have hC : Hid (Calls Try.prog 16 #[.pointer (some ⟨W0.heap.size + 1 + 1, 0, none⟩), .agg #[.slice p vs.length c, .slice none 0 0, .slice none 0 0]] wc fun e w' => e = .returned (.tuple #[]) ∧ Members wc w' (W0.heap.size + 1 + 1) W0.heap.size (fresh id term ticks (W0.heap.size + 1)) vs) := setMembers16 _ _ B _ vs p c wc hL ((hR.keep hkA (by simp)).keep hK (by simp)) hne hn
    have hk0 : Hid (Keep [] w wc) := hkA.trans hK
    have a0 : wc.cell? ⟨w.heap.size, 0, none⟩ = some (.slice p vs.length c) := cell_of_row _ _ 0 _ 35 (0, 0) g0
    have a1 : wc.cell? ⟨w.heap.size, 1, none⟩ = some (.slice none 0 0) := cell_of_row _ _ 1 _ 35 (0, 0) g0
    have a2 : wc.cell? ⟨w.heap.size, 2, none⟩ = some (.slice none 0 0) := cell_of_row _ _ 2 _ 35 (0, 0) g0
    have G1 : Hid (w.heap.size + 1 < wc.heap.size ∧ wc.heap[w.heap.size + 1]? = some (.cells #[Value.int IntKind.u64 term, Value.int IntKind.u64 0, Value.int IntKind.u64 0] 37 (0, 0))) := ⟨by omega, g1⟩
    clear hL hK hkA hm0 hm1 hR g0 g1 HX HSo d0 d1 d2 d3 d4 d5 hne hl2
    generalize W0.heap.size + 1 + 1 = b at *
    generalize W0.heap.size + 1 = rb at *
    generalize W0.heap.size = pb at *
    go_wp2_with fail
    refine hC.out.mono ?_
    rintro e w1 ⟨rfl, pp, pc, vp, vc, hL1, hrow, hk1⟩
    have c0 : w1.cell? ⟨w.heap.size + 1, 0, none⟩ = some (.int .u64 term) := cell_of_row _ _ 0 _ 37 (0, 0) ((hk1.block _ G1.out.1 (by simpa using hbn)).trans G1.out.2)
    have hF : Hid (∀ t, Calls Try.prog 17 #[.pointer (some ⟨b, 0, none⟩), .int .u64 t, .int .u64 0] w1 fun e w' => e = .returned (.tuple #[]) ∧ (∃ s', Live w' b pb s' ∧ Followed _ s') ∧ Keep [b, pb] w1 w') := fun t => follow17 b pb _ t w1 hL1 t1 t2
    have HM : Hid ((vs.length ≤ 1 → Row w1 wc.heap.size (.slice vp vs.length vc) vs) ∧ Keep [b] wc w1) := ⟨hrow, hk1⟩
    clear hL1 hrow hk1 hC a0 a1 a2 G1
    go_wp2_with fail
    all_goals
      refine (hF.out _).mono ?_
      rintro e w2 ⟨rfl, ⟨s', hL2, hFo⟩, hk2⟩
      have hJ := joined t1 t2 hk0.out hblt hplt hB0 hP0 HM.out.1 HM.out.2 hL2 hFo hk2
      have b3 : w2.cell? ⟨b, 3, none⟩ = some (.bool (vs.contains id)) := by rw [← hJ.2.2.2.2.1]; exact hL2.node.cell 3
      have b2 : w2.cell? ⟨b, 2, none⟩ = some (.slice vp vs.length vc) := by rw [← hJ.2.2.2.1]; exact hL2.node.cell 2
      have HJ : Hid (Joined w wc w2 b pb vs s' pp pc vp vc id) := hJ
      clear hL2 hFo hk2 hJ hF HM c0 hn t1 t2
      cases hct : vs.contains id with
      | false =>
        rw [hct] at b3
        have hno : Hid (vs ≠ [id]) := fun e => by rw [e] at hct; simp at hct
        clear hct
        go_wp2_with fail
        go_ret
        exact ⟨b, pb, rfl, HJ.out.no hno.out 0⟩
      | true =>
        rw [hct] at b3
        by_cases hl : vs.length = 1
        · obtain rfl := lone_eq hct hl
          have b2' : w2.cell? ⟨b, 2, none⟩ = some (.slice vp 1 vc) := by simpa using b2
          have hS : Hid (Calls Try.prog 18 #[.pointer (some ⟨b, 0, none⟩)] w2 fun e w' => e = .returned (.tuple #[]) ∧ Led2 b pb w2 w') := stand18 _ b pb s' vp vc pp pc w2 HJ.out.lone
          clear hct hl b2
          go_wp2_with fail
          refine hS.out.mono ?_
          rintro e w3 ⟨rfl, s3, hL3, hr3, hk3⟩
          have hst : Hid (Started w w3 b pb [id] id) := by
            obtain ⟨_, _, _, _, _, _, _, _, _, _, _, h12, _, _, h15, h16⟩ := HJ.out
            exact ⟨s3, hL3, h12.past hk3 (fun q hq => by simp at hq; omega), .inl ⟨rfl, hr3⟩⟩
          clear hL3 hr3 hk3 b2' b3 hS HJ
          go_wp2_with fail
          go_ret
          exact ⟨b, pb, rfl, hst.out⟩
        · have hno : Hid (vs ≠ [id]) := fun e => hl (by rw [e]; rfl)
          have hl' : ((vs.length : Int) == 1) = false := by simp; omega
          clear hct hl
          go_wp2_with fail
          go_ret
          exact ⟨b, pb, rfl, HJ.out.no hno.out 0⟩
end Go.Proofs.Qxb6614192a

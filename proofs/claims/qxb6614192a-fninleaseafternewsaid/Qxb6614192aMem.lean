import Derived.Test.Qxb6614192aRow2
import Derived.Deep.RegionLaw
import Derived.Deep.DeepCutAuto
import Derived.Deep.AppendLies
import Derived.StillTail
import Derived.WalkKit
namespace Go.Proofs.Qxb6614192a
open Go.RowKit

/-- What setMembers leaves. -/
def Members (w w' : World) (b pb : Nat) (s : N) (vs : List Int) : Prop :=
  ∃ pp pc vp vc, Live w' b pb { s with peers := .slice pp (vs.filter (· != s.id)).length pc, voters := .slice vp vs.length vc, voter := vs.contains s.id } ∧ (vs.length ≤ 1 → Row w' w.heap.size (.slice vp vs.length vc) vs) ∧ Keep [b] w w'
theorem Keep.past {T S : List Nat} {a w w' : World} (h : Keep T a w) (k : Keep S w w') (hS : ∀ q, q ∈ S → a.heap.size ≤ q) : Keep T a w' :=
  ⟨k.os.trans h.os, k.tape.trans h.tape, k.output.trans h.output, Nat.le_trans h.size k.size, fun i hi hn => (k.block i (Nat.lt_of_lt_of_le hi h.size) (fun hm => by have := hS i hm; omega)).trans (h.block i hi hn)⟩
theorem Row.mono {w : World} {B B' : Nat} {v : Value} {l : List Int} (h : Row w B v l) (hb : B' ≤ B) : Row w B' v l := by
  refine ⟨h.1, ?_⟩
  rcases h.2 with h2 | ⟨g, cap, cur, h1, h2, h3⟩
  · exact .inl h2
  · exact .inr ⟨g, cap, cur, h1, by omega, h3⟩

set_option maxRecDepth 100000 in
set_option maxHeartbeats 8000000 in
theorem setMembers16 (b pb B : Nat) (s : N) (vs : List Int) (p : Option Addr) (c : Nat) (w : World) (hs : Live w b pb s) (hV : Row w B (.slice p vs.length c) vs) (hne : (Value.slice p vs.length c).ownBlock ≠ some b) (hn : vs.length ≤ 1024) :
    Calls Try.prog 16 #[.pointer (some ⟨b, 0, none⟩), .agg #[.slice p vs.length c, .slice none 0 0, .slice none 0 0]] w fun e w' => e = .returned (.tuple #[]) ∧ Members w w' b pb s vs := by
  have hb := hs.node.lt
  have c1 : w.cell? ⟨b, 1, none⟩ = some s.peers := hs.node.cell 1
  have c2 : w.cell? ⟨b, 2, none⟩ = some s.voters := hs.node.cell 2
  have c3 : w.cell? ⟨b, 3, none⟩ = some (.bool s.voter) := hs.node.cell 3
  have hf : ∀ j, w.frozen? ⟨b, j, none⟩ = false := hs.node.frozen
  have HS : Hid (Live w b pb s) := hs
  have HV : Hid (Row w B (.slice p vs.length c) vs ∧ (Value.slice p vs.length c).ownBlock ≠ some b) := ⟨hV, hne⟩
  clear hs hV hne
  go_enter Try.func16, Try.ntmps16
  go_upto_region 1 with fail
  go_cut [] (fun wc => Live wc b pb { s with peers := .slice none 0 0, voters := .slice none 0 0, voter := false } ∧ Boxed w.heap.size wc b p vs.length c ∧ Keep [b] w wc)
  case first =>
    go_region
    all_goals
      go_wp2
      go_meet
      case rel =>
        refine ⟨?_, ⟨?_, ?_⟩, ?_⟩
        · exact (((((HS.out.put 1 (.slice none 0 0) (t := { s with peers := .slice none 0 0 }) rfl rfl).put 2 (.slice none 0 0) (t := { s with peers := .slice none 0 0, voters := .slice none 0 0 }) rfl rfl).put 3 (.bool false) (t := { s with peers := .slice none 0 0, voters := .slice none 0 0, voter := false }) rfl rfl).alloc _).alloc _).drew
        · exact (Below.heap_alloc _ _ _ (by simp)).trans (heap_alloc_at _ _ _ (by simp))
        · exact heap_alloc_at _ _ _ (by simp)
        · exact ((((((Keep.refl _ _).setCell _ (by simp) _).setCell _ (by simp) _).setCell _ (by simp) _).alloc _).alloc _).drew
  case rest =>
    obtain ⟨wa, rfl⟩ : ∃ wa, wa = wc := ⟨wc, rfl⟩
    obtain ⟨hL, hB, hK⟩ := hcut
    obtain ⟨i, hi, hz, hsz, hby, _⟩ := info22
    have HI : Hid (Try.prog.info? 22 = some i ∧ i.zero = some (.int .u64 0) ∧ i.size = 1 ∧ i.bytes = 8) := ⟨hi, hz, hsz, hby⟩
    clear hi hz hsz hby c1 c2 c3 hf
    obtain ⟨d0, d1, d2, d3⟩ := hB.cells
    have hsize := hB.lt
    have HX : Hid (Live wa b pb { s with peers := .slice none 0 0, voters := .slice none 0 0, voter := false } ∧ Boxed w.heap.size wa b p vs.length c ∧ Keep [b] w wa) := ⟨hL, hB, hK⟩
    have HV1 : Hid (Row wa B (.slice p vs.length c) vs) := HV.out.1.keep hK (fun g e => by have := HV.out.2; rw [e] at this; simpa using this)
    clear hL hB hK
    go_upto_region 2 with fail
    go_cut [22, 23, 24] (fun v n j wd => ∃ p2 c2, v = .slice p2 vs.length c2 ∧ n = .int .i64 vs.length ∧ j = .int .i64 0 ∧ Row wd wa.heap.size v vs ∧ Keep [] wa wd)
    case first =>
      by_cases h0 : vs.length = 0
      · have hE : Hid (vs.length = 0) := h0
        clear h0
        go_region_law ((first | refine step_append_zero rfl (.const (.slice none 0 0)) (.tmp 18) 23 rfl 22 i Try.underlying23 HI.out.1 none 0 0 (by simp [Act.eval]) (Nat.le_refl _) p c (by simp [Act.eval, hE.out]) ?_ | refine step_append_zero rfl (.tmp 19) (.tmp 21) 23 rfl 22 i Try.underlying23 HI.out.1 none 0 0 (by simp [Act.eval]) (Nat.le_refl _) none 0 (by simp [Act.eval]) ?_))
        all_goals
          go_wp2
          go_meet
          case rel =>
            refine ⟨none, 0, by rw [hE.out], by rw [hE.out]; rfl, rfl, ?_, keep_drewN _ 1⟩
            obtain rfl : vs = [] := List.eq_nil_of_length_eq_zero hE.out
            exact Row.nil _ _
      · obtain ⟨g, rfl, hg, hgl, hnews⟩ := HV1.out.news (by omega)
        have HN : Hid (∀ j u, (us vs)[j]? = some u → wa.drew.cell? ((⟨g, 0, none⟩ : Addr).add j) = some u) := hnews
        clear hnews
        go_region_law ((first | (refine step_append_lies _ rfl (.const (.slice none 0 0)) (.tmp 18) 23 rfl wa.heap.size 22 i _ 1 8 Try.underlying23 HI.out.1 HI.out.2.1 HI.out.2.2.1 HI.out.2.2.2 rfl (by decide) (.slice none 0 0) 0 [] (by simp [Act.eval]) (World.ownsRow_nil _ _ _ _) ⟨g, 0, none⟩ vs.length c (us vs) (by simp [Act.eval]) (by simp [us_length]) HN.out (us_one _) (by omega) (by simp [maxLen]; omega) (by omega) (by simp) wa.heap.size (by simp) ?_; intro g2 cap2 w1 hown hgrow hat hlt2; have k2 : w1.cell? ⟨w.heap.size + 1, 1, none⟩ = some (.slice none 0 0) := (hgrow.cell_far ⟨w.heap.size + 1, 1, none⟩ (by simp; omega) (by simp [Value.ownBlock])).trans d2; have hc2 : 0 + vs.length ≤ cap2 := own_le hown) | (refine step_append_zero rfl (.tmp 19) (.tmp 21) 23 rfl 22 i Try.underlying23 HI.out.1 (some ⟨g2, 0, none⟩) (0 + vs.length) cap2 (by simp [Act.eval]) hc2 none 0 (by simp [Act.eval]) ?_)))
        all_goals
          go_wp2
          go_meet
          case rel =>
            refine ⟨_, _, rfl, rfl, rfl, ?_, ?_⟩
            · have hown' := hown
              simp only [Nat.zero_add, List.nil_append] at hown'
              exact hown'
            · exact ((Keep.refl [] wa).drew).grown hgrow (by intro g e; simp [Value.ownBlock] at e)
    case rest =>
      obtain ⟨p2, c2, rfl, rfl, rfl, hR, hK⟩ := hcut
      have HY : Hid (Live wc b pb { s with peers := .slice none 0 0, voters := .slice none 0 0, voter := false } ∧ Boxed w.heap.size wc b p vs.length c ∧ Keep [b] w wc ∧ Row wc wa.heap.size (.slice p2 vs.length c2) vs ∧ Row wc B (.slice p vs.length c) vs) := by
        obtain ⟨h1, h2, h3⟩ := HX.out
        exact ⟨h1.keep hK (by simp) (by simp) (by simp), h2.keep hK (by simp) (by simp), h3.trans (hK.mono (by simp)), hR, HV1.out.keep hK (by simp)⟩
      clear hR hK HX d0 d1 d2 d3 HV1
      obtain ⟨wb, rfl⟩ : ∃ wb, wb = wc := ⟨wc, rfl⟩
      have HW : Hid (∀ wr, Keep [b] wb wr → Boxed w.heap.size wr b p vs.length c ∧ Row wr wa.heap.size (.slice p2 vs.length c2) vs ∧ Row wr B (.slice p vs.length c) vs) := by
        obtain ⟨h1, h2, h3, h4, h5⟩ := HY.out
        have hwa : b < wa.heap.size := by omega
        intro wr hk
        refine ⟨h2.keep hk (by simp; omega) (by simp; omega), h4.keep hk (fun g e => ?_), h5.keep hk (fun g e => ?_)⟩
        · have := (h4.lt g e).1; simp; omega
        · have := HV.out.2; rw [e] at this; simpa using this
      have HL0 : Hid (Mid wb b pb wb { s with peers := .slice none 0 0, voters := .slice none 0 0, voter := false } (.slice none 0 0) []) := by
        obtain ⟨h1, h2, h3, h4, h5⟩ := HY.out
        obtain ⟨H, L, _, _, hp⟩ := h1.gen
        exact ⟨h1, Keep.refl _ _, Row.nil _ _, h1.node.lt, h1.rand.lt, hp.lt⟩
      have hszc : w.heap.size + 1 < wb.heap.size := HY.out.2.1.lt
      have HK0 : Hid (Keep [b] w wb) := HY.out.2.2.1
      clear HY
      go_wp2_with fail
      go_loopw [24] (fun i wr => ∃ k : Nat, k ≤ vs.length ∧ i = .int .i64 k ∧ ∃ pv, Mid wb b pb wr { s with peers := pv, voters := .slice none 0 0, voter := false } pv ((vs.take k).filter (· != s.id))) (fun i _ => vs.length - (intOf i).toNat)
      case atStart => exact ⟨0, Nat.zero_le _, rfl, _, by simpa using HL0.out⟩
      case round =>
        obtain ⟨k, hk, rfl, pv, hM⟩ := hrel
        have hB := (HW.out wr hM.keep).1
        obtain ⟨e0, e1, e2, e3⟩ := hB.cells
        by_cases hlt : k < vs.length
        · obtain ⟨g, rfl, hg, _, hx⟩ := (HW.out wr hM.keep).2.1.cell k hlt
          have hid : wr.cell? ⟨b, 0, none⟩ = some (.int .u64 s.id) := hM.live.node.cell 0
          have hpv : wr.cell? ⟨b, 1, none⟩ = some pv := hM.live.node.cell 1
          have hfr : ∀ j, wr.frozen? ⟨b, j, none⟩ = false := hM.live.node.frozen
          have hbr := hM.live.node.lt
          have HM : Hid (Mid wb b pb wr { s with peers := pv, voters := .slice none 0 0, voter := false } pv ((vs.take k).filter (· != s.id))) := hM
          have hlt' : (k : Int) < vs.length := by omega
          have hnx : Hid ((vs.take (k + 1)).filter (· != s.id) = (vs.take k).filter (· != s.id) ++ (if vs.getD k 0 = s.id then [] else [vs.getD k 0])) := take_filter vs k s.id hlt
          have hPl : ((vs.take k).filter (· != s.id)).length ≤ 1024 := by
            have h1 := List.length_filter_le (· != s.id) (vs.take k)
            simp only [List.length_take] at h1; omega
          clear hM hB
          generalize (vs.take k).filter (· != s.id) = P at *
          generalize vs.getD k 0 = x at *
          by_cases he : x = s.id
          · have he' : (x != s.id) = false := by simp [he]
            have he2 : ¬ x ≠ s.id := by simp [he]
            have hnx' : Hid ((vs.take (k + 1)).filter (· != s.id) = P) := by rw [hnx.out, if_pos he, List.append_nil]; rfl
            clear hnx he
            go_wp2_with fail
            refine ⟨⟨k + 1, by omega, by go_num, pv, ?_⟩, by simp [intOf]; omega⟩
            rw [hnx'.out]; exact HM.out
          · have he' : (x != s.id) = true := by simp [he]
            have hnx' : Hid ((vs.take (k + 1)).filter (· != s.id) = P ++ [x]) := by rw [hnx.out, if_neg he]; rfl
            clear hnx
            obtain ⟨p3, c3, rfl, hc3, hm3⟩ := HM.out.row.slice
            have hown1 : Hid ((wr.alloc (.cells #[.int .u64 x] 22)).drew.ownsRow wb.heap.size 22 1 (.slice p3 P.length c3) P.length (us P)) := World.ownsRow.alloc HM.out.row _
            have hnews : Hid (∀ j u, (us [x])[j]? = some u → (wr.alloc (.cells #[.int .u64 x] 22)).drew.cell? ((⟨wr.heap.size, 0, none⟩ : Addr).add j) = some u) := World.news_of_block (cs := #[.int .u64 x]) (heap_alloc_new wr _)
            have hfar : Hid ((Value.slice p3 P.length c3).ownBlock ≠ some b ∧ (Value.slice p3 P.length c3).ownBlock ≠ some w.heap.size) := ⟨fun e => by have := (HM.out.row.lt b e).1; have := HM.out.hb; omega, fun e => by have := (HM.out.row.lt _ e).1; omega⟩
            have hwr : wb.heap.size ≤ wr.heap.size := HM.out.keep.size
            have hwl : w.heap.size < wr.heap.size := by omega
            have hwn : ¬ w.heap.size = wr.heap.size := by omega
            go_upto_region 6 with fail
            have hk1 : k + 1 ≤ vs.length := by omega
            have hms : vs.length - (intOf (.int .i64 ((k : Int) + 1))).toNat < vs.length - (intOf (.int .i64 (k : Int))).toNat := by simp [intOf]; omega
            clear e1 e2 e3 hx hid hg he hlt hlt' hc3 hm3
            go_region_law ((refine step_append_lies _ rfl _ _ 23 rfl wb.heap.size 22 i _ 1 8 Try.underlying23 HI.out.1 HI.out.2.1 HI.out.2.2.1 HI.out.2.2.2 rfl (by decide) (.slice p3 P.length c3) P.length (us P) (by simp [Act.eval]) hown1.out ⟨wr.heap.size, 0, none⟩ 1 1 (us [x]) (by simp [Act.eval]) rfl hnews.out (us_one _) (by decide) (by simp [maxLen]; omega) (by omega) (by simp; omega) (wr.heap.size + 1) (by simp) ?_; intro g2 cap2 w1 hown hgrow hat hlt2; have k0 : w1.cell? ⟨w.heap.size, 0, none⟩ = some (.pointer (some ⟨b, 0, none⟩)) := (hgrow.cell_far ⟨w.heap.size, 0, none⟩ (by simp; omega) (fun e => hfar.out.2 e.symm)).trans ((World.cell?_of_block (w := wr) (Below.heap_alloc _ _ _ (by omega))).trans e0); have k1 : w1.cell? ⟨b, 1, none⟩ = some (.slice p3 P.length c3) := (hgrow.cell_far ⟨b, 1, none⟩ (by simp; omega) (fun e => hfar.out.1 e.symm)).trans ((World.cell?_of_block (w := wr) (Below.heap_alloc _ _ _ hbr)).trans hpv); have k2 : w1.frozen? ⟨b, 1, none⟩ = false := (hgrow.frozen_far ⟨b, 1, none⟩ (by simp; omega) (fun e => hfar.out.1 e.symm)).trans ((World.frozen?_of_block (w := wr) (Below.heap_alloc _ _ _ hbr)).trans (hfr 1))))
            all_goals
              have hM2 := HM.out.appended (t' := { s with peers := .slice (some ⟨g2, 0, none⟩) (P.length + 1) cap2, voters := .slice none 0 0, voter := false }) hown hgrow 1 rfl rfl
              clear hown hgrow hat hlt2 k0 k1 k2 hfr hpv e0 hown1 hnews hfar HM HI
              generalize w1.setCell _ _ = W6 at hM2 ⊢
              have HM2 : Hid (Mid wb b pb W6 { s with peers := .slice (some ⟨g2, 0, none⟩) (P.length + 1) cap2, voters := .slice none 0 0, voter := false } (.slice (some ⟨g2, 0, none⟩) (P.length + 1) cap2) (P ++ [x])) := hM2
              clear hM2
              go_wp2
              refine ⟨⟨k + 1, hk1, by go_num, .slice (some ⟨g2, 0, none⟩) (P.length + 1) cap2, ?_⟩, by simp [intOf]; omega⟩
              rw [hnx'.out]; exact HM2.out
        · obtain rfl : k = vs.length := by omega
          rw [List.take_length] at hM
          have hnlt : ¬ ((vs.length : Int) < vs.length) := by omega
          obtain ⟨wl, rfl⟩ : ∃ wl, wl = wr := ⟨wr, rfl⟩
          have HZ : Hid (∀ wx, Keep [b] wl wx → Boxed w.heap.size wx b p vs.length c ∧ Row wx wb.heap.size pv (vs.filter (· != s.id)) ∧ Row wx B (.slice p vs.length c) vs) := by
            intro wx hk
            have hk2 := hM.keep.trans hk
            obtain ⟨g1, _, g3⟩ := HW.out wx hk2
            exact ⟨g1, hM.row.keep hk (fun g e => by have := (hM.row.lt g e).1; have := hM.hb; simp; omega), g3⟩
          have HL2 : Hid (Mid wl b pb wl { s with peers := pv, voters := .slice none 0 0, voter := false } (.slice none 0 0) []) := by
            have h1 := hM.live
            obtain ⟨H, L, _, _, hp⟩ := h1.gen
            exact ⟨h1, Keep.refl _ _, Row.nil _ _, h1.node.lt, h1.rand.lt, hp.lt⟩
          have hszl : w.heap.size + 1 < wl.heap.size := hB.lt
          have hwbl : wb.heap.size ≤ wl.heap.size := hM.keep.size
          have HK1 : Hid (Keep [b] w wl) := HK0.out.trans hM.keep
          have HB : Hid (b < wb.heap.size ∧ s.rb < wb.heap.size ∧ pb < wb.heap.size) := ⟨hM.hb, hM.hr, hM.hp⟩
          clear hM hB HL0 HW HK0
          go_wp2_with fail
          go_loopw [48] (fun i wr => ∃ k : Nat, k ≤ vs.length ∧ i = .int .i64 k ∧ ∃ vv, Mid wl b pb wr { s with peers := pv, voters := vv, voter := (vs.take k).contains s.id } vv (vs.take k)) (fun i _ => vs.length - (intOf i).toNat)
          case atStart => exact ⟨0, Nat.zero_le _, rfl, _, HL2.out⟩
          case round =>
            obtain ⟨k, hk, rfl, vv, hM⟩ := hrel
            have hB := (HZ.out wr hM.keep).1
            clear e0 e1 e2 e3
            obtain ⟨e0, e1, e2, e3⟩ := hB.cells
            by_cases hlt : k < vs.length
            · obtain ⟨g, rfl, hg, _, hx⟩ := (HZ.out wr hM.keep).2.2.cell k hlt
              have hid : wr.cell? ⟨b, 0, none⟩ = some (.int .u64 s.id) := hM.live.node.cell 0
              have hpv : wr.cell? ⟨b, 2, none⟩ = some vv := hM.live.node.cell 2
              have hfr : ∀ j, wr.frozen? ⟨b, j, none⟩ = false := hM.live.node.frozen
              have hbr := hM.live.node.lt
              have hlt' : (k : Int) < vs.length := by omega
              have hnx : Hid (vs.take (k + 1) = vs.take k ++ [vs.getD k 0]) := take_snoc vs k hlt
              have hny : Hid ((vs.take (k + 1)).contains s.id = ((vs.take k).contains s.id || decide (vs.getD k 0 = s.id))) := take_contains vs k s.id hlt
              have HM : Hid (Mid wl b pb wr { s with peers := pv, voters := vv, voter := (vs.take k).contains s.id } vv (vs.take k)) := hM
              have hPl : (vs.take k).length ≤ 1024 := by simp only [List.length_take]; omega
              clear hM hB
              generalize (vs.take k).contains s.id = vt at *
              generalize vs.take k = P at *
              generalize vs.getD k 0 = x at *
              have hk1 : k + 1 ≤ vs.length := by omega
              have HK1 : Hid (k + 1 ≤ vs.length) := hk1
              obtain ⟨p3, c3, rfl, hc3, hm3⟩ := HM.out.row.slice
              have hown1 : Hid ((wr.alloc (.cells #[.int .u64 x] 22)).drew.ownsRow wl.heap.size 22 1 (.slice p3 P.length c3) P.length (us P)) := World.ownsRow.alloc HM.out.row _
              have hnews : Hid (∀ j u, (us [x])[j]? = some u → (wr.alloc (.cells #[.int .u64 x] 22)).drew.cell? ((⟨wr.heap.size, 0, none⟩ : Addr).add j) = some u) := World.news_of_block (cs := #[.int .u64 x]) (heap_alloc_new wr _)
              have hfar : Hid ((Value.slice p3 P.length c3).ownBlock ≠ some b ∧ (Value.slice p3 P.length c3).ownBlock ≠ some w.heap.size) := ⟨fun e => by have := (HM.out.row.lt b e).1; have := HM.out.hb; omega, fun e => by have := (HM.out.row.lt _ e).1; omega⟩
              have hwr : wl.heap.size ≤ wr.heap.size := HM.out.keep.size
              have hwl : w.heap.size < wr.heap.size := by omega
              have hwn : ¬ w.heap.size = wr.heap.size := by omega
              go_upto_region 11 with fail
              clear e1 e2 e3 hx hid hg hlt hlt' hc3 hm3
              go_cut [] (fun wc => ∃ v', Mid wl b pb wc { s with peers := pv, voters := v', voter := vt } v' (P ++ [x]))
              case first =>
                go_region_law ((refine step_append_lies _ rfl _ _ 23 rfl wl.heap.size 22 i _ 1 8 Try.underlying23 HI.out.1 HI.out.2.1 HI.out.2.2.1 HI.out.2.2.2 rfl (by decide) (.slice p3 P.length c3) P.length (us P) (by simp [Act.eval]) hown1.out ⟨wr.heap.size, 0, none⟩ 1 1 (us [x]) (by simp [Act.eval]) rfl hnews.out (us_one _) (by decide) (by simp [maxLen]; omega) (by omega) (by simp; omega) (wr.heap.size + 1) (by simp) ?_; intro g2 cap2 w1 hown hgrow hat hlt2; have k0 : w1.cell? ⟨w.heap.size, 0, none⟩ = some (.pointer (some ⟨b, 0, none⟩)) := (hgrow.cell_far ⟨w.heap.size, 0, none⟩ (by simp; omega) (fun e => hfar.out.2 e.symm)).trans ((World.cell?_of_block (w := wr) (Below.heap_alloc _ _ _ (by omega))).trans e0); have k1 : w1.cell? ⟨b, 2, none⟩ = some (.slice p3 P.length c3) := (hgrow.cell_far ⟨b, 2, none⟩ (by simp; omega) (fun e => hfar.out.1 e.symm)).trans ((World.cell?_of_block (w := wr) (Below.heap_alloc _ _ _ hbr)).trans hpv); have k2 : w1.frozen? ⟨b, 2, none⟩ = false := (hgrow.frozen_far ⟨b, 2, none⟩ (by simp; omega) (fun e => hfar.out.1 e.symm)).trans ((World.frozen?_of_block (w := wr) (Below.heap_alloc _ _ _ hbr)).trans (hfr 2))))
                all_goals
                  have hM2 := HM.out.appended (t' := { s with peers := pv, voters := .slice (some ⟨g2, 0, none⟩) (P.length + 1) cap2, voter := vt }) hown hgrow 2 rfl rfl
                  clear hown hgrow hat hlt2 k0 k1 k2 hfr hpv e0 hown1 hnews hfar HM HI
                  generalize w1.setCell _ _ = W6 at hM2 ⊢
                  have HM2 : Hid (Mid wl b pb W6 { s with peers := pv, voters := .slice (some ⟨g2, 0, none⟩) (P.length + 1) cap2, voter := vt } (.slice (some ⟨g2, 0, none⟩) (P.length + 1) cap2) (P ++ [x])) := hM2
                  clear hM2
                  go_wp2
                  go_meet
                  case rel => exact ⟨_, HM2.out⟩
              case rest =>
                obtain ⟨v', hM2⟩ := hcut
                clear e0 hpv hfr hbr hown1 hnews hfar hwr hwl hwn HM
                have e0 : wc.cell? ⟨w.heap.size, 0, none⟩ = some (.pointer (some ⟨b, 0, none⟩)) := (HZ.out wc hM2.keep).1.cells.1
                have hid : wc.cell? ⟨b, 0, none⟩ = some (.int .u64 s.id) := hM2.live.node.cell 0
                have hvt : wc.cell? ⟨b, 3, none⟩ = some (.bool vt) := hM2.live.node.cell 3
                have hfr : ∀ j, wc.frozen? ⟨b, j, none⟩ = false := hM2.live.node.frozen
                have HM2 : Hid (Mid wl b pb wc { s with peers := pv, voters := v', voter := vt } v' (P ++ [x])) := hM2
                clear hM2
                cases vt with
                | true =>
                  go_upto_region 12 with fail
                  go_region
                  go_wp2
                  refine ⟨⟨k + 1, hk1, by go_num, v', ?_⟩, by simp [intOf]; omega⟩
                  rw [hny.out, hnx.out]
                  exact (HM2.out.put 3 (.bool true) rfl rfl).drew
                | false =>
                  by_cases hxe : x = s.id
                  · have hny' : Hid ((vs.take (k + 1)).contains s.id = true) := (show _ = true by rw [hny.out]; simp [hxe])
                    subst hxe
                    go_upto_region 12 with fail
                    go_region
                    go_wp2
                    refine ⟨⟨k + 1, hk1, by go_num, v', ?_⟩, by simp [intOf]; omega⟩
                    rw [hny'.out, hnx.out]
                    exact (HM2.out.put (t' := { s with peers := pv, voters := v', voter := true }) 3 (.bool true) rfl rfl).drew
                  · have hny' : Hid ((vs.take (k + 1)).contains s.id = false) := (show _ = false by rw [hny.out]; simp [hxe])
                    have hxe' : (x == s.id) = false := by simp [hxe]
                    go_upto_region 12 with fail
                    go_region
                    go_wp2
                    refine ⟨⟨k + 1, hk1, by go_num, v', ?_⟩, by simp [intOf]; omega⟩
                    rw [hny'.out, hnx.out]
                    exact (HM2.out.put 3 (.bool false) rfl rfl).drew
            · obtain rfl : k = vs.length := by omega
              rw [List.take_length] at hM
              obtain ⟨pp, pc, rfl, _, _⟩ := (HZ.out wr hM.keep).2.1.slice
              obtain ⟨vp, vc, rfl, _, _⟩ := hM.row.slice
              have hpv : wr.cell? ⟨b, 1, none⟩ = some (.slice pp (vs.filter (· != s.id)).length pc) := hM.live.node.cell 1
              have hfl : (vs.filter (· != s.id)).length ≤ 1024 := by
                have h1 := List.length_filter_le (· != s.id) vs
                omega
              have HM : Hid (Mid wl b pb wr { s with peers := .slice pp (vs.filter (· != s.id)).length pc, voters := .slice vp vs.length vc, voter := vs.contains s.id } (.slice vp vs.length vc) vs) := hM
              have HP : Hid (Row wr wb.heap.size (.slice pp (vs.filter (· != s.id)).length pc) (vs.filter (· != s.id)) ∧ Row wl wb.heap.size (.slice pp (vs.filter (· != s.id)).length pc) (vs.filter (· != s.id)) ∧ Boxed w.heap.size wr b p vs.length c) := ⟨(HZ.out wr hM.keep).2.1, (HZ.out wl (Keep.refl _ _)).2.1, hB⟩
              have HC : Hid (Calls Try.prog 20 #[.iface 23 (.slice pp (vs.filter (· != s.id)).length pc), .func (.func 21) #[] #[.pointer (some ⟨w.heap.size, 0, none⟩)]] wr fun e w' =>
                  e = .returned (.tuple #[]) ∧ (∃ S, Keep S wr w' ∧ ∀ q, q ∈ S → wb.heap.size ≤ q ∧ (Value.slice pp (vs.filter (· != s.id)).length pc).ownBlock = some q) ∧ ((vs.filter (· != s.id)).length ≤ 1 → Keep [] wr w')) :=
                sort_any 21 1 (.inl ⟨rfl, rfl⟩) w.heap.size b wb.heap.size pp pc _ wr e0 hpv HP.out.1 (by omega) HB.out.1 hfl
              clear hM hB HZ HL2
              generalize hP : vs.filter (· != s.id) = P at *
              have hPP : Hid (vs.filter (· != s.id) = P) := hP
              clear hP
              go_wp2_with fail
              refine HC.out.mono ?_
              rintro e w1 ⟨rfl, ⟨S, hk1, hS⟩, _⟩
              have hout : ∀ x, x < wb.heap.size → x ∉ S := fun x hx hm => by have := (hS x hm).1; omega
              have hL1 := HM.out.live.keep hk1 (hout _ HB.out.1) (hout _ HB.out.2.1) (hout _ HB.out.2.2)
              have hV1 : Row w1 wl.heap.size (.slice vp vs.length vc) vs := HM.out.row.keep hk1 (fun g e hm => by
                have h1 := (HM.out.row.lt g e).1
                have h2 := (HP.out.2.1.lt g (hS g hm).2).2
                omega)
              have hB1 : Boxed w.heap.size w1 b p vs.length c := HP.out.2.2.keep hk1 (hout _ (by omega)) (hout _ (by omega))
              have hK1 : Keep [b] w w1 := (HK1.out.trans HM.out.keep).past hk1 (fun q hq => by have := (hS q hq).1; omega)
              clear e0 e1 e2 e3 hpv HC hS hk1 hout
              obtain ⟨e0, e1, e2, e3⟩ := hB1.cells
              have hvv : w1.cell? ⟨b, 2, none⟩ = some (.slice vp vs.length vc) := hL1.node.cell 2
              have HC : Hid (Calls Try.prog 20 #[.iface 23 (.slice vp vs.length vc), .func (.func 22) #[] #[.pointer (some ⟨w.heap.size, 0, none⟩)]] w1 fun e w' =>
                  e = .returned (.tuple #[]) ∧ (∃ S, Keep S w1 w' ∧ ∀ q, q ∈ S → wl.heap.size ≤ q ∧ (Value.slice vp vs.length vc).ownBlock = some q) ∧ (vs.length ≤ 1 → Keep [] w1 w')) :=
                sort_any 22 2 (.inr ⟨rfl, rfl⟩) w.heap.size b wl.heap.size vp vc _ w1 e0 hvv hV1 (by omega) HM.out.hb hn
              have HL1 : Hid (Live w1 b pb { s with peers := .slice pp P.length pc, voters := .slice vp vs.length vc, voter := vs.contains s.id } ∧ Row w1 wl.heap.size (.slice vp vs.length vc) vs ∧ Boxed w.heap.size w1 b p vs.length c ∧ Keep [b] w w1) := ⟨hL1, hV1, hB1, hK1⟩
              clear hL1 hV1 hB1 hK1
              go_wp2_with fail
              refine HC.out.mono ?_
              rintro e w2 ⟨rfl, ⟨S, hk1, hS⟩, hone⟩
              obtain ⟨hL1, hV1, hB1, hK1⟩ := HL1.out
              have hout : ∀ x, x < wl.heap.size → x ∉ S := fun x hx hm => by have := (hS x hm).1; omega
              have hL2 := hL1.keep hk1 (hout _ HM.out.hb) (hout _ HM.out.hr) (hout _ HM.out.hp)
              have hB2 : Boxed w.heap.size w2 b p vs.length c := hB1.keep hk1 (hout _ (by omega)) (hout _ (by omega))
              have hK2 : Keep [b] w w2 := hK1.past hk1 (fun q hq => by have := (hS q hq).1; omega)
              have hV2 : vs.length ≤ 1 → Row w2 wl.heap.size (.slice vp vs.length vc) vs := fun h => hV1.keep (hone h) (by simp)
              clear e0 e1 e2 e3 hvv HC HL1 hS hk1 hout hone hL1 hV1 hB1 hK1
              obtain ⟨e0, e1, e2, e3⟩ := hB2.cells
              have c4 : w2.cell? ⟨b, 4, none⟩ = some (.slice none 0 0) := hL2.node.cell 4
              have hfr : ∀ j, w2.frozen? ⟨b, j, none⟩ = false := hL2.node.frozen
              have HF : Hid (Members w (w2.setCell ⟨b, 4, none⟩ (.slice none 0 0)) b pb s vs) := by
                refine ⟨pp, pc, vp, vc, ?_, fun h => ?_, hK2.setCell _ (by simp) _⟩
                · rw [hPP.out]; exact hL2.put 4 _ rfl rfl
                · exact ((hV2 h).keep (S := [b]) ((Keep.refl _ _).setCell _ (by simp) _) (fun g e => by have := ((hV2 h).lt g e).1; have := HM.out.hb; simp; omega)).mono (by omega)
              clear hL2 hB2 hK2 hV2
              go_wp2
              go_end0
              exact ⟨rfl, HF.out⟩
end Go.Proofs.Qxb6614192a

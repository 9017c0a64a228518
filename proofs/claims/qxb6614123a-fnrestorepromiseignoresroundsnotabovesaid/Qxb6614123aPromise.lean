import Derived.Test.Qxb6614123aSmall
import Derived.Deep.RegionLaw
import Derived.Deep.DeepCutAuto
import Derived.Deep.AppendLies
import Derived.StillTail
namespace Go.Proofs.Qxb6614123a
open Go.RowKit

/-- The four cells of a round. -/
def rl (r : R) : List Value := [.int .u64 r.e, .int .u64 r.n, .int .i64 r.l, .int .u64 r.s]
def flat (l : List R) : List Value := l.flatMap rl
theorem flat_length (l : List R) : (flat l).length = l.length * 4 := by
  induction l with
  | nil => rfl
  | cons r l ih => simp only [flat, List.flatMap_cons, List.length_append, List.length_cons] at *; simp only [rl, List.length_cons, List.length_nil]; omega
theorem flat_append (a b : List R) : flat (a ++ b) = flat a ++ flat b := by simp [flat]
theorem flat_one (r : R) : flat [r] = rl r := by simp [flat]
theorem flat_cell (l : List R) : ∀ i, i < l.length → (flat l)[i * 4]? = some (.int .u64 (l.getD i R.zero).e) ∧ (flat l)[i * 4 + 1]? = some (.int .u64 (l.getD i R.zero).n) ∧ (flat l)[i * 4 + 2]? = some (.int .i64 (l.getD i R.zero).l) ∧ (flat l)[i * 4 + 3]? = some (.int .u64 (l.getD i R.zero).s) := by
  induction l with
  | nil => intro i hi; simp at hi
  | cons r l ih =>
    intro i hi
    cases i with
    | zero => simp [flat, rl]
    | succ i =>
      have h := ih i (by simpa using hi)
      have e : flat (r :: l) = rl r ++ flat l := by simp [flat]
      have e4 : (rl r).length = 4 := rfl
      rw [e]
      have s : ∀ k, (rl r ++ flat l)[(i + 1) * 4 + k]? = (flat l)[i * 4 + k]? := by
        intro k
        rw [List.getElem?_append_right (by rw [e4]; omega), e4]
        congr 1; omega
      have s0 := s 0
      simp only [Nat.add_zero] at s0
      rw [s0, s 1, s 2, s 3]
      simpa using h
theorem flat_drop (l : List R) (k : Nat) : flat (l.drop k) = (flat l).drop (k * 4) := by
  induction k generalizing l with
  | zero => simp
  | succ k ih =>
    cases l with
    | nil => simp [flat]
    | cons r l =>
      rw [List.drop_succ_cons, ih l]
      have e : flat (r :: l) = rl r ++ flat l := by simp [flat]
      rw [e, List.drop_append]
      have e4 : (rl r).length = 4 := rfl
      rw [e4, show (k + 1) * 4 - 4 = k * 4 by omega, List.drop_of_length_le (l := rl r) (by rw [e4]; omega)]
      rfl
theorem rl_one (r : R) : ∀ u ∈ rl r, u.oneCell' = true := by
  intro u hu
  simp [rl] at hu
  rcases hu with rfl | rfl | rfl | rfl <;> rfl
theorem flat_one_cell (l : List R) : ∀ u ∈ flat l, u.oneCell' = true := by
  intro u hu
  obtain ⟨r, _, hr⟩ := List.mem_flatMap.1 hu
  exact rl_one r u hr

theorem still_tail {P : Program} {id : Nat} {Q : Exit → Act → World → Prop} {a : Act} {w : World} {l : List Oper} (n : Nat) (hm : P.follows .mixedOrders = true) (hB : Region.lexTailB .any l.toArray n = true)
    (h : wpStill P l.toArray w.drew (fun a' => wpList P l.toArray Q (l.drop n) a' w.drew) (l.take n) a) : (Code.region id l.toArray true).wp P Q a w := wp_region_still_tail n hm hB h

theorem info29 : ∃ i, Try.prog.info? 29 = some i ∧ i.zero = some (.agg #[.int .u64 0, .int .u64 0, .int .i64 0, .int .u64 0]) ∧ i.size = 4 ∧ i.bytes = 32 := by
  have h1 : (Try.prog.info? 29).map (fun i => (i.size, i.bytes)) = some (4, 32) := by kernel_rfl
  have h2 : (Try.prog.info? 29).bind (·.zero) = some (.agg #[.int .u64 0, .int .u64 0, .int .i64 0, .int .u64 0]) := by kernel_rfl
  cases h : Try.prog.info? 29 with
  | none => rw [h] at h1; cases h1
  | some i =>
    rw [h] at h1 h2
    simp at h1 h2
    exact ⟨i, rfl, h2, h1.1, h1.2⟩

/-- A boxed round. -/
def BoxAt (w : World) (k : Nat) (r : R) : Prop := w.heap[k]? = some (.cells #[.int .u64 r.e, .int .u64 r.n, .int .i64 r.l, .int .u64 r.s] 29 (0, 0))
theorem BoxAt.cells {w : World} {k : Nat} {r : R} (h : BoxAt w k r) : w.cell? ⟨k, 0, none⟩ = some (.int .u64 r.e) ∧ w.cell? ⟨k, 1, none⟩ = some (.int .u64 r.n) ∧ w.cell? ⟨k, 2, none⟩ = some (.int .i64 r.l) ∧ w.cell? ⟨k, 3, none⟩ = some (.int .u64 r.s) :=
  ⟨cell_of_row w k 0 _ 29 (0, 0) h, cell_of_row w k 1 _ 29 (0, 0) h, cell_of_row w k 2 _ 29 (0, 0) h, cell_of_row w k 3 _ 29 (0, 0) h⟩

theorem AccAt.setPr {w : World} {b : Nat} {pr : R} {v : Value} {bs : R} (h : AccAt w b pr v bs) (x : R) :
    AccAt ((((w.setCell ⟨b, 0, none⟩ (.int .u64 x.e)).setCell ⟨b, 1, none⟩ (.int .u64 x.n)).setCell ⟨b, 2, none⟩ (.int .i64 x.l)).setCell ⟨b, 3, none⟩ (.int .u64 x.s)) b x v bs :=
  heap_setCell_same _ _ _ _ _ _ (heap_setCell_same _ _ _ _ _ _ (heap_setCell_same _ _ _ _ _ _ (heap_setCell_same _ _ _ _ _ _ h)))
theorem AccAt.setBs {w : World} {b : Nat} {pr : R} {v : Value} {bs : R} (h : AccAt w b pr v bs) (x : R) :
    AccAt ((((w.setCell ⟨b, 12, none⟩ (.int .u64 x.e)).setCell ⟨b, 13, none⟩ (.int .u64 x.n)).setCell ⟨b, 14, none⟩ (.int .i64 x.l)).setCell ⟨b, 15, none⟩ (.int .u64 x.s)) b pr v x :=
  heap_setCell_same _ _ _ _ _ _ (heap_setCell_same _ _ _ _ _ _ (heap_setCell_same _ _ _ _ _ _ (heap_setCell_same _ _ _ _ _ _ h)))
theorem AccAt.setRow {w : World} {b : Nat} {pr : R} {v : Value} {bs : R} (h : AccAt w b pr v bs) (v' : Value) : AccAt (w.setCell ⟨b, 11, none⟩ v') b pr v' bs := heap_setCell_same _ _ _ _ _ _ h

theorem grownBy_setCell (w : World) (a : Addr) (u : Value) : w.grownBy (w.setCell a u) (some a.block) :=
  ⟨rfl, rfl, rfl, by simp, fun k _ hk => heap_setCell_other w a k u (fun e => hk (by rw [e]))⟩
theorem ownsRow_setCell {w : World} {B : Nat} {e : TypeId} {size n : Nat} {v : Value} {xs : List Value} (h : w.ownsRow B e size v n xs) (a : Addr) (u : Value) (hne : v.ownBlock ≠ some a.block) : (w.setCell a u).ownsRow B e size v n xs :=
  h.kept (grownBy_setCell w a u) (.inr hne)
theorem ownsRow_slice {w : World} {B : Nat} {e : TypeId} {size n : Nat} {v : Value} {xs : List Value} (h : w.ownsRow B e size v n xs) : ∃ p cap, v = .slice p n cap := by
  rcases h.2 with ⟨rfl, rfl⟩ | ⟨g, cap, cur, rfl, _⟩
  · exact ⟨none, 0, rfl⟩
  · exact ⟨_, _, rfl⟩

/-- In the midst of a promise: the acceptor in block b, the round asked for boxed in block k, what is kept apart in a row of the call's own. -/
structure Mid (w0 : World) (B b k : Nat) (r pr : R) (w : World) (bs : R) (v : Value) (ps : List R) : Prop where
  acc : AccAt w b pr v bs
  row : w.ownsRow B 29 4 v ps.length (flat ps)
  nb : v.ownBlock ≠ some b
  nk : v.ownBlock ≠ some k
  box : BoxAt w k r
  below : Below B w0 w

theorem Mid.setBs {w0 w : World} {B b k : Nat} {r pr bs : R} {v : Value} {ps : List R} (h : Mid w0 B b k r pr w bs v ps) (hB : B ≤ b) (hbk : k ≠ b) (x : R) :
    Mid w0 B b k r pr ((((w.setCell ⟨b, 12, none⟩ (.int .u64 x.e)).setCell ⟨b, 13, none⟩ (.int .u64 x.n)).setCell ⟨b, 14, none⟩ (.int .i64 x.l)).setCell ⟨b, 15, none⟩ (.int .u64 x.s)) x v ps :=
  ⟨h.acc.setBs x, ownsRow_setCell (ownsRow_setCell (ownsRow_setCell (ownsRow_setCell h.row _ _ h.nb) _ _ h.nb) _ _ h.nb) _ _ h.nb, h.nb, h.nk,
    ((heap_setCell_other _ _ _ _ hbk).trans ((heap_setCell_other _ _ _ _ hbk).trans ((heap_setCell_other _ _ _ _ hbk).trans (heap_setCell_other _ _ _ _ hbk)))).trans h.box,
    (((h.below.setCell hB _).setCell hB _).setCell hB _).setCell hB _⟩
theorem Mid.setPr {w0 w : World} {B b k : Nat} {r pr bs : R} {v : Value} {ps : List R} (h : Mid w0 B b k r pr w bs v ps) (hB : B ≤ b) (hbk : k ≠ b) (x : R) :
    Mid w0 B b k r x ((((w.setCell ⟨b, 0, none⟩ (.int .u64 x.e)).setCell ⟨b, 1, none⟩ (.int .u64 x.n)).setCell ⟨b, 2, none⟩ (.int .i64 x.l)).setCell ⟨b, 3, none⟩ (.int .u64 x.s)) bs v ps :=
  ⟨h.acc.setPr x, ownsRow_setCell (ownsRow_setCell (ownsRow_setCell (ownsRow_setCell h.row _ _ h.nb) _ _ h.nb) _ _ h.nb) _ _ h.nb, h.nb, h.nk,
    ((heap_setCell_other _ _ _ _ hbk).trans ((heap_setCell_other _ _ _ _ hbk).trans ((heap_setCell_other _ _ _ _ hbk).trans (heap_setCell_other _ _ _ _ hbk)))).trans h.box,
    (((h.below.setCell hB _).setCell hB _).setCell hB _).setCell hB _⟩
theorem Mid.drew {w0 w : World} {B b k : Nat} {r pr bs : R} {v : Value} {ps : List R} (h : Mid w0 B b k r pr w bs v ps) : Mid w0 B b k r pr w.drew bs v ps :=
  ⟨h.acc, h.row, h.nb, h.nk, h.box, h.below.drew⟩
theorem Mid.alloc {w0 w : World} {B b k : Nat} {r pr bs : R} {v : Value} {ps : List R} (h : Mid w0 B b k r pr w bs v ps) (hk : k < w.heap.size) (hB : B ≤ w.heap.size) (o : Obj) : Mid w0 B b k r pr (w.alloc o) bs v ps :=
  ⟨h.acc.of (Below.heap_alloc _ _ _ h.acc.lt), h.row.alloc o, h.nb, h.nk, (Below.heap_alloc _ _ _ hk).trans h.box, h.below.alloc hB o⟩
/-- Behind an append the new row is stored. -/
theorem Mid.appended {w0 w w' : World} {B b k : Nat} {r pr bs : R} {v v' : Value} {ps qs : List R} (h : Mid w0 B b k r pr w bs v ps) (hB : B ≤ b) (hbk : k ≠ b) (ho : w'.ownsRow B 29 4 v' qs.length (flat qs)) (hg : w.grownBy w' v.ownBlock)
    (hk : k < w.heap.size) (hBs : B ≤ w.heap.size) (hnb : v'.ownBlock ≠ some b) (hnk : v'.ownBlock ≠ some k) : Mid w0 B b k r pr (w'.setCell ⟨b, 11, none⟩ v') bs v' qs :=
  ⟨(h.acc.of (hg.block b h.acc.lt (fun e => h.nb e.symm))).setRow v', ownsRow_setCell ho _ _ hnb, hnb, hnk,
    (heap_setCell_other _ _ _ _ hbk).trans ((hg.block k hk (fun e => h.nk e.symm)).trans h.box),
    (h.below.grown hg hBs (fun k' hk' => (h.row.lt k' hk').1)).setCell hB _⟩

/-- The acceptor in block b and what it keeps apart, in memory from block B on. -/
def St (B b : Nat) (w : World) (pr bs : R) (ps : List R) : Prop := ∃ v, AccAt w b pr v bs ∧ w.ownsRow B 29 4 v ps.length (flat ps) ∧ v.ownBlock ≠ some b

set_option maxHeartbeats 1000000 in
theorem promise18' (B b : Nat) (pr bs r : R) (ps : List R) (p : Option Addr) (cap : Nat) (w : World) (hB : B ≤ b) (hA : AccAt w b pr (.slice p ps.length cap) bs) (hO : w.ownsRow B 29 4 (.slice p ps.length cap) ps.length (flat ps)) (hne : (Value.slice p ps.length cap).ownBlock ≠ some b) (h4 : ps.length ≤ 4) :
    Calls Try.prog 18 #[.pointer (some ⟨b, 0, none⟩), .agg #[.int .u64 r.e, .int .u64 r.n, .int .i64 r.l, .int .u64 r.s]] w fun e w' =>
      e = .returned (.tuple #[]) ∧ St B b w' r (baseNext pr bs ps) (keptNext ps r) ∧ Below B w w' := by
  have hrow := hA.row
  have hlt := hA.lt
  have hM0 : Mid w B b w.heap.size r pr (w.alloc (.cells #[.int .u64 r.e, .int .u64 r.n, .int .i64 r.l, .int .u64 r.s] 29)) bs (.slice p ps.length cap) ps :=
    ⟨hA.of (Below.heap_alloc _ _ _ hlt), hO.alloc _, hne, fun e => by have := (hO.lt _ e).2; omega, heap_alloc_new w _, (Below.refl _ _).alloc (by omega) _⟩
  go_enter Try.func18, Try.ntmps18
  go_upto_if 9 with fail
  go_cut [] (fun wc => ∃ bs1, Hid (bs1 = if ps.length = 0 then pr else bs) ∧ Mid w B b w.heap.size r pr wc bs1 (.slice p ps.length cap) ps)
  case first =>
    obtain ⟨q0, q1, q2, q3⟩ := hA.pr
    obtain ⟨q4, q5, q6, q7⟩ := hA.bs
    have f0 : ∀ j, w.frozen? ⟨b, j, none⟩ = false := hA.frozen
    by_cases hn : ps.length = 0
    · have hn' : ((ps.length : Int) == 0) = true := by rw [beq_iff_eq]; omega
      have HN : Hid (ps.length = 0) := hn
      clear hn
      go_wp2
      go_meet
      case rel =>
        have h := hM0.setBs hB (by omega) pr
        rw [World.setCell_alloc_past _ _ _ _ hlt, World.setCell_alloc_past _ _ _ _ (by simpa using hlt), World.setCell_alloc_past _ _ _ _ (by simpa using hlt), World.setCell_alloc_past _ _ _ _ (by simpa using hlt)] at h
        exact ⟨pr, (by rw [if_pos HN.out] : _ = _), h⟩
    · have hn' : ((ps.length : Int) == 0) = false := by rw [beq_eq_false_iff_ne]; omega
      have HN : Hid (¬ ps.length = 0) := hn
      clear hn
      go_wp2
      go_meet
      case rel => exact ⟨bs, (by rw [if_neg HN.out] : _ = _), hM0⟩
  case rest =>
    obtain ⟨bs1, hb1, hM⟩ := hcut
    have hrow1 := hM.acc.row
    go_upto_if 22 with fail
    go_cut [] (fun wc => ∃ v2, Mid w B b w.heap.size r pr wc (if ps.length = 4 then ps.headD R.zero else bs1) v2 (if ps.length = 4 then ps.tail else ps))
    case first =>
      by_cases hn : ps.length = 4
      · have hn' : ((ps.length : Int) == 4) = true := by rw [beq_iff_eq]; omega
        obtain ⟨r0, r1, r2, r3, rfl⟩ : ∃ r0 r1 r2 r3, ps = [r0, r1, r2, r3] := by
          match ps, hn with
          | [r0, r1, r2, r3], _ => exact ⟨r0, r1, r2, r3, rfl⟩
        clear hn hn'
        obtain ⟨g, rfl⟩ : ∃ g, p = some ⟨g, 0, none⟩ := by
          rcases hM.row.2 with ⟨_, h⟩ | ⟨g, cp, cur, h, _⟩
          · simp at h
          · simp at h; exact ⟨g, h.1⟩
        have hgb : g ≠ b := fun e => hM.nb (by simp [Value.ownBlock, e])
        have c0 : wc.cell? ⟨g, 0, none⟩ = some (.int .u64 r0.e) := hM.row.cellAt 0 (by simp)
        have c1 : wc.cell? ⟨g, 1, none⟩ = some (.int .u64 r0.n) := hM.row.cellAt 1 (by simp)
        have c2 : wc.cell? ⟨g, 2, none⟩ = some (.int .i64 r0.l) := hM.row.cellAt 2 (by simp)
        have c3 : wc.cell? ⟨g, 3, none⟩ = some (.int .u64 r0.s) := hM.row.cellAt 3 (by simp)
        obtain ⟨q4, q5, q6, q7⟩ := hM.acc.bs
        have f0 : ∀ j, wc.frozen? ⟨b, j, none⟩ = false := hM.acc.frozen
        go_upto_region 5 with fail
        have hM3 := hM.setBs hB (by omega) r0
        clear c0 c1 c2 c3 q4 q5 q6 q7 f0 hrow1 hrow hM hM0
        generalize (((wc.setCell { block := b, off := 12 } _).setCell { block := b, off := 13 } _).setCell { block := b, off := 14 } _).setCell { block := b, off := 15 } _ = W3 at hM3 ⊢
        have hr3 := hM3.acc.row
        have hb3 := hM3.acc.lt
        obtain ⟨hc4, hcm⟩ : 4 ≤ cap ∧ cap ≤ maxLen := by
          rcases hM3.row.2 with ⟨_, h⟩ | ⟨g', cp, cur, h, _, _, h1, h2, _⟩
          · simp at h
          · simp at h; obtain ⟨_, rfl⟩ := h; exact ⟨h1, h2⟩
        unfold maxLen at hcm
        have hc1 : ¬ cap = 1 := by omega
        obtain ⟨i, hi, hz, hs, hby⟩ := info29
        have HI : Hid (Try.prog.info? 29 = some i ∧ i.zero = some (.agg #[.int .u64 0, .int .u64 0, .int .i64 0, .int .u64 0]) ∧ i.size = 4 ∧ i.bytes = 32) := ⟨hi, hz, hs, hby⟩
        clear hi hz hs hby hA hO hne
        simp only [List.length_cons, List.length_nil, Nat.zero_add, Nat.reduceAdd] at hr3 hM3
        have hown0 : Hid (W3.drew.ownsRow B 29 4 (.slice (some ⟨g, 0, none⟩) 0 cap) 0 []) := by
          rcases hM3.row.2 with ⟨h, _⟩ | ⟨g', cp, cur, h, h0, h1, h2, h3, h4, _⟩
          · simp at h
          · simp at h; obtain ⟨rfl, rfl⟩ := h; exact ⟨rfl, .inr ⟨g, cap, cur, rfl, h0, h1, Nat.zero_le _, h3, h4, by simp⟩⟩
        have hnews : Hid (∀ j u, (flat [r1, r2, r3])[j]? = some u → W3.drew.cell? ((⟨g, 4, none⟩ : Addr).add j) = some u) := by
          intro j u hu
          have hj : j < 12 := by have := (List.getElem?_eq_some_iff.1 hu).1; simpa [flat_length] using this
          rw [Addr.add_lit]
          refine (hM3.row.cellAt (4 + j) (by simp; omega)).trans ?_
          rw [← hu, show flat [r0, r1, r2, r3] = rl r0 ++ flat [r1, r2, r3] from rfl, List.getElem?_append_right (by simp [rl])]
          simp [rl]
        have HM : Hid (Mid w B b w.heap.size r pr W3 r0 (.slice (some ⟨g, 0, none⟩) 4 cap) [r0, r1, r2, r3]) := hM3
        have hkk : w.heap.size < W3.heap.size := (Array.getElem?_eq_some_iff.1 hM3.box).1
        have hgk : g ≠ w.heap.size := fun e => hM3.nk (by simp [Value.ownBlock, e])
        have hfr3 : ∀ j, W3.frozen? ⟨b, j, none⟩ = false := hM3.acc.frozen
        clear hM3
        go_region_law (refine step_append_lies _ rfl _ _ 33 rfl B 29 i _ 4 32 Try.underlying33 HI.out.1 HI.out.2.1 HI.out.2.2.1 HI.out.2.2.2 rfl (by decide) (.slice (some ⟨g, 0, none⟩) 0 cap) 0 [] (by simp [Act.eval, Act.put]) hown0.out ⟨g, 4, none⟩ 3 (cap - 1) (flat [r1, r2, r3]) (by simp [Act.eval, Act.put]) rfl hnews.out (flat_one_cell _) (by decide) (by simp [maxLen]) (by decide) (by show B ≤ W3.heap.size; omega) W3.heap.size rfl ?_; intro g2 cap2 w1 hown hgrow hat hlt2; have k1 : w1.cell? ⟨b, 11, none⟩ = some (.slice (some ⟨g, 0, none⟩) 4 cap) := (hgrow.cell_far ⟨b, 11, none⟩ hb3 (by simp [Value.ownBlock]; omega)).trans hr3; have k2 : w1.frozen? ⟨b, 11, none⟩ = false := (hgrow.frozen_far ⟨b, 11, none⟩ hb3 (by simp [Value.ownBlock]; omega)).trans (hfr3 11))
        all_goals
          go_wp2
          go_meet
          case rel =>
            refine ⟨.slice (some ⟨g2, 0, none⟩) 3 cap2, ?_⟩
            have hg2 : g2 = g ∨ g2 = W3.heap.size := by
              rcases hat with h | h
              · left; simpa [Value.ownBlock] using h.symm
              · exact .inr h
            exact (HM.out.drew).appended (qs := [r1, r2, r3]) hB (by omega) hown hgrow hkk (by show B ≤ W3.heap.size; omega) (by simp [Value.ownBlock]; omega) (by simp [Value.ownBlock]; omega)
      · have hn' : ((ps.length : Int) == 4) = false := by rw [beq_eq_false_iff_ne]; omega
        have HN : Hid (¬ ps.length = 4) := hn
        clear hn
        go_wp2
        go_meet
        case rel => exact ⟨_, by rw [if_neg HN.out, if_neg HN.out]; exact hM⟩
    case rest =>
      obtain ⟨v2, hM2⟩ := hcut
      have hq4 : (if ps.length = 4 then ps.tail else ps).length ≤ 4 := by split <;> first | omega | (simp; omega)
      have hfin : Hid (baseNext pr bs ps = (if ps.length = 4 then ps.headD R.zero else bs1) ∧ keptNext ps r = (if ps.length = 4 then ps.tail else ps) ++ [r]) := by
        refine ⟨?_, rfl⟩
        unfold baseNext
        rw [hb1.out]
        by_cases e0 : ps.length = 0
        · rw [if_pos e0, if_neg (by omega), if_pos e0]
        · rw [if_neg e0]
          rw [if_neg e0]
      generalize (if ps.length = 4 then ps.tail else ps) = qs at hM2 hfin hq4
      generalize (if ps.length = 4 then ps.headD R.zero else bs1) = bs2 at hM2 hfin
      obtain ⟨p2, cp2, rfl⟩ := ownsRow_slice hM2.row
      clear hA hO hne hrow hM0 hM hrow1 hb1
      have hr2 := hM2.acc.row
      have hb2 := hM2.acc.lt
      obtain ⟨x0, x1, x2, x3⟩ := hM2.box.cells
      have hkk : w.heap.size < wc.heap.size := (Array.getElem?_eq_some_iff.1 hM2.box).1
      have hfr2 : ∀ j, wc.frozen? ⟨b, j, none⟩ = false := hM2.acc.frozen
      obtain ⟨i, hi, hz, hs, hby⟩ := info29
      have HI : Hid (Try.prog.info? 29 = some i ∧ i.zero = some (.agg #[.int .u64 0, .int .u64 0, .int .i64 0, .int .u64 0]) ∧ i.size = 4 ∧ i.bytes = 32) := ⟨hi, hz, hs, hby⟩
      clear hi hz hs hby
      have HM : Hid (Mid w B b w.heap.size r pr wc bs2 (.slice p2 qs.length cp2) qs) := hM2
      have hown1 : Hid ((wc.alloc (.cells #[.int .u64 r.e, .int .u64 r.n, .int .i64 r.l, .int .u64 r.s] 29)).drew.ownsRow B 29 4 (.slice p2 qs.length cp2) qs.length (flat qs)) := hM2.row.alloc _
      have hnews : Hid (∀ j u, (rl r)[j]? = some u → (wc.alloc (.cells #[.int .u64 r.e, .int .u64 r.n, .int .i64 r.l, .int .u64 r.s] 29)).drew.cell? ((⟨wc.heap.size, 0, none⟩ : Addr).add j) = some u) := World.news_of_block (cs := #[.int .u64 r.e, .int .u64 r.n, .int .i64 r.l, .int .u64 r.s]) (heap_alloc_new wc _)
      have hnb : Hid ((Value.slice p2 qs.length cp2).ownBlock ≠ some b) := hM2.nb
      have hnk : Hid ((Value.slice p2 qs.length cp2).ownBlock ≠ some w.heap.size) := hM2.nk
      clear hM2
      go_upto_region 6 with fail
      go_region_law (refine step_append_lies _ rfl _ _ 33 rfl B 29 i _ 4 32 Try.underlying33 HI.out.1 HI.out.2.1 HI.out.2.2.1 HI.out.2.2.2 rfl (by decide) (.slice p2 qs.length cp2) qs.length (flat qs) (by simp [Act.eval]) hown1.out ⟨wc.heap.size, 0, none⟩ 1 1 (rl r) (by simp [Act.eval]) rfl hnews.out (rl_one r) (by decide) (by simp [maxLen]; omega) (by omega) (by simp; omega) (wc.heap.size + 1) (by simp) ?_; intro g2 cap2 w1 hown hgrow hat hlt2; have k1 : w1.cell? ⟨b, 11, none⟩ = some (.slice p2 qs.length cp2) := (hgrow.cell_far ⟨b, 11, none⟩ (by simp; omega) (fun e => hnb.out e.symm)).trans ((World.cell?_of_block (w := wc) (Below.heap_alloc _ _ _ hb2)).trans hr2); have k2 : w1.frozen? ⟨b, 11, none⟩ = false := (hgrow.frozen_far ⟨b, 11, none⟩ (by simp; omega) (fun e => hnb.out e.symm)).trans ((World.frozen?_of_block (w := wc) (Below.heap_alloc _ _ _ hb2)).trans (hfr2 11)))
      all_goals
        have hg2 : (Value.slice p2 qs.length cp2).ownBlock = some g2 ∨ g2 = wc.heap.size + 1 := hat
        have hM6 := ((HM.out.alloc hkk (by omega) (.cells #[.int .u64 r.e, .int .u64 r.n, .int .i64 r.l, .int .u64 r.s] 29)).drew).appended (qs := qs ++ [r]) (v' := .slice (some ⟨g2, 0, none⟩) (qs.length + 1) cap2) hB (by omega)
          (by rw [List.length_append, flat_append, flat_one]; exact hown) hgrow (by simp; omega) (by simp; omega)
          (by intro e; rcases hg2 with h | h
              · exact hnb.out (h.trans e)
              · simp [Value.ownBlock] at e; omega)
          (by intro e; rcases hg2 with h | h
              · exact hnk.out (h.trans e)
              · simp [Value.ownBlock] at e; omega)
        clear hown hgrow hat hlt2 k1 k2 hg2 x0 x1 x2 x3 hr2 hfr2
        generalize w1.setCell { block := b, off := 11 } _ = W6 at hM6 ⊢
        obtain ⟨x0, x1, x2, x3⟩ := hM6.box.cells
        obtain ⟨q0, q1, q2, q3⟩ := hM6.acc.pr
        have hfr6 : ∀ j, W6.frozen? ⟨b, j, none⟩ = false := hM6.acc.frozen
        have HM6 : Hid (Mid w B b w.heap.size r pr W6 bs2 (.slice (some ⟨g2, 0, none⟩) (qs.length + 1) cap2) (qs ++ [r])) := hM6
        clear hM6
        go_wp2
        go_end0
        have hM7 := HM6.out.setPr hB (by omega) r
        exact ⟨rfl, by rw [hfin.out.1, hfin.out.2]; exact ⟨_, hM7.acc, hM7.row, hM7.nb⟩, hM7.below⟩

theorem promise18 (B b : Nat) (pr bs r : R) (ps : List R) (w : World) (hB : B ≤ b) (h : St B b w pr bs ps) (h4 : ps.length ≤ 4) :
    Calls Try.prog 18 #[.pointer (some ⟨b, 0, none⟩), .agg #[.int .u64 r.e, .int .u64 r.n, .int .i64 r.l, .int .u64 r.s]] w fun e w' =>
      e = .returned (.tuple #[]) ∧ St B b w' r (baseNext pr bs ps) (keptNext ps r) ∧ Below B w w' := by
  obtain ⟨v, hA, hO, hne⟩ := h
  obtain ⟨p, cap, rfl⟩ := ownsRow_slice hO
  exact promise18' B b pr bs r ps p cap w hB hA hO hne h4
end Go.Proofs.Qxb6614123a

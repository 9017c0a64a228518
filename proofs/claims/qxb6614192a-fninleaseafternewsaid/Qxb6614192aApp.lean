import Derived.Test.Qxb6614192aAdv
namespace Go.Proofs.Qxb6614192a
open Go.RowKit

theorem info31 : ∃ i, Try.prog.info? 31 = some i ∧ i.zero = some (.agg #[.int .u64 0, .slice none 0 0]) ∧ i.size = 2 ∧ i.bytes = 32 := by
  have h1 : (Try.prog.info? 31).map (fun i => (i.size, i.bytes)) = some (2, 32) := by kernel_rfl
  have h2 : (Try.prog.info? 31).bind (·.zero) = some (.agg #[.int .u64 0, .slice none 0 0]) := by kernel_rfl
  cases h : Try.prog.info? 31 with
  | none => rw [h] at h1; cases h1
  | some i =>
    rw [h] at h1 h2
    simp at h1 h2
    exact ⟨i, rfl, h2, h1.1, h1.2⟩

/-- The first entry is logged. -/
def Logged (w : World) (b pb : Nat) (s : N) (wr : World) : Prop := ∃ g lc, Live wr b pb { s with log := .slice (some ⟨g, 0, none⟩) 1 lc } ∧ wr.cell? ⟨g, 0, none⟩ = some (.int .u64 s.term) ∧ Keep [b] w wr

set_option maxRecDepth 100000 in
set_option maxHeartbeats 2000000 in
theorem append37 (b pb eb : Nat) (s : N) (pp : Option Addr) (pc : Nat) (w : World) (hs : Live w b pb s) (hp : s.peers = .slice pp 0 pc) (hl : s.log = .slice none 0 0) (hc : s.commit = 0) (he : w.cell? ⟨eb, 0, none⟩ = some (.slice none 0 0)) :
    Calls Try.prog 37 #[.pointer (some ⟨b, 0, none⟩), .slice (some ⟨eb, 0, none⟩) 1 1] w fun e w' => e = .returned (.tuple #[]) ∧ (∃ v, Live w' b pb { s with log := v, commit := 1 }) ∧ Keep [b] w w' := by
  have hb := hs.node.lt
  obtain ⟨i, hi, hz, hsz, hby⟩ := info31
  have HI : Hid (Try.prog.info? 31 = some i ∧ i.zero = some (.agg #[.int .u64 0, .slice none 0 0]) ∧ i.size = 2 ∧ i.bytes = 32) := ⟨hi, hz, hsz, hby⟩
  have hu28 : Hid (Try.prog.underlying 28 = some (.slice 31)) := (by kernel_rfl : Try.prog.underlying 28 = some (.slice 31))
  have HS : Hid (Live w b pb s ∧ w.cell? ⟨b, 19, none⟩ = some (.slice none 0 0) ∧ w.cell? ⟨b, 8, none⟩ = some (.int .u64 s.term)) := ⟨hs, by rw [← hl]; exact hs.node.cell 19, hs.node.cell 8⟩
  have hf := hs.node.frozen
  clear hi hz hsz hby hs
  go_enter Try.func37, Try.ntmps37
  go_wp2_with fail
  go_loopw [10] (fun i wr => (i = .int .i64 0 ∧ wr = w) ∨ (i = .int .i64 1 ∧ Logged w b pb s wr)) (fun i _ => 1 - (intOf i).toNat)
  case atStart => exact .inl ⟨rfl, rfl⟩
  case round =>
    rcases hrel with ⟨rfl, rfl⟩ | ⟨rfl, hlog⟩
    · obtain ⟨_, c19, c8⟩ := HS.out
      have hown1 : Hid ((wr.alloc (.cells #[.int .u64 s.term, .slice none 0 0] 31)).drew.ownsRow wr.heap.size 31 2 (.slice none 0 0) 0 []) := World.ownsRow_nil _ _ _ _
      have hnews : Hid (∀ j u, [Value.int .u64 s.term, .slice none 0 0][j]? = some u → (wr.alloc (.cells #[.int .u64 s.term, .slice none 0 0] 31)).drew.cell? ((⟨wr.heap.size, 0, none⟩ : Addr).add j) = some u) := World.news_of_block (cs := #[.int .u64 s.term, .slice none 0 0]) (heap_alloc_new wr _)
      go_upto_region 3 with fail
      go_region_law ((refine step_append_lies _ rfl _ _ 28 rfl wr.heap.size 31 i _ 2 32 hu28.out HI.out.1 HI.out.2.1 HI.out.2.2.1 HI.out.2.2.2 rfl (by decide) (.slice none 0 0) 0 [] (by simp [Act.eval]) hown1.out ⟨wr.heap.size, 0, none⟩ 1 1 [.int .u64 s.term, .slice none 0 0] (by simp [Act.eval]) rfl hnews.out (by intro u hu; simp at hu; rcases hu with rfl | rfl <;> rfl) (by decide) (by simp [maxLen]) (by decide) (by simp) (wr.heap.size + 1) (by simp) ?_; intro g2 cap2 w1 hown hgrow hat hlt2; have k1 : w1.cell? ⟨b, 19, none⟩ = some (.slice none 0 0) := (hgrow.cell_far ⟨b, 19, none⟩ (by simp; omega) (by simp [Value.ownBlock])).trans ((World.cell?_of_block (w := wr) (Below.heap_alloc _ _ _ hb)).trans c19); have k2 : w1.frozen? ⟨b, 19, none⟩ = false := (hgrow.frozen_far ⟨b, 19, none⟩ (by simp; omega) (by simp [Value.ownBlock])).trans ((World.frozen?_of_block (w := wr) (Below.heap_alloc _ _ _ hb)).trans (hf 19))))
      all_goals
        have hL : Logged wr b pb s (w1.setCell ⟨b, 19, none⟩ (.slice (some ⟨g2, 0, none⟩) 1 cap2)) := by
          have hk : Keep [] wr w1 := (((Keep.refl [] wr).alloc _).drew).grown hgrow (by intro g e; simp [Value.ownBlock] at e)
          have hL1 : Live w1 b pb s := HS.out.1.keep hk (by simp) (by simp) (by simp)
          have hg2 : g2 = wr.heap.size + 1 := by
            rcases hat with h | h
            · simp [Value.ownBlock] at h
            · exact h
          refine ⟨g2, cap2, hL1.put 19 _ rfl rfl, ?_, (hk.mono (by simp)).setCell _ (by simp) _⟩
          have h0 := hown.cellAt 0 (by simp)
          exact (World.cell?_of_block (heap_setCell_other _ _ _ _ (by simp; omega))).trans h0
        clear hown hgrow hat hlt2 k1 k2
        generalize w1.setCell _ _ = W6 at hL ⊢
        have HL : Hid (Logged wr b pb s W6) := hL
        clear hL
        go_wp2
        exact ⟨.inr ⟨rfl, HL.out⟩, by simp [intOf]⟩
    · obtain ⟨g, lc, h1, h2, h3⟩ := hlog
      have c1 : wr.cell? ⟨b, 1, none⟩ = some (.slice pp 0 pc) := by rw [← hp]; exact h1.node.cell 1
      have HC : Hid (Calls Try.prog 65 #[.pointer (some ⟨b, 0, none⟩)] wr fun e w' => e = .returned (.tuple #[]) ∧ Live w' b pb { s with log := .slice (some ⟨g, 0, none⟩) 1 lc, commit := 1 } ∧ Keep [b] wr w') := advance65 b pb g _ pp pc lc wr h1 hp rfl h2 hc
      have HK : Hid (Keep [b] w wr) := h3
      clear h1 h2 h3 he hp hl hc
      go_wp2_with fail
      go_loop [36] (fun i => i = .int .i64 0) (fun _ => 0)
      case atStart => rfl
      case round =>
        subst hrel
        go_wp2_with fail
        refine HC.out.mono ?_
        rintro e w2 ⟨rfl, h5, h6⟩
        have HF : Hid ((∃ v, Live w2 b pb { s with log := v, commit := 1 }) ∧ Keep [b] w w2) := ⟨⟨_, h5⟩, HK.out.trans h6⟩
        clear h5 h6 HK HC
        go_wp2_with fail
        go_end0
        exact ⟨rfl, HF.out⟩
end Go.Proofs.Qxb6614192a

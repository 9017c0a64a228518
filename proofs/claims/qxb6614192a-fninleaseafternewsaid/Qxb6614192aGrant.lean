import Derived.Test.Qxb6614192aRow2
import Derived.WideMake
namespace Go.Proofs.Qxb6614192a
open Go.RowKit

/-- The map with one entry. -/
def oneMap (k : Int) (v : Value) : Obj := .map #[{ key := .int .u64 k, val := v, born := 0 }] 1
theorem map_first {P : Program} (w : World) (mty kt et : TypeId) (r : Nat) (k : Int) (val : Value) (hm : P.underlying mty = some (.map kt et)) (hk : P.underlying kt = some (.int .u64)) (hb : w.heap[r]? = some (.map #[] 0)) :
    (Instr.mapUpdate mty (.map (some r)) (.int .u64 k) val).run P w = .ok () { w with heap := w.heap.setIfInBounds r (oneMap k val) } := by
  have hf : Instr.findNow (.int .u64) (.int .u64 k) ([] : List MapEntry) 0 = some none := rfl
  have hc : (Instr.checkKey false 10000 kt (.int .u64 k)).run P w = .ok () w := MapKept.run_checkKey (k := .int .u64 k) hk (by simp [MapKept.IsKey]) false 9999
  simp [oneMap, Instr.mapUpdate, run_underlying hm, MapKept.run_getObj_map hb, hc, MapKept.run_findKey hk hf, MapKept.run_setObj_map _ hb, Result.andThen]
theorem map_look {P : Program} (w : World) (mty kt et : TypeId) (r : Nat) (k : Int) (val : Value) (hm : P.underlying mty = some (.map kt et)) (hk : P.underlying kt = some (.int .u64)) (hb : w.heap[r]? = some (oneMap k val)) :
    (Instr.lookup mty (.map (some r)) (.int .u64 k) false).run P w = .ok val w := by
  have hf : Instr.findNow (.int .u64) (.int .u64 k) [({ key := .int .u64 k, val := val, born := 0 } : MapEntry)] 0 = some (some (0, val)) := by simp [Instr.findNow, Instr.sameNow]
  have hc : (Instr.checkKey false 10000 kt (.int .u64 k)).run P w = .ok () w := MapKept.run_checkKey (k := .int .u64 k) hk (by simp [MapKept.IsKey]) false 9999
  simp [Instr.lookup, run_underlying hm, MapKept.run_getObj_map hb, hc, MapKept.run_findKey hk hf, Result.andThen]
theorem keep_setObj (w : World) (r : Nat) (o : Obj) : Keep [r] w { w with heap := w.heap.setIfInBounds r o } := by
  refine ⟨rfl, rfl, rfl, by simp, fun k hk hn => ?_⟩
  have : r ≠ k := by simp at hn; omega
  simp [Array.getElem?_setIfInBounds_ne this]

/-- grant's closure: has k granted? -/
theorem asked40 (kb b pb r : Nat) (s : N) (k : Int) (w : World) (hk : w.cell? ⟨kb, 0, none⟩ = some (.pointer (some ⟨b, 0, none⟩))) (hs : Live w b pb s) (hg : s.granted = .map (some r)) (hm : w.heap[r]? = some (oneMap k (.bool true))) :
    Calls Try.prog 40 #[.int .u64 k, .pointer (some ⟨kb, 0, none⟩)] w fun e w' => e = .returned (.bool true) ∧ w' = w := by
  have c16 : w.cell? ⟨b, 16, none⟩ = some (.map (some r)) := by rw [← hg]; exact hs.node.cell 16
  have hl := map_look (P := Try.prog) w 51 22 4 r k (.bool true) (by kernel_rfl) Try.underlying22 hm
  clear hs hm hg
  go_enter Try.func40, Try.ntmps40
  go_wp2_with fail
  go_ret
  exact ⟨rfl, rfl⟩

set_option maxRecDepth 100000 in
set_option maxHeartbeats 1000000 in
/-- A lone voter that grants is a majority. -/
theorem majority39 (kb b pb r B : Nat) (s : N) (p : Option Addr) (c : Nat) (w : World) (hk : w.cell? ⟨kb, 0, none⟩ = some (.pointer (some ⟨b, 0, none⟩))) (hs : Live w b pb s) (hg : s.granted = .map (some r)) (hm : w.heap[r]? = some (oneMap s.id (.bool true)))
    (hv : s.voters = .slice p 1 c) (hr : Row w B (.slice p 1 c) [s.id]) :
    Calls Try.prog 39 #[.pointer (some ⟨b, 0, none⟩), .func (.func 40) #[] #[.pointer (some ⟨kb, 0, none⟩)]] w fun e w' => e = .returned (.bool true) ∧ w' = w := by
  have c2 : w.cell? ⟨b, 2, none⟩ = some (.slice p 1 c) := by rw [← hv]; exact hs.node.cell 2
  obtain ⟨g, rfl, hg1, hg2, hx⟩ := hr.cell 0 (by simp)
  clear hg1 hg2
  simp only [List.getD_cons_zero] at hx
  have HC : Hid (Calls Try.prog 40 #[.int .u64 s.id, .pointer (some ⟨kb, 0, none⟩)] w fun e w' => e = .returned (.bool true) ∧ w' = w) := asked40 kb b pb r s s.id w hk hs hg hm
  clear hs hg hm hv hr hk
  go_enter Try.func39, Try.ntmps39
  go_wp2_with fail
  go_loop [5, 13] (fun n i => ∃ k : Nat, k ≤ 1 ∧ n = .int .i64 k ∧ i = .int .i64 k) (fun _ i => 1 - (intOf i).toNat)
  case atStart => exact ⟨0, by omega, rfl, rfl⟩
  case round =>
    obtain ⟨k, hk, rfl, rfl⟩ := hrel
    have : k = 0 ∨ k = 1 := by omega
    rcases this with rfl | rfl
    · go_wp2_with fail
      refine HC.out.mono ?_
      rintro e w1 ⟨rfl, rfl⟩
      go_wp2_with fail
      exact ⟨⟨1, by omega, rfl, rfl⟩, by simp [intOf]⟩
    · go_wp2_with fail
      go_ret
      exact ⟨rfl, rfl⟩

theorem Live.ne_map {w : World} {b pb r : Nat} {s : N} {es : Array MapEntry} {n : Nat} (h : Live w b pb s) (hm : w.heap[r]? = some (.map es n)) : b ≠ r ∧ s.rb ≠ r ∧ pb ≠ r := by
  obtain ⟨H, L, _, _, hp⟩ := h.gen
  refine ⟨fun e => ?_, fun e => ?_, fun e => ?_⟩
  · subst e; have := h.node.symm.trans hm; simp at this
  · have h2 := h.rand; rw [e] at h2; have := h2.symm.trans hm; simp at this
  · subst e; have := hp.symm.trans hm; simp at this

set_option maxRecDepth 100000 in
set_option maxHeartbeats 1000000 in
/-- The lone voter grants itself. -/
theorem grant27 (b pb r B : Nat) (s : N) (p : Option Addr) (c : Nat) (w : World) (hs : Live w b pb s) (hg : s.granted = .map (some r)) (hm : w.heap[r]? = some (.map #[] 0)) (hv : s.voters = .slice p 1 c) (hr : Row w B (.slice p 1 c) [s.id]) :
    Calls Try.prog 27 #[.pointer (some ⟨b, 0, none⟩), .int .u64 s.id] w fun e w' => e = .returned (.bool true) ∧ Live w' b pb s ∧ Row w' B (.slice p 1 c) [s.id] ∧ Keep [r] w w' := by
  obtain ⟨n1, n2, n3⟩ := hs.ne_map hm
  have hrl : r < w.heap.size := (Array.getElem?_eq_some_iff.1 hm).1
  have hk1 : Keep [] w (w.alloc (.cells #[.pointer (some ⟨b, 0, none⟩)] 32)) := (Keep.refl _ _).alloc _
  have hL1 := hs.alloc (.cells #[.pointer (some ⟨b, 0, none⟩)] 32)
  have hm1 : (w.alloc (.cells #[.pointer (some ⟨b, 0, none⟩)] 32)).heap[r]? = some (.map #[] 0) := (hk1.block r hrl (by simp)).trans hm
  have hrow1 : Row (w.alloc (.cells #[.pointer (some ⟨b, 0, none⟩)] 32)) B (.slice p 1 c) [s.id] := hr.keep hk1 (by simp)
  have hmu := map_first (P := Try.prog) (w.alloc (.cells #[.pointer (some ⟨b, 0, none⟩)] 32)) 51 22 4 r s.id (.bool true) (by kernel_rfl) Try.underlying22 hm1
  have hk2 := keep_setObj (w.alloc (.cells #[.pointer (some ⟨b, 0, none⟩)] 32)) r (oneMap s.id (.bool true))
  have hm2 : ({ (w.alloc (.cells #[.pointer (some ⟨b, 0, none⟩)] 32)) with heap := (w.alloc (.cells #[.pointer (some ⟨b, 0, none⟩)] 32)).heap.setIfInBounds r (oneMap s.id (.bool true)) } : World).heap[r]? = some (oneMap s.id (.bool true)) := by
    simp only [Array.getElem?_setIfInBounds_self]
    rw [if_pos (by simp; omega)]
  have c16 : (w.alloc (.cells #[.pointer (some ⟨b, 0, none⟩)] 32)).cell? ⟨b, 16, none⟩ = some (.map (some r)) := by rw [← hg]; exact hL1.node.cell 16
  have cb : (w.alloc (.cells #[.pointer (some ⟨b, 0, none⟩)] 32)).cell? ⟨w.heap.size, 0, none⟩ = some (.pointer (some ⟨b, 0, none⟩)) := cell_of_row _ _ 0 #[.pointer (some ⟨b, 0, none⟩)] 32 (0, 0) (heap_alloc_new w _)
  generalize ({ (w.alloc (.cells #[.pointer (some ⟨b, 0, none⟩)] 32)) with heap := (w.alloc (.cells #[.pointer (some ⟨b, 0, none⟩)] 32)).heap.setIfInBounds r (oneMap s.id (.bool true)) } : World) = W2 at hmu hk2 hm2
  have cb2 : W2.cell? ⟨w.heap.size, 0, none⟩ = some (.pointer (some ⟨b, 0, none⟩)) := (World.cell?_of_block (w := w.alloc (.cells #[.pointer (some ⟨b, 0, none⟩)] 32)) (hk2.block _ (by simp) (by simp; omega))).trans cb
  have hL2 : Live W2 b pb s := hL1.keep hk2 (by simpa using n1) (by simpa using n2) (by simpa using n3)
  have hrow2 : Row W2 B (.slice p 1 c) [s.id] := by
    refine hrow1.keep hk2 (fun g e hm' => ?_)
    have hgr : g = r := by simpa using hm'
    subst hgr
    obtain ⟨g', e', _, _, hx⟩ := hr.cell 0 (by simp)
    subst e'
    have : g' = g := by simpa [Value.ownBlock] using e
    subst this
    simp [World.cell?, hm] at hx
  have HC : Hid (Calls Try.prog 39 #[.pointer (some ⟨b, 0, none⟩), .func (.func 40) #[] #[.pointer (some ⟨w.heap.size, 0, none⟩)]] W2 fun e w' => e = .returned (.bool true) ∧ w' = W2) := majority39 w.heap.size b pb r B s p c W2 cb2 hL2 hg hm2 hv hrow2
  have HF : Hid (Live W2 b pb s ∧ Row W2 B (.slice p 1 c) [s.id] ∧ Keep [r] w W2) := ⟨hL2, hrow2, (hk1.mono (by simp)).trans hk2⟩
  clear hs hg hm hv hr hL1 hm1 hrow1 hk1 hk2 hm2 hL2 hrow2 n1 n2 n3 cb hrl
  go_enter Try.func27, Try.ntmps27
  go_wp2_with fail
  refine HC.out.mono ?_
  rintro e w1 ⟨rfl, rfl⟩
  go_wp2_with fail
  go_ret
  exact ⟨rfl, HF.out⟩
end Go.Proofs.Qxb6614192a

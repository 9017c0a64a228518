import Derived.Test.Qxb6614192aApp
import Derived.Deep.RegionLaw
import Derived.Deep.RegionHeldLaw
import Derived.Deep.DeepCutAuto
namespace Go.Proofs.Qxb6614192a
open Go.RowKit

def Led (b pb : Nat) (w w' : World) : Prop := ∃ s', Live w' b pb s' ∧ s'.role = 3 ∧ Keep [b] w w'

set_option maxRecDepth 100000 in
set_option maxHeartbeats 2000000 in
theorem lead41 (b pb : Nat) (s : N) (pp : Option Addr) (pc : Nat) (w : World) (hs : Live w b pb s) (hp : s.peers = .slice pp 0 pc) (hl : s.log = .slice none 0 0) (hc : s.commit = 0) :
    Calls Try.prog 41 #[.pointer (some ⟨b, 0, none⟩)] w fun e w' => e = .returned (.tuple #[]) ∧ Led b pb w w' := by
  have hb := hs.node.lt
  have c0 : w.cell? ⟨b, 0, none⟩ = some (.int .u64 s.id) := hs.node.cell 0
  have c12 : w.cell? ⟨b, 12, none⟩ = some (.int .u8 s.role) := hs.node.cell 12
  have c13 : w.cell? ⟨b, 13, none⟩ = some (.int .u64 s.leader) := hs.node.cell 13
  have c18 : w.cell? ⟨b, 18, none⟩ = some (.int .u64 0) := hs.node.cell 18
  have c35 : w.cell? ⟨b, 35, none⟩ = some s.progress := hs.node.cell 35
  have c1 : w.cell? ⟨b, 1, none⟩ = some (.slice pp 0 pc) := by rw [← hp]; exact hs.node.cell 1
  have hf := hs.node.frozen
  have HS : Hid (Live w b pb s) := hs
  have hmm := @run_makeMap Try.prog
  clear hs
  go_enter Try.func41, Try.ntmps41
  go_wp2_with fail
  have hL1 := (((((HS.out.put (t := { s with role := 3 }) 12 (.int .u8 3) rfl rfl).put (t := { s with role := 3, leader := s.id }) 13 (.int .u64 s.id) rfl rfl).put (t := { s with role := 3, leader := s.id }) 18 (.int .u64 0) rfl rfl).put (t := { s with role := 3, leader := s.id, progress := .map (some w.heap.size) }) 35 (.map (some w.heap.size)) rfl rfl).alloc (.map #[] 0))
  have hK1 : Keep [b] w (((((w.setCell ⟨b, 12, none⟩ (.int .u8 3)).setCell ⟨b, 13, none⟩ (.int .u64 s.id)).setCell ⟨b, 18, none⟩ (.int .u64 0)).setCell ⟨b, 35, none⟩ (.map (some w.heap.size))).alloc (.map #[] 0)) := (((((Keep.refl _ _).setCell _ (by simp) _).setCell _ (by simp) _).setCell _ (by simp) _).setCell _ (by simp) _).alloc _
  generalize hW : (((((w.setCell ⟨b, 12, none⟩ (.int .u8 3)).setCell ⟨b, 13, none⟩ (.int .u64 s.id)).setCell ⟨b, 18, none⟩ (.int .u64 0)).setCell ⟨b, 35, none⟩ (.map (some w.heap.size))).alloc (.map #[] 0)) = W1 at hL1 hK1 ⊢
  clear hW c0 c12 c13 c18 c35 c1 hf HS hmm
  have HL1 : Hid (Live W1 b pb { s with role := 3, leader := s.id, progress := .map (some w.heap.size) } ∧ Keep [b] w W1) := ⟨hL1, hK1⟩
  have hb1 := hL1.node.lt
  have c4 : W1.cell? ⟨b, 4, none⟩ = some (.slice none 0 0) := hL1.node.cell 4
  clear hL1 hK1
  go_loop [28] (fun i => i = .int .i64 0) (fun _ => 0)
  case atStart => rfl
  case round =>
    subst hrel
    obtain ⟨i, hi, hz, hsz, hby⟩ : ∃ i, Try.prog.info? 29 = some i ∧ True ∧ True ∧ True := by
      have h1 : (Try.prog.info? 29).isSome = true := by kernel_rfl
      obtain ⟨i, hi⟩ := Option.isSome_iff_exists.1 h1
      exact ⟨i, hi, trivial, trivial, trivial⟩
    have HI : Hid (Try.prog.info? 29 = some i ∧ Try.prog.underlying 74 = some (.slice 29)) := ⟨hi, by kernel_rfl⟩
    clear hi hz hsz hby
    have H26 : Hid (∀ W, Live W b pb { s with role := 3, leader := s.id, progress := .map (some w.heap.size) } → Calls Try.prog 26 #[.pointer (some ⟨b, 0, none⟩)] W fun e w' => e = .returned (.slice none 0 0) ∧ w' = W) := fun W h => held26 b pb _ W h
    have H37 : Hid (Calls Try.prog 37 #[.pointer (some ⟨b, 0, none⟩), .slice (some ⟨W1.heap.size, 0, none⟩) 1 1] (W1.alloc (.cells #[.slice none 0 0] 29)).drew fun e w' => e = .returned (.tuple #[]) ∧ (∃ v, Live w' b pb { s with role := 3, leader := s.id, progress := .map (some w.heap.size), log := v, commit := 1 }) ∧ Keep [b] (W1.alloc (.cells #[.slice none 0 0] 29)).drew w') :=
      append37 b pb W1.heap.size _ pp pc _ (HL1.out.1.alloc _).drew hp hl hc (cell_of_row _ _ 0 #[.slice none 0 0] 29 (0, 0) (heap_alloc_new W1 _))
    have HP : Hid (s.peers = .slice pp 0 pc) := hp
    clear hp hl hc
    go_upto_region 7 with fail
    go_cut [] (fun wc => ∃ v, Live wc b pb { s with role := 3, leader := s.id, progress := .map (some w.heap.size), log := v, commit := 1 } ∧ Keep [b] w wc)
    case first =>
      go_region_held_law (fun w' => w'.cell? ⟨b, 4, none⟩ = some (.slice none 0 0)) (first | exact c4 | exact h5.node.cell 4 | exact (World.cell?_of_block (w := W1) (Below.heap_alloc _ _ _ hb1)).trans c4) ((first | refine step_append_zero rfl (.tmp 41) (.tmp 43) 74 rfl 29 i HI.out.2 HI.out.1 (some ⟨W1.heap.size, 0, none⟩) 1 1 (by simp [Act.eval, Act.put]) (Nat.le_refl _) none 0 (by simp [Act.eval, Act.put]) ?_ | (go_at_call 26; refine (H26.out _ (by first | exact (HL1.out.1.alloc _).drew | exact HL1.out.1.drew)).mono ?_; rintro e w' ⟨rfl, rfl⟩) | (go_at_call 37; refine H37.out.mono ?_; rintro e w' ⟨rfl, ⟨v, h5⟩, h6⟩)))
      all_goals
        have HF : Hid (Live w' b pb { s with role := 3, leader := s.id, progress := .map (some w.heap.size), log := v, commit := 1 } ∧ Keep [b] w w') := ⟨h5, ((HL1.out.2.alloc _).drew).trans h6⟩
        clear h5 h6
        go_wp2
        go_meet
        case rel => exact ⟨v, HF.out⟩
    case rest =>
      obtain ⟨v, h5, h6⟩ := hcut
      have HC : Hid (Calls Try.prog 67 #[.pointer (some ⟨b, 0, none⟩)] wc fun e w' => e = .returned (.tuple #[]) ∧ (∃ x, Live w' b pb { s with role := 3, leader := s.id, progress := .map (some w.heap.size), log := v, commit := 1, beat := x, beatOut := true }) ∧ Keep [b] wc w') := heartbeat67 b pb _ pp pc wc h5 HP.out
      have HK : Hid (Keep [b] w wc) := h6
      clear h5 h6 H26 H37 HL1 c4
      go_wp2_with fail
      refine HC.out.mono ?_
      rintro e w2 ⟨rfl, ⟨x, h7⟩, h8⟩
      have c39 : w2.cell? ⟨b, 39, none⟩ = some (.slice none 0 0) := h7.node.cell 39
      have HC2 : Hid (Calls Try.prog 68 #[.pointer (some ⟨b, 0, none⟩)] w2 fun e w' => e = .returned (.tuple #[]) ∧ ∃ q, w' = w2.drewN q) := reads68 b pb _ w2 h7
      have HF : Hid (∀ q, Led b pb w (w2.drewN q)) := fun q => ⟨_, h7.drewN q, rfl, (HK.out.trans h8).trans ((keep_drewN w2 q).mono (by simp))⟩
      clear h7 h8 HK HC
      go_wp2_with fail
      go_loop [53] (fun i => i = .int .i64 0) (fun _ => 0)
      case atStart => rfl
      case round =>
        subst hrel
        go_wp2_with fail
        refine HC2.out.mono ?_
        rintro e w3 ⟨rfl, q, rfl⟩
        go_wp2_with fail
        go_end0
        exact ⟨rfl, HF.out q⟩
end Go.Proofs.Qxb6614192a

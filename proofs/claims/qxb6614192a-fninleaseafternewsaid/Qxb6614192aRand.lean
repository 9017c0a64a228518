import Derived.Test.Qxb6614192aRows
import Derived.Test.Qxb6614192aGen
import Derived.WalkKit
import Derived.WalkSpells
import Derived.StillTactics
import Derived.StillTail
import Derived.Laws.Pointers
import Derived.Laws.Rows
import Derived.Below
import Derived.RowKit3
import Derived.Lib.Mul64
import Derived.Laws.Bits64b
import Derived.Laws.Externs
import Derived.Deep.LoopGhost
namespace Go.Proofs.Qxb6614192a
open Go.RowKit

/-- All blocks but those listed are as they were. -/
structure Keep (S : List Nat) (w w' : World) : Prop where
  os : w'.os = w.os
  tape : w'.tape = w.tape
  output : w'.output = w.output
  size : w.heap.size ≤ w'.heap.size
  block : ∀ k, k < w.heap.size → k ∉ S → w'.heap[k]? = w.heap[k]?

theorem Keep.refl (S : List Nat) (w : World) : Keep S w w := ⟨rfl, rfl, rfl, Nat.le_refl _, fun _ _ _ => rfl⟩
theorem Keep.trans {S : List Nat} {a b c : World} (h : Keep S a b) (k : Keep S b c) : Keep S a c :=
  ⟨k.os.trans h.os, k.tape.trans h.tape, k.output.trans h.output, Nat.le_trans h.size k.size, fun i hi hn => (k.block i (Nat.lt_of_lt_of_le hi h.size) hn).trans (h.block i hi hn)⟩
theorem Keep.mono {S T : List Nat} {a b : World} (h : Keep S a b) (hs : ∀ k, k ∈ S → k ∈ T ∨ a.heap.size ≤ k) : Keep T a b :=
  ⟨h.os, h.tape, h.output, h.size, fun k hk hn => h.block k hk (fun hm => by rcases hs k hm with e | e; exact hn e; omega)⟩
theorem Keep.drew {S : List Nat} {a w : World} (h : Keep S a w) : Keep S a w.drew := ⟨h.os, h.tape, h.output, h.size, h.block⟩
theorem Keep.alloc {S : List Nat} {a w : World} (h : Keep S a w) (o : Obj) : Keep S a (w.alloc o) :=
  h.trans ⟨rfl, rfl, rfl, by simp, fun k hk _ => Below.heap_alloc _ _ _ hk⟩
theorem Keep.setCell {S : List Nat} {a w : World} (h : Keep S a w) (p : Addr) (hp : p.block ∈ S) (u : Value) : Keep S a (w.setCell p u) :=
  h.trans ⟨rfl, rfl, rfl, by simp [World.setCell], fun k _ hn => Below.heap_setCell _ _ _ _ (fun e => hn (by rw [e]; exact hp))⟩
/-- A store into a block that was made since. -/
theorem Keep.setNew {S : List Nat} {a w : World} (h : Keep S a w) (p : Addr) (hp : a.heap.size ≤ p.block) (u : Value) : Keep S a (w.setCell p u) :=
  ⟨h.os, h.tape, h.output, by simpa [World.setCell] using h.size, fun k hk hn => (Below.heap_setCell _ _ _ _ (by omega)).trans (h.block k hk hn)⟩
theorem Keep.below {S : List Nat} {a b : World} (h : Keep S a b) (hs : ∀ k, k ∈ S → a.heap.size ≤ k) : Below a.heap.size a b :=
  ⟨h.os, h.tape, h.output, h.size, fun k hk => h.block k hk (fun hm => by have := hs k hm; omega)⟩
theorem Keep.of_below {S : List Nat} {a b : World} (h : Below a.heap.size a b) : Keep S a b := ⟨h.os, h.tape, h.output, h.size, fun k hk _ => h.block k hk⟩

/-! ### math/bits -/
namespace Mul64
theorem maskN (a : Nat) (ha : a < 18446744073709551616) : bits .and .u64 (a : Int) 4294967295 = ((a % 4294967296 : Nat) : Int) := by
  have h := bits_and_u64_nat a 4294967295 ha (by omega)
  have e : a &&& 4294967295 = a % 4294967296 := Nat.and_two_pow_sub_one_eq_mod a 32
  rw [e] at h
  exact h
theorem divN (a : Nat) : (a : Int) / 4294967296 = ((a / 4294967296 : Nat) : Int) := by omega
theorem mulN (a b : Nat) : (a : Int) * (b : Int) = ((a * b : Nat) : Int) := (Int.natCast_mul a b).symm
theorem addN (a b : Nat) : (a : Int) + (b : Int) = ((a + b : Nat) : Int) := (Int.natCast_add a b).symm
theorem wrapN (a : Nat) (ha : a < 18446744073709551616) : IntKind.u64.wrap (a : Int) = (a : Int) := by rw [IntKind.wrap_u64]; omega
theorem wrapM (a : Nat) : IntKind.u64.wrap (a : Int) = ((a % 18446744073709551616 : Nat) : Int) := by rw [IntKind.wrap_u64]; omega
end Mul64

set_option maxHeartbeats 1000000 in
theorem mul76 (x y : Nat) (hx : x < 18446744073709551616) (hy : y < 18446744073709551616) (w : World) :
    Calls Try.prog 76 #[.int .u64 x, .int .u64 y] w fun e w' => e = .returned (.tuple #[.int .u64 ((x * y / 18446744073709551616 : Nat) : Int), .int .u64 ((x * y % 18446744073709551616 : Nat) : Int)]) ∧ w' = w := by
  obtain ⟨bd, bt, bw, hhi⟩ := Lib.mul64_hi x y hx hy
  have ba := Lib.half_mul_le (a := x / 4294967296) (b := y / 4294967296) (by omega) (by omega)
  have bb := Lib.half_mul_le (a := x / 4294967296) (b := y % 4294967296) (by omega) (by omega)
  have bc := Lib.half_mul_le (a := x % 4294967296) (b := y / 4294967296) (by omega) (by omega)
  have ba' : x / 4294967296 * (y / 4294967296) < 18446744073709551616 := by omega
  have bb' : x / 4294967296 * (y % 4294967296) < 18446744073709551616 := by omega
  have bc' : x % 4294967296 * (y / 4294967296) < 18446744073709551616 := by omega
  have bh1 : x / 4294967296 * (y / 4294967296) + (x / 4294967296 * (y % 4294967296) + x % 4294967296 * (y % 4294967296) / 4294967296) / 4294967296 < 18446744073709551616 := by omega
  have bh : x / 4294967296 * (y / 4294967296) + (x / 4294967296 * (y % 4294967296) + x % 4294967296 * (y % 4294967296) / 4294967296) / 4294967296 + ((x / 4294967296 * (y % 4294967296) + x % 4294967296 * (y % 4294967296) / 4294967296) % 4294967296 + x % 4294967296 * (y / 4294967296)) / 4294967296 < 18446744073709551616 := by omega
  go_enter Try.func76, Try.ntmps76
  go_wp2
  simp only [Mul64.maskN x hx, Mul64.maskN y hy, Mul64.divN, Mul64.mulN, Mul64.addN, Mul64.wrapN _ bd, Mul64.wrapN _ bb', Mul64.wrapN _ bt, Mul64.maskN _ bt, Mul64.wrapN _ bc', Mul64.wrapN _ bw, Mul64.wrapN _ ba', Mul64.wrapN _ bh1, Mul64.wrapN _ bh, Mul64.wrapM (x * y)]
  rw [hhi]
  go_ret2
  exact ⟨rfl, rfl⟩

def m64 (x : Int) : Int := x % 18446744073709551616
def d64 (x : Int) : Int := x / 18446744073709551616
theorem add108 (x y c : Int) (hx : 0 ≤ x) (hy : 0 ≤ y) (hc0 : 0 ≤ c) (hc : c ≤ 1) (w : World) :
    (callFunc 108 #[.int .u64 x, .int .u64 y, .int .u64 c]).run Try.prog w =
      .ok (.value (.tuple #[.int .u64 (m64 (x + y + c)), .int .u64 (d64 (x + y + c))])) w := by
  rw [run_callFunc_extern Try.func108 (by kernel_rfl) (by kernel_rfl) (by kernel_rfl) (e := add64Entry) (by kernel_rfl), run_add64 x y c hx hy hc0 hc]
  rfl
theorem add108_0 (x y : Int) (hx : 0 ≤ x) (hy : 0 ≤ y) (w : World) :
    (callFunc 108 #[.int .u64 x, .int .u64 y, .int .u64 0]).run Try.prog w =
      .ok (.value (.tuple #[.int .u64 (m64 (x + y)), .int .u64 (d64 (x + y))])) w := by
  simpa using add108 x y 0 hx hy (Int.le_refl 0) (by decide) w

theorem still_all {P : Program} {id : Nat} {Q : Exit → Act → World → Prop} {a : Act} {w : World} {l : List Oper} (hm : P.follows .mixedOrders = true) (hB : Region.lexB .any l.toArray = true)
    (h : wpStill P l.toArray w.drew (fun a' => Q .normal a' w.drew) l a) : (Code.region id l.toArray true).wp P Q a w := wp_region_still_lit hm hB h
theorem still_tail {P : Program} {id : Nat} {Q : Exit → Act → World → Prop} {a : Act} {w : World} {l : List Oper} (n : Nat) (hm : P.follows .mixedOrders = true) (hB : Region.lexTailB .any l.toArray n = true)
    (h : wpStill P l.toArray w.drew (fun a' => wpList P l.toArray Q (l.drop n) a' w.drew) (l.take n) a) : (Code.region id l.toArray true).wp P Q a w := wp_region_still_tail n hm hB h

/-! ### The generator -/
/-- The generator's state lies in block b. -/
def PcgAt (w : World) (b : Nat) (H L : Int) : Prop := w.heap[b]? = some (.cells #[.int .u64 H, .int .u64 L] 67 (0, 0))
theorem PcgAt.cells {w : World} {b : Nat} {H L : Int} (h : PcgAt w b H L) : w.cell? ⟨b, 0, none⟩ = some (.int .u64 H) ∧ w.cell? ⟨b, 1, none⟩ = some (.int .u64 L) :=
  ⟨cell_of_row w b 0 _ 67 (0, 0) h, cell_of_row w b 1 _ 67 (0, 0) h⟩
theorem PcgAt.frozen {w : World} {b : Nat} {H L : Int} (h : PcgAt w b H L) (j : Nat) : w.frozen? ⟨b, j, none⟩ = false := frozen_of_row w b j _ 67 h
theorem PcgAt.lt {w : World} {b : Nat} {H L : Int} (h : PcgAt w b H L) : b < w.heap.size := (Array.getElem?_eq_some_iff.1 h).1
theorem PcgAt.set {w : World} {b : Nat} {H L : Int} (h : PcgAt w b H L) (x y : Int) : PcgAt ((w.setCell ⟨b, 1, none⟩ (.int .u64 y)).setCell ⟨b, 0, none⟩ (.int .u64 x)) b x y :=
  heap_setCell_same _ _ _ _ _ _ (heap_setCell_same _ _ _ _ _ _ h)

theorem PcgAt.drew {w : World} {b : Nat} {H L : Int} (h : PcgAt w b H L) : PcgAt w.drew b H L := h

theorem mul76k (x : Nat) (hx : x < 18446744073709551616) (w : World) :
    Calls Try.prog 76 #[.int .u64 x, .int .u64 4865540595714422341] w fun e w' => e = .returned (.tuple #[.int .u64 ((x * 4865540595714422341 / 18446744073709551616 : Nat) : Int), .int .u64 ((x * 4865540595714422341 % 18446744073709551616 : Nat) : Int)]) ∧ w' = w :=
  mul76 x 4865540595714422341 hx (by decide) w

/-- The two halves of the generator's next state. -/
def nHi (H L : Nat) : Nat := stp (H * 18446744073709551616 + L) / 18446744073709551616
def nLo (H L : Nat) : Nat := stp (H * 18446744073709551616 + L) % 18446744073709551616
theorem nHi_lt (H L : Nat) : nHi H L < 18446744073709551616 := by unfold nHi; have := stp_lt (H * 18446744073709551616 + L); omega
theorem nLo_lt (H L : Nat) : nLo H L < 18446744073709551616 := Nat.mod_lt _ (by decide)
theorem n_state (H L : Nat) : nHi H L * 18446744073709551616 + nLo H L = stp (H * 18446744073709551616 + L) := by unfold nHi nLo; omega

theorem walk_lo (H L : Nat) (lo0 : Int) (h2 : ((L * 4865540595714422341 % 18446744073709551616 : Nat) : Int) = lo0) : m64 (lo0 + 1442695040888963407) = (nLo H L : Int) := by
  unfold m64 nLo
  rw [← next_lo H L, ← h2]
  omega
theorem walk_hi' (p q a b : Nat) (X Y : Int) (hX : X = (a : Int)) (hY : Y = (b : Int)) :
    m64 (IntKind.u64.wrap ((p : Int) + IntKind.u64.wrap (IntKind.u64.wrap X + IntKind.u64.wrap Y)) + 6364136223846793005 + d64 ((q : Int) + 1442695040888963407)) = ((((p + (a % 18446744073709551616 + b % 18446744073709551616) % 18446744073709551616) % 18446744073709551616 + 6364136223846793005 + (q + 1442695040888963407) / 18446744073709551616) % 18446744073709551616 : Nat) : Int) := by
  subst hX hY
  unfold m64 d64
  simp only [IntKind.wrap_u64]
  omega
theorem walk_hi (H L : Nat) (hi0 lo0 : Int) (h1 : ((L * 4865540595714422341 / 18446744073709551616 : Nat) : Int) = hi0) (h2 : ((L * 4865540595714422341 % 18446744073709551616 : Nat) : Int) = lo0) :
    m64 (IntKind.u64.wrap (hi0 + IntKind.u64.wrap (IntKind.u64.wrap ((H : Int) * 4865540595714422341) + IntKind.u64.wrap ((L : Int) * 2549297995355413924))) + 6364136223846793005 + d64 (lo0 + 1442695040888963407)) = (nHi H L : Int) := by
  unfold nHi
  rw [← next_hi H L, ← h1, ← h2]
  exact walk_hi' _ _ (H * 4865540595714422341) (L * 2549297995355413924) _ _ (by omega) (by omega)

set_option maxRecDepth 100000 in
set_option maxHeartbeats 1000000 in
theorem next107 (b : Nat) (H L : Nat) (w : World) (hH : H < 18446744073709551616) (hL : L < 18446744073709551616) (h : PcgAt w b H L) :
    Calls Try.prog 107 #[.pointer (some ⟨b, 0, none⟩)] w fun e w' => e = .returned (.tuple #[.int .u64 (nHi H L : Nat), .int .u64 (nLo H L : Nat)]) ∧ PcgAt w' b (nHi H L : Nat) (nLo H L : Nat) ∧ Keep [b] w w' := by
  obtain ⟨c0, c1⟩ := h.cells
  have hf := h.frozen
  have HH : Hid (H < 18446744073709551616) := hH
  have HL : Hid (L < 18446744073709551616) := hL
  have HP : Hid (PcgAt w b H L) := h
  clear hH hL h
  go_enter Try.func107, Try.ntmps107
  go_wp2_with fail
  refine (mul76k L HL.out w).mono ?_
  rintro e w1 ⟨rfl, rfl⟩
  generalize h1 : ((L * 4865540595714422341 / 18446744073709551616 : Nat) : Int) = hi0
  generalize h2 : ((L * 4865540595714422341 % 18446744073709551616 : Nat) : Int) = lo0
  have hlo := walk_lo H L lo0 h2
  have hhi := walk_hi H L hi0 lo0 h1 h2
  have HLO : Hid (m64 (lo0 + 1442695040888963407) = (nLo H L : Int)) := hlo
  have l0 : 0 ≤ lo0 := by rw [← h2]; omega
  have dd0 : 0 ≤ d64 (lo0 + 1442695040888963407) := by unfold d64; omega
  have dd1 : d64 (lo0 + 1442695040888963407) ≤ 1 := by unfold d64; rw [← h2]; omega
  clear hlo h1 h2
  go_wp2_with fail
  refine still_all (by kernel_rfl) (by kernel_rfl) ?_
  repeat still_step
  refine wpStill_nil ?_
  have hx0 : 0 ≤ IntKind.u64.wrap (hi0 + IntKind.u64.wrap (IntKind.u64.wrap ((H : Int) * 4865540595714422341) + IntKind.u64.wrap ((L : Int) * 2549297995355413924))) := by simp only [IntKind.wrap_u64]; omega
  generalize IntKind.u64.wrap (hi0 + IntKind.u64.wrap (IntKind.u64.wrap ((H : Int) * 4865540595714422341) + IntKind.u64.wrap ((L : Int) * 2549297995355413924))) = X at *
  have HHI : Hid (m64 (X + 6364136223846793005 + d64 (lo0 + 1442695040888963407)) = (nHi H L : Int)) := hhi
  clear hhi
  go_wp2_with (first | simp only [add108_0 lo0 1442695040888963407 l0 (by decide)] | simp only [add108 X 6364136223846793005 (d64 (lo0 + 1442695040888963407)) hx0 (by decide) dd0 dd1])
  have hhi := HHI.out
  have hlo := HLO.out
  generalize nHi H L = NH at *
  generalize nLo H L = NL at *
  generalize m64 (X + 6364136223846793005 + d64 (lo0 + 1442695040888963407)) = VH at *
  generalize m64 (lo0 + 1442695040888963407) = VL at *
  subst hhi hlo
  have hp := (HP.out.set NH NL).drew
  have hk := (((Keep.refl [b] w1).setCell ⟨b, 1, none⟩ (by simp) (.int .u64 NL)).setCell ⟨b, 0, none⟩ (by simp) (.int .u64 NH)).drew
  go_ret2
  exact ⟨rfl, hp, hk⟩

/-- What the generator draws out of its state, as the program reckons it. -/
def out (X Y : Int) : Int :=
  IntKind.u64.wrap (bits BinOp.xor IntKind.u64 (IntKind.u64.wrap (bits BinOp.xor IntKind.u64 X (X / 4294967296) * 15750249268501108917)) (IntKind.u64.wrap (bits BinOp.xor IntKind.u64 X (X / 4294967296) * 15750249268501108917) / 281474976710656) * bits BinOp.or IntKind.u64 Y 1)
theorem out_goal : out 1 8648705766431031777 = 1 := by kernel_rfl
theorem out_nonneg (X Y : Int) : 0 ≤ out X Y := by unfold out; rw [IntKind.wrap_u64]; exact Int.emod_nonneg _ (by decide)
theorem out_lt (X Y : Int) : out X Y < 18446744073709551616 := by unfold out; rw [IntKind.wrap_u64]; exact Int.emod_lt_of_pos _ (by decide)

set_option maxRecDepth 100000 in
set_option maxHeartbeats 1000000 in
theorem draw106 (b : Nat) (H L : Nat) (w : World) (hH : H < 18446744073709551616) (hL : L < 18446744073709551616) (h : PcgAt w b H L) :
    Calls Try.prog 106 #[.pointer (some ⟨b, 0, none⟩)] w fun e w' => e = .returned (.int .u64 (out (nHi H L) (nLo H L))) ∧ PcgAt w' b (nHi H L : Nat) (nLo H L : Nat) ∧ Keep [b] w w' := by
  have HN := next107 b H L w hH hL h
  have HN' : Hid (Calls Try.prog 107 #[.pointer (some ⟨b, 0, none⟩)] w fun e w' => e = .returned (.tuple #[.int .u64 (nHi H L : Nat), .int .u64 (nLo H L : Nat)]) ∧ PcgAt w' b (nHi H L : Nat) (nLo H L : Nat) ∧ Keep [b] w w') := HN
  clear HN
  generalize hx : nHi H L = X at *
  generalize hy : nLo H L = Y at *
  clear hx hy
  go_enter Try.func106, Try.ntmps106
  go_wp2_with fail
  refine HN'.out.mono ?_
  rintro e w1 ⟨rfl, hp, hk⟩
  have HP : Hid (PcgAt w1 b X Y) := hp
  clear hp
  go_wp2_with fail
  go_ret
  exact ⟨rfl, HP.out, hk⟩
end Go.Proofs.Qxb6614192a

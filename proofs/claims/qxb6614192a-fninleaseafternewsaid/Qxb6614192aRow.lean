import Derived.Test.Qxb6614192aSort
import Derived.Deep.RegionLaw
import Derived.Deep.DeepCutAuto
import Derived.Deep.AppendLies
import Derived.StillTail
import Derived.WalkKit
namespace Go.Proofs.Qxb6614192a
open Go.RowKit

def us (l : List Int) : List Value := l.map (Value.int .u64)
theorem us_length (l : List Int) : (us l).length = l.length := by simp [us]
theorem us_append (a b : List Int) : us (a ++ b) = us a ++ us b := by simp [us]
theorem us_one (l : List Int) : ∀ u ∈ us l, u.oneCell' = true := by
  intro u hu
  simp [us] at hu
  obtain ⟨x, _, rfl⟩ := hu
  rfl

/-! ### Appending nothing -/
theorem run_append_zero {P : Program} (w : World) (t ty e : TypeId) (i : TypeInfo) (ht : P.underlying t = some (.slice e)) (hi : P.info? e = some i) (p : Option Addr) (n cap : Nat) (hle : n ≤ cap) (q : Option Addr) (c : Nat) :
    (Builtin.append_ #[t, t] ty #[.slice p n cap, .slice q 0 c]).run P w = .ok (.slice p n cap) w := by
  cases p <;> cases q <;> simp [Builtin.append_, run_underlying ht, sizeOf, typeInfo, hi, Builtin.lenOf, Builtin.firstCells, hle, storeCells, loadCells, loadCellsFrom]
theorem step_append_zero {P : Program} {w : World} {ops : Array Oper} {o : Oper} {a : Act} {K : Act → World → Prop} {Q : Exit → Act → World → Prop} {E : Prop} (hgd : o.guard = none) (s x : Operand) (t : TypeId)
    (ho : o.op = .call { callee := .builtin .append, args := #[s, x], argTypes := #[t, t] }) (e : TypeId) (i : TypeInfo) (ht : P.underlying t = some (.slice e)) (hi : P.info? e = some i)
    (p : Option Addr) (n cap : Nat) (hs : a.eval s = .slice p n cap) (hle : n ≤ cap) (q : Option Addr) (c : Nat) (hx : a.eval x = .slice q 0 c)
    (h : K (a.put o.dst (.slice p n cap)) w) :
    if Region.wanted o (yielded ops a.tmps) = true then Oper.wp P o a w K Q else E := by
  have hw : Region.wanted o (yielded ops a.tmps) = true := by simp [Region.wanted, hgd]
  rw [if_pos hw]
  have hr := run_append_zero (P := P) w t o.type e i ht hi p n cap hle q c
  unfold Oper.wp execOp
  simp only [ho, resolve, invoke, builtin, Sem.run_bind, Sem.run_pure, Result.andThen_ok, List.map_toArray, List.map_cons, List.map_nil, hs, hx, hr]
  exact h

/-- A row of numbers, of one's own from block B on. -/
def Row (w : World) (B : Nat) (v : Value) (l : List Int) : Prop := w.ownsRow B 22 1 v l.length (us l)
theorem Row.nil (w : World) (B : Nat) : Row w B (.slice none 0 0) [] := World.ownsRow_nil _ _ _ _
theorem Row.slice {w : World} {B : Nat} {v : Value} {l : List Int} (h : Row w B v l) : ∃ p c, v = .slice p l.length c ∧ l.length ≤ c ∧ c ≤ maxLen := by
  rcases h.2 with ⟨h1, h2⟩ | ⟨g, cap, cur, h1, _, _, h2, h3, _⟩
  · exact ⟨none, 0, by rw [h2]; exact h1, by omega, by omega⟩
  · exact ⟨_, _, h1, h2, h3⟩
theorem Row.lt {w : World} {B : Nat} {v : Value} {l : List Int} (h : Row w B v l) (g : Nat) (e : v.ownBlock = some g) : B ≤ g ∧ g < w.heap.size := World.ownsRow.lt h g e
theorem Row.keep {w w' : World} {B : Nat} {v : Value} {l : List Int} {S : List Nat} (h : Row w B v l) (hk : Keep S w w') (hn : ∀ g, v.ownBlock = some g → g ∉ S) : Row w' B v l := by
  refine ⟨h.1, ?_⟩
  rcases h.2 with h2 | ⟨g, cap, cur, rfl, h1, h2, h3⟩
  · exact .inl h2
  · refine .inr ⟨g, cap, cur, rfl, h1, ?_, h3⟩
    rw [hk.block g (Array.getElem?_eq_some_iff.1 h2).1 (hn g rfl)]; exact h2
theorem Row.cell {w : World} {B : Nat} {p : Option Addr} {n c : Nat} {l : List Int} (h : Row w B (.slice p n c) l) (k : Nat) (hk : k < l.length) : ∃ g, p = some ⟨g, 0, none⟩ ∧ B ≤ g ∧ n = l.length ∧ w.cell? ⟨g, k, none⟩ = some (.int .u64 (l.getD k 0)) := by
  rcases h.2 with ⟨_, h0⟩ | ⟨g, cap, cur, hv, h1, h2, h3, h4, h5, h6⟩
  · omega
  · simp only [Value.slice.injEq] at hv
    obtain ⟨rfl, rfl, rfl⟩ := hv
    refine ⟨g, rfl, h1, rfl, ?_⟩
    rw [cell_of_row w g k _ 22 (0, 0) h2]
    have e : (us l)[k]? = some (.int .u64 (l.getD k 0)) := by
      simp [us, List.getElem?_eq_getElem hk]
    rw [← h6] at e
    rw [List.getElem?_take_of_lt (by omega)] at e
    simpa using e
theorem Row.news {w : World} {B : Nat} {p : Option Addr} {n c : Nat} {l : List Int} (h : Row w B (.slice p n c) l) (h0 : 0 < l.length) : ∃ g, p = some ⟨g, 0, none⟩ ∧ B ≤ g ∧ g < w.heap.size ∧ ∀ j u, (us l)[j]? = some u → w.cell? ((⟨g, 0, none⟩ : Addr).add j) = some u := by
  obtain ⟨g, rfl, hg, _, _⟩ := h.cell 0 h0
  refine ⟨g, rfl, hg, (h.lt g rfl).2, ?_⟩
  intro j u hu
  have hj : j < l.length := by have := (List.getElem?_eq_some_iff.1 hu).1; rwa [us_length] at this
  obtain ⟨g', e', _, _, hc⟩ := h.cell j hj
  simp at e'
  subst e'
  rw [Addr.add_lit, Nat.zero_add, hc]
  rw [← hu]
  simp [us, List.getElem?_eq_getElem hj]

theorem own_le {w : World} {B : Nat} {e : TypeId} {sz n cap : Nat} {a : Addr} {xs : List Value} (h : w.ownsRow B e sz (.slice (some a) n cap) n xs) : n ≤ cap := by
  rcases h.2 with ⟨h1, _⟩ | ⟨g, cp, cur, h1, _, _, h2, _⟩
  · simp at h1
  · simp only [Value.slice.injEq] at h1; omega

theorem heap_alloc_at (w : World) (o : Obj) (k : Nat) (h : w.heap.size = k) : (w.alloc o).heap[k]? = some o := by subst h; exact heap_alloc_new w o
/-- In setMembers: the two boxes. -/
structure Boxed (B : Nat) (w : World) (b : Nat) (p : Option Addr) (n c : Nat) : Prop where
  ptr : w.heap[B]? = some (.cells #[.pointer (some ⟨b, 0, none⟩)] 32 (0, 0))
  mem : w.heap[B + 1]? = some (.cells #[.slice p n c, .slice none 0 0, .slice none 0 0] 35 (0, 0))
theorem Boxed.keep {B : Nat} {w w' : World} {b n c : Nat} {p : Option Addr} {S : List Nat} (h : Boxed B w b p n c) (hk : Keep S w w') (h1 : B ∉ S) (h2 : B + 1 ∉ S) : Boxed B w' b p n c :=
  ⟨(hk.block B (Array.getElem?_eq_some_iff.1 h.ptr).1 h1).trans h.ptr, (hk.block (B + 1) (Array.getElem?_eq_some_iff.1 h.mem).1 h2).trans h.mem⟩
theorem Boxed.cells {B : Nat} {w : World} {b n c : Nat} {p : Option Addr} (h : Boxed B w b p n c) : w.cell? ⟨B, 0, none⟩ = some (.pointer (some ⟨b, 0, none⟩)) ∧ w.cell? ⟨B + 1, 0, none⟩ = some (.slice p n c) ∧ w.cell? ⟨B + 1, 1, none⟩ = some (.slice none 0 0) ∧ w.cell? ⟨B + 1, 2, none⟩ = some (.slice none 0 0) :=
  ⟨cell_of_row w B 0 _ 32 (0, 0) h.ptr, cell_of_row w (B + 1) 0 _ 35 (0, 0) h.mem, cell_of_row w (B + 1) 1 _ 35 (0, 0) h.mem, cell_of_row w (B + 1) 2 _ 35 (0, 0) h.mem⟩
theorem Boxed.lt {B : Nat} {w : World} {b n c : Nat} {p : Option Addr} (h : Boxed B w b p n c) : B + 1 < w.heap.size := (Array.getElem?_eq_some_iff.1 h.mem).1
theorem Keep.grown {S : List Nat} {a w w' : World} {row : Option Nat} (h : Keep S a w) (hg : w.grownBy w' row) (hr : ∀ g, row = some g → a.heap.size ≤ g) : Keep S a w' :=
  ⟨hg.os.trans h.os, hg.tape.trans h.tape, hg.output.trans h.output, Nat.le_trans h.size hg.size, fun k hk hn => (hg.block k (Nat.lt_of_lt_of_le hk h.size) (fun e => by have := hr k e.symm; omega)).trans (h.block k hk hn)⟩

theorem keep_grownBy {w w' : World} {row : Option Nat} (h : w.grownBy w' row) : Keep row.toList w w' :=
  ⟨h.os, h.tape, h.output, h.size, fun k hk hn => h.block k hk (fun e => hn (by rw [← e]; simp))⟩
/-- While a row of the node's grows (from the world wb on). -/
structure Mid (wb : World) (b pb : Nat) (wr : World) (t : N) (v : Value) (P : List Int) : Prop where
  live : Live wr b pb t
  keep : Keep [b] wb wr
  row : Row wr wb.heap.size v P
  hb : b < wb.heap.size
  hr : t.rb < wb.heap.size
  hp : pb < wb.heap.size
theorem Mid.drew {wb wr : World} {b pb : Nat} {t : N} {v : Value} {P : List Int} (h : Mid wb b pb wr t v P) : Mid wb b pb wr.drew t v P := ⟨h.live.drew, h.keep.drew, h.row, h.hb, h.hr, h.hp⟩
theorem Mid.put {wb wr : World} {b pb : Nat} {t t' : N} {v : Value} {P : List Int} (h : Mid wb b pb wr t v P) (j : Nat) (u : Value) (e : (nodeCells t).setIfInBounds j u = nodeCells t') (hr : t'.rb = t.rb) : Mid wb b pb (wr.setCell ⟨b, j, none⟩ u) t' v P :=
  ⟨h.live.put j u e hr, h.keep.setCell _ (by simp) _, h.row.keep (S := [b]) ((Keep.refl _ _).setCell _ (by simp) _) (fun g e => by have := (h.row.lt g e).1; have := h.hb; simp; omega), h.hb, by rw [hr]; exact h.hr, h.hp⟩
theorem Mid.appended {wb wr w1 : World} {b pb : Nat} {t t' : N} {v : Value} {P : List Int} {o : Obj} {x : Int} {g2 cap2 : Nat} (h : Mid wb b pb wr t v P)
    (hown : w1.ownsRow wb.heap.size 22 1 (.slice (some ⟨g2, 0, none⟩) (P.length + 1) cap2) (P.length + 1) (us P ++ us [x])) (hg : (wr.alloc o).drew.grownBy w1 v.ownBlock) (j : Nat)
    (e : (nodeCells t).setIfInBounds j (.slice (some ⟨g2, 0, none⟩) (P.length + 1) cap2) = nodeCells t') (hr : t'.rb = t.rb) :
    Mid wb b pb (w1.setCell ⟨b, j, none⟩ (.slice (some ⟨g2, 0, none⟩) (P.length + 1) cap2)) t' (.slice (some ⟨g2, 0, none⟩) (P.length + 1) cap2) (P ++ [x]) := by
  have hrow : Row w1 wb.heap.size (.slice (some ⟨g2, 0, none⟩) (P.length + 1) cap2) (P ++ [x]) := by
    unfold Row; rw [List.length_append, us_append]; exact hown
  have hn : ∀ k, k < wb.heap.size → k ∉ v.ownBlock.toList := by
    intro k hk hm
    have : v.ownBlock = some k := by simpa using hm
    have := (h.row.lt k this).1
    omega
  have hL : Live w1 b pb t := (h.live.alloc o).drew.keep (keep_grownBy hg) (hn _ h.hb) (hn _ h.hr) (hn _ h.hp)
  have hK : Keep [b] wb w1 := ((h.keep.alloc o).drew).grown hg (fun g e => (h.row.lt g e).1)
  exact ⟨hL.put j _ e hr, hK.setCell _ (by simp) _, hrow.keep (S := [b]) ((Keep.refl _ _).setCell _ (by simp) _) (fun g e => by have := (hrow.lt g e).1; have := h.hb; simp; omega), h.hb, by rw [hr]; exact h.hr, h.hp⟩
theorem take_filter (vs : List Int) (k : Nat) (id : Int) (h : k < vs.length) : (vs.take (k + 1)).filter (· != id) = (vs.take k).filter (· != id) ++ (if vs.getD k 0 = id then [] else [vs.getD k 0]) := by
  have e : vs.getD k 0 = vs[k] := by simp [List.getD_eq_getElem?_getD, List.getElem?_eq_getElem h]
  rw [List.take_succ_eq_append_getElem h, List.filter_append, e]
  by_cases hx : vs[k] = id
  · simp [hx]
  · simp [hx]

end Go.Proofs.Qxb6614192a

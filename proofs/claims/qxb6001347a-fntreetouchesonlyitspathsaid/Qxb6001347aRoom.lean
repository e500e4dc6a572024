/-
  THE WALKS OF (*window).length (function 30), (*window).makeRoom (27), xz.ZZMakeRoom (13), cloneBytes (12), under the laws' own premises.
-/
import Derived.Test.Qxb6001347aProg
import Derived.WalkKit
import Derived.WalkSpells
import Derived.WalkLawsBesides
import Derived.BigQuiet
import Derived.Deep.QuietTactic
import Derived.Deep.OwnRows
import Derived.Deep.RegionHeldLaw
import Derived.Deep.AppendLies
import Derived.Maps.Range
import Derived.Maps.RangeWalk
import Derived.Laws.CopyOwn
import Derived.Outline
namespace Go.Proofs.Qxb6001347a
open Go.RowKit
set_option linter.unusedVariables false

/-- 'copy(dst, src)', dst AT THE HEAD OF A ROW THAT IS KNOWN WHOLE, as one step of a region that draws: the row behind it by the index; nothing else has turned. -/
theorem step_copy_rows {P : Program} {ops : Array Oper} {o : Oper} {a : Act} {w : World} {K : Act → World → Prop} {Q : Exit → Act → World → Prop} {E : Prop} (hgd : o.guard = none) (d s : Operand) (dT sT : TypeId)
    (ho : o.op = .call { callee := .builtin .copy, args := #[d, s], argTypes := #[dT, sT] }) (elem : TypeId) (hu : P.underlying dT = some (.slice elem)) (hsz : (P.info? elem).map (·.size) = some 1)
    (g dLen dCap : Nat) (sp : Option Addr) (sLen sCap : Nat) (hd : a.eval d = .slice (some ⟨g, 0, none⟩) dLen dCap) (hs : a.eval s = .slice sp sLen sCap)
    (N : Nat) (t : TypeId) (f : Nat → Value) (hrow : w.rowIs g t N f) (m : Nat) (hm : m = Nat.min sLen dLen) (hmN : m ≤ N) (c : Nat → Value) (hone : ∀ i, i < m → (c i).oneCell' = true)
    (hsrc : ∀ j, j < m → ∃ ad, sp = some ad ∧ w.cell? (ad.add j) = some (c j))
    (h : ∀ w', w'.rowIs g t N (fun i => if i < m then c i else f i) → w.grownBy w' (some g) → w'.heap.size = w.heap.size → K (a.put o.dst (goInt m)) w') :
    if Region.wanted o (yielded ops a.tmps) = true then Oper.wp P o a w K Q else E := by
  have hw : Region.wanted o (yielded ops a.tmps) = true := by simp [Region.wanted, hgd]
  rw [if_pos hw]
  by_cases h0 : m = 0
  · subst h0
    have hrun := run_copy_none (P := P) w dT sT o.type elem (some ⟨g, 0, none⟩) sp dLen dCap sLen sCap hu hsz hm.symm
    unfold Oper.wp
    simp [execOp, ho, resolve, invoke, builtin, hd, hs, hrun, Result.andThen]
    exact h w (hrow.congr fun i _ => by simp) (World.grownBy.refl _ _) rfl
  · obtain ⟨ad, rfl, _⟩ := hsrc 0 (by omega)
    obtain ⟨cur, hg, hN, hc⟩ := hrow
    have hlen : ((List.range m).map c).length = m := by simp
    have hcs : ∀ j v, ((List.range m).map c)[j]? = some v → j < m ∧ v = c j := by
      intro j v hj
      have hlt : j < m := by
        have := (List.getElem?_eq_some_iff.1 hj).1
        simpa using this
      refine ⟨hlt, ?_⟩
      simp [hlt] at hj
      exact hj.symm
    have hrun := run_copy_row (P := P) w dT sT o.type elem g 0 dLen dCap ad sLen sCap cur t ((List.range m).map c) hu hsz hg (by rw [hlen]; exact hm)
      (fun j v hj => by
        obtain ⟨hlt, rfl⟩ := hcs j v hj
        obtain ⟨ad', e, hc'⟩ := hsrc j hlt
        obtain rfl := Option.some.inj e
        exact hc') (by rw [hlen]; omega) (fun v hv => by
        obtain ⟨j, hj, rfl⟩ := List.mem_map.1 hv
        exact hone j (by simpa using hj))
    rw [hlen] at hrun
    unfold Oper.wp
    simp [execOp, ho, resolve, invoke, builtin, hd, hs, hrun, Result.andThen]
    refine h _ ⟨_, setRow_heap w g _ _ t _ hg, ?_, ?_⟩ ⟨rfl, rfl, rfl, by simp, fun k hk hne => setRow_other w g k _ (fun e => hne (by rw [e]))⟩ (by simp)
    · simp; omega
    · intro i hi
      by_cases hlt : i < m
      · simp [hlt, List.getElem?_append, hlen]
      · have : m + (i - m) = i := by omega
        simp [hlt, List.getElem?_append, this]
        have := hc i hi
        simpa using this

set_option maxHeartbeats 400000 in
theorem length_any (W : Nat) (size : Int) (w : World) (h0 : 0 ≤ size) (h1 : size ≤ 65536) (hc : w.cell? ⟨W, 3, none⟩ = some (.int .i64 size)) :
    Calls Try.prog 30 #[.pointer (some ⟨W, 0, none⟩)] w fun e w' => e = .returned (.int .i64 (size + 262144)) ∧ ∃ n, w' = w.drewN n := by
  have hm : max (size / 4) 262144 = 262144 := by omega
  go_enter Try.func30, Try.ntmps30
  go_wp2
  go_quiet (fail)
  go_wp2
  go_ret
  exact ⟨rfl, nq, rfl⟩

/-- .. the full length under a name of its own. -/
theorem length_to (L W s : Nat) (w : World) (hL : L = s + 262144) (hs : s ≤ 65536) (hc : w.cell? ⟨W, 3, none⟩ = some (.int .i64 (s : Int))) :
    Calls Try.prog 30 #[.pointer (some ⟨W, 0, none⟩)] w fun e w' => e = .returned (.int .i64 (L : Int)) ∧ ∃ n, w' = w.drewN n := by
  have e : ((L : Nat) : Int) = (s : Int) + 262144 := by omega
  rw [e]
  exact length_any W s w (by omega) (by omega) hc

theorem info5 : (Try.prog.info? 5).map (fun i => (i.zero, i.size, i.bytes)) = some (some (.int .u8 0), 1, 1) := by kernel_rfl
theorem size5 : (Try.prog.info? 5).map (·.size) = some 1 := by kernel_rfl

set_option maxHeartbeats 400000 in
/-- There is room: nothing turns. -/
theorem makeRoom_room (W : Nat) (ao : Option Addr) (n cap : Nat) (pos : Int) (w : World) (h0 : 0 ≤ pos) (h1 : pos < (n : Int))
    (c0 : w.cell? ⟨W, 0, none⟩ = some (.slice ao n cap)) (c1 : w.cell? ⟨W, 1, none⟩ = some (.int .i64 pos)) :
    Calls Try.prog 27 #[.pointer (some ⟨W, 0, none⟩)] w fun e w' => e = .returned (.tuple #[]) ∧ ∃ n, w' = w.drewN n := by
  go_enter Try.func27, Try.ntmps27
  go_wp2
  go_quiet (fail)
  go_wp2
  exact bodyPost_ret (v := .tuple #[]) (results_none (by rfl) _ _ _) rfl ⟨rfl, nq, rfl⟩

/-- The window's five fields in block W. -/
def Win (w : World) (W : Nat) (v : Value) (pos read size origin : Int) : Prop :=
  w.heap[W]? = some (.cells #[v, .int .i64 pos, .int .i64 read, .int .i64 size, .int .i64 origin] 51 (0, 0))

theorem Win.cells {w : World} {W : Nat} {v : Value} {pos read size origin : Int} (h : Win w W v pos read size origin) :
    W < w.heap.size ∧ w.cell? ⟨W, 0, none⟩ = some v ∧ w.cell? ⟨W, 1, none⟩ = some (.int .i64 pos) ∧ w.cell? ⟨W, 2, none⟩ = some (.int .i64 read) ∧ w.cell? ⟨W, 3, none⟩ = some (.int .i64 size) ∧ w.cell? ⟨W, 4, none⟩ = some (.int .i64 origin) ∧ ∀ i, w.frozen? ⟨W, i, none⟩ = false := by
  unfold Win at h
  refine ⟨(Array.getElem?_eq_some_iff.1 h).1, ?_, ?_, ?_, ?_, ?_, fun i => ?_⟩ <;> simp [World.cell?, World.frozen?, h]

theorem Win.set0 {w : World} {W : Nat} {v : Value} {pos read size origin : Int} (h : Win w W v pos read size origin) (v' : Value) : Win (w.setCell ⟨W, 0, none⟩ v') W v' pos read size origin := by
  unfold Win at *; simp [World.setCell, Array.getElem?_modify, h]
theorem Win.set1 {w : World} {W : Nat} {v : Value} {pos read size origin : Int} (h : Win w W v pos read size origin) (x : Int) : Win (w.setCell ⟨W, 1, none⟩ (.int .i64 x)) W v x read size origin := by
  unfold Win at *; simp [World.setCell, Array.getElem?_modify, h]
theorem Win.set2 {w : World} {W : Nat} {v : Value} {pos read size origin : Int} (h : Win w W v pos read size origin) (x : Int) : Win (w.setCell ⟨W, 2, none⟩ (.int .i64 x)) W v pos x size origin := by
  unfold Win at *; simp [World.setCell, Array.getElem?_modify, h]
theorem Win.set4 {w : World} {W : Nat} {v : Value} {pos read size origin : Int} (h : Win w W v pos read size origin) (x : Int) : Win (w.setCell ⟨W, 4, none⟩ (.int .i64 x)) W v pos read size x := by
  unfold Win at *; simp [World.setCell, Array.getElem?_modify, h]

theorem grownBy_setCell {w w' : World} {row : Option Nat} (h : w.grownBy w' row) (a : Addr) (v : Value) (ha : row = some a.block) : w.grownBy (w'.setCell a v) row :=
  ⟨h.os, h.tape, h.output, by simpa [World.setCell] using h.size, fun k hk hne => (Below.heap_setCell _ _ _ _ (fun e => hne (by rw [e, ha]))).trans (h.block k hk hne)⟩

theorem grow_facts (w : World) (k W n L : Nat) (g : Option Nat) (f : Nat → Int) (v : Value) (pos read size origin : Int) (hb : Win w W v pos read size origin) (hg : ∀ b, g = some b → w.rowIs b 5 n (fun i => .int .u8 (f i))) (w2 : World)
    (hw2 : (w.drewN k).alloc (Obj.cells (madeCells #[Value.int IntKind.u8 0] L) 5) = w2) :
    w2.heap.size = w.heap.size + 1 ∧ Win w2 W v pos read size origin ∧ w.grownBy w2 none ∧ w2.rowIs w.heap.size 5 L (fun _ => .int .u8 0) ∧ ∀ b, g = some b → w2.rowIs b 5 n (fun i => .int .u8 (f i)) := by
  subst hw2
  have hbel : Below w.heap.size w ((w.drewN k).alloc (Obj.cells (madeCells #[Value.int IntKind.u8 0] L) 5)) := Below.alloc (below_drewN (Below.refl _ _) k) (by simp) _
  refine ⟨by simp, (hbel.block W hb.cells.1).trans hb, ⟨hbel.os, hbel.tape, hbel.output, hbel.size, fun i hi _ => hbel.block i hi⟩, ?_, fun b e => (hg b e).of_block (hbel.block b (hg b e).lt)⟩
  have := World.rowIs_made (w.drewN k) (.int .u8 0) L 5
  simpa using this

set_option maxHeartbeats 1000000 in
/-- No room, and the buffer is short of the full length: a new buffer. -/
theorem makeRoom_grow (W : Nat) (g : Nat) (n s L : Nat) (read origin : Int) (f : Nat → Int) (w : World) (hs : s ≤ 65536) (hL : L = s + 262144) (hn : n < L) (hg : w.rowIs g 5 n (fun i => .int .u8 (f i))) (hne : g ≠ W)
    (hb : Win w W (.slice (some ⟨g, 0, none⟩) n n) n read s origin) :
    Calls Try.prog 27 #[.pointer (some ⟨W, 0, none⟩)] w fun e w' => e = .returned (.tuple #[]) ∧ Win w' W (.slice (some ⟨w.heap.size, 0, none⟩) L L) n read s origin ∧
      w'.rowIs w.heap.size 5 L (fun i => if i < n then .int .u8 (f i) else .int .u8 0) ∧ w.grownBy w' (some W) := by
  obtain ⟨hW, c0, c1, c2, c3, c4, fz⟩ := hb.cells
  have hmk := run_make_row' (P := Try.prog) 22 5 (.int .u8 0) 1 Try.underlying22 info5 rfl .i64 .i64 L (by omega) (by omega)
  have hl1 : s + 262144 ≤ L := by omega
  have hl2 : L ≤ s + 262144 := by omega
  have hlen := fun w' hc => length_to L W s w' hL hs hc
  have HB : Hid (Win w W (.slice (some ⟨g, 0, none⟩) n n) n read s origin) := hb
  have HG : Hid (w.rowIs g 5 n (fun i => .int .u8 (f i))) := hg
  clear hL hb hg
  go_enter Try.func27, Try.ntmps27
  go_wp2
  go_quiet (fail)
  go_wp2_with (go_at_call 30; refine (hlen _ (by simpa using c3)).mono ?_; rintro e w' ⟨rfl, m, rfl⟩)
  generalize hw2 : (w.drewN (nq + m)).alloc (Obj.cells (madeCells #[Value.int IntKind.u8 0] L) 5) = w2
  obtain ⟨sz2, hb2, hgr, hnew, hold⟩ := grow_facts w (nq + m) W n L (some g) f _ _ _ _ _ HB.out (fun b e => by cases e; exact HG.out) w2 hw2
  have hold := hold g rfl
  have hgW := HG.out.lt
  clear hw2 c0 c1 c2 c3 c4 fz hmk HB HG hlen
  obtain ⟨hW2, b0, b1, b2, b3, b4, bz⟩ := hb2.cells
  have hmin : n = Nat.min n L := (Nat.min_eq_left (by omega)).symm
  have hsrc : ∀ j, j < n → ∃ ad, (some ⟨g, 0, none⟩ : Option Addr) = some ad ∧ w2.cell? (ad.add j) = some (.int .u8 (f j)) := fun j hj => ⟨_, rfl, by rw [Addr.add_lit, Nat.zero_add]; exact hold.cell hj⟩
  have HH : Hid (n = Nat.min n L ∧ ∀ j, j < n → ∃ ad, (some ⟨g, 0, none⟩ : Option Addr) = some ad ∧ w2.cell? (ad.add j) = some (.int .u8 (f j))) := ⟨hmin, hsrc⟩
  clear hmin hsrc
  have hne2 : some W ≠ some w.heap.size := by simp; omega
  go_region_held_law (fun w' => w'.cell? ⟨W, 0, none⟩ = some (.slice (some ⟨g, 0, none⟩) n n) ∧ w'.cell? ⟨W, 1, none⟩ = some (.int .i64 n))
    (first | exact ⟨b0, b1⟩ | exact ⟨(hgrow4.cell_far ⟨W, 0, none⟩ hW2 hne2).trans b0, (hgrow4.cell_far ⟨W, 1, none⟩ hW2 hne2).trans b1⟩)
    ((refine step_copy_rows rfl (.tmp 26) (.tmp 35) 22 22 rfl 5 Try.underlying22 size5 w.heap.size L L (some ⟨g, 0, none⟩) n n (by simp [Act.eval]) (by simp [Act.eval]) L 5 (fun _ => .int .u8 0) (by exact hnew) n HH.out.1 (by omega) (fun i => .int .u8 (f i)) (fun _ _ => rfl) (by exact HH.out.2) ?_; intro w4 hg4 hgrow4 hsz4))
  have hb4 : Win w4 W (.slice (some ⟨g, 0, none⟩) n n) n read s origin := (hgrow4.block W hW2 hne2).trans hb2
  have hgr4 : w.grownBy w4 none := ⟨hgrow4.os.trans hgr.os, hgrow4.tape.trans hgr.tape, hgrow4.output.trans hgr.output, Nat.le_trans hgr.size hgrow4.size, fun k hk _ => (hgrow4.block k (Nat.lt_of_lt_of_le hk hgr.size) (by simp; omega)).trans (hgr.block k hk (by simp))⟩
  obtain ⟨_, d0, -, -, -, -, dz⟩ := hb4.cells
  have dz0 := dz 0
  have H4 : Hid (Win w4 W (.slice (some ⟨g, 0, none⟩) n n) n read s origin ∧ w.grownBy w4 none ∧ w4.rowIs w.heap.size 5 L (fun i => if i < n then .int .u8 (f i) else .int .u8 0)) := ⟨hb4, hgr4, hg4⟩
  clear hgrow4 hgr hnew hold b0 b1 b2 b3 b4 bz hb2 hb4 hgr4 hg4 HH dz
  go_wp2
  obtain ⟨hb4, hgr4, hg4⟩ := H4.out
  exact bodyPost_ret (v := .tuple #[]) (results_none (by rfl) _ _ _) rfl ⟨rfl, hb4.set0 _, hg4.setOther (a := ⟨W, 0, none⟩) (show w.heap.size ≠ W by omega) _, grownBy_setCell (hgr4.but _) _ _ rfl⟩
set_option maxHeartbeats 1000000 in
/-- No room, no buffer at all: a new buffer. -/
theorem makeRoom_grow_nil (W : Nat) (s L : Nat) (read origin : Int) (w : World) (hs : s ≤ 65536) (hL : L = s + 262144)
    (hb : Win w W (.slice none 0 0) 0 read s origin) :
    Calls Try.prog 27 #[.pointer (some ⟨W, 0, none⟩)] w fun e w' => e = .returned (.tuple #[]) ∧ Win w' W (.slice (some ⟨w.heap.size, 0, none⟩) L L) 0 read s origin ∧
      w'.rowIs w.heap.size 5 L (fun i => .int .u8 0) ∧ w.grownBy w' (some W) := by
  obtain ⟨hW, c0, c1, c2, c3, c4, fz⟩ := hb.cells
  have hmk := run_make_row' (P := Try.prog) 22 5 (.int .u8 0) 1 Try.underlying22 info5 rfl .i64 .i64 L (by omega) (by omega)
  have hl1 : s + 262144 ≤ L := by omega
  have hl2 : L ≤ s + 262144 := by omega
  have hlp : (0 : Int) < (L : Int) := by omega
  have hlen := fun w' hc => length_to L W s w' hL hs hc
  have HB : Hid (Win w W (.slice none 0 0) 0 read s origin) := hb
  clear hL hb
  go_enter Try.func27, Try.ntmps27
  go_wp2
  go_quiet (fail)
  go_wp2_with (go_at_call 30; refine (hlen _ (by simpa using c3)).mono ?_; rintro e w' ⟨rfl, m, rfl⟩)
  generalize hw2 : (w.drewN (nq + m)).alloc (Obj.cells (madeCells #[Value.int IntKind.u8 0] L) 5) = w2
  obtain ⟨sz2, hb2, hgr, hnew, -⟩ := grow_facts w (nq + m) W 0 L none (fun _ => 0) _ _ _ _ _ HB.out (fun b e => by cases e) w2 hw2
  clear hw2 c0 c1 c2 c3 c4 fz hmk HB hlen
  obtain ⟨hW2, b0, b1, b2, b3, b4, bz⟩ := hb2.cells
  have hne2 : some W ≠ some w.heap.size := by simp; omega
  go_region_held_law (fun w' => w'.cell? ⟨W, 0, none⟩ = some (.slice none 0 0) ∧ w'.cell? ⟨W, 1, none⟩ = some (.int .i64 0))
    (first | exact ⟨b0, b1⟩ | exact ⟨(hgrow4.cell_far ⟨W, 0, none⟩ hW2 hne2).trans b0, (hgrow4.cell_far ⟨W, 1, none⟩ hW2 hne2).trans b1⟩)
    ((refine step_copy_rows rfl (.tmp 26) (.tmp 35) 22 22 rfl 5 Try.underlying22 size5 w.heap.size L L none 0 0 (by simp [Act.eval]) (by simp [Act.eval]) L 5 (fun _ => .int .u8 0) (by exact hnew) 0 (Nat.zero_min L).symm (by omega) (fun i => .int .u8 0) (fun _ _ => rfl) (fun j hj => absurd hj (Nat.not_lt_zero j)) ?_; intro w4 hg4 hgrow4 hsz4))
  have hb4 : Win w4 W (.slice none 0 0) 0 read s origin := (hgrow4.block W hW2 hne2).trans hb2
  have hgr4 : w.grownBy w4 none := ⟨hgrow4.os.trans hgr.os, hgrow4.tape.trans hgr.tape, hgrow4.output.trans hgr.output, Nat.le_trans hgr.size hgrow4.size, fun k hk _ => (hgrow4.block k (Nat.lt_of_lt_of_le hk hgr.size) (by simp; omega)).trans (hgr.block k hk (by simp))⟩
  obtain ⟨_, d0, -, -, -, -, dz⟩ := hb4.cells
  have dz0 := dz 0
  have H4 : Hid (Win w4 W (.slice none 0 0) 0 read s origin ∧ w.grownBy w4 none ∧ w4.rowIs w.heap.size 5 L (fun i => .int .u8 0)) := ⟨hb4, hgr4, hg4.congr (fun i _ => by simp)⟩
  clear hgrow4 hgr hnew b0 b1 b2 b3 b4 bz hb2 hb4 hgr4 hg4 dz
  go_wp2
  obtain ⟨hb4, hgr4, hg4⟩ := H4.out
  exact bodyPost_ret (v := .tuple #[]) (results_none (by rfl) _ _ _) rfl ⟨rfl, hb4.set0 _, hg4.setOther (a := ⟨W, 0, none⟩) (show w.heap.size ≠ W by omega) _, grownBy_setCell (hgr4.but _) _ _ rfl⟩

/-- All blocks but two are as they were. -/
def KeptBut (w : World) (W g : Nat) (w' : World) : Prop :=
  w'.os = w.os ∧ w'.tape = w.tape ∧ w'.output = w.output ∧ w'.heap.size = w.heap.size ∧ ∀ k, k < w.heap.size → k ≠ W → k ≠ g → w'.heap[k]? = w.heap[k]?

theorem shift_end {w w4 : World} {W g n : Nat} {v : Value} {read size origin : Int} {pos : Int} {f : Nat → Value} (hb : Win w4 W v pos read size origin) (hk : ∀ k, k < w.heap.size → k ≠ W → k ≠ g → w4.heap[k]? = w.heap[k]?)
    (hr : w4.rowIs g 5 n f) (hst : w4.os = w.os ∧ w4.tape = w.tape ∧ w4.output = w.output ∧ w4.heap.size = w.heap.size) (hne : g ≠ W) (x y : Int) :
    Win (((w4.setCell ⟨W, 1, none⟩ (.int .i64 x)).setCell ⟨W, 2, none⟩ (.int .i64 x)).setCell ⟨W, 4, none⟩ (.int .i64 y)) W v x x size y ∧
    (((w4.setCell ⟨W, 1, none⟩ (.int .i64 x)).setCell ⟨W, 2, none⟩ (.int .i64 x)).setCell ⟨W, 4, none⟩ (.int .i64 y)).rowIs g 5 n f ∧ KeptBut w W g (((w4.setCell ⟨W, 1, none⟩ (.int .i64 x)).setCell ⟨W, 2, none⟩ (.int .i64 x)).setCell ⟨W, 4, none⟩ (.int .i64 y)) := by
  refine ⟨((hb.set1 x).set2 x).set4 y, ((hr.setOther (a := ⟨W, 1, none⟩) hne _).setOther (a := ⟨W, 2, none⟩) hne _).setOther (a := ⟨W, 4, none⟩) hne _, hst.1, hst.2.1, hst.2.2.1, by simp [World.setCell, hst.2.2.2], fun k hk' h1 h2 => ?_⟩
  rw [Below.heap_setCell _ _ _ _ h1, Below.heap_setCell _ _ _ _ h1, Below.heap_setCell _ _ _ _ h1]
  exact hk k hk' h1 h2

set_option maxHeartbeats 1000000 in
/-- No room, and the buffer has the full length: the dictionary goes to the head. -/
theorem makeRoom_shift (W : Nat) (g : Nat) (n s L : Nat) (read origin : Int) (f : Nat → Int) (w : World) (hs : s ≤ 65536) (hs0 : 0 < s) (hL : L = s + 262144) (hn : L ≤ n) (hn2 : n ≤ 1048576) (hg : w.rowIs g 5 n (fun i => .int .u8 (f i))) (hne : g ≠ W)
    (hb : Win w W (.slice (some ⟨g, 0, none⟩) n n) n read s origin) :
    Calls Try.prog 27 #[.pointer (some ⟨W, 0, none⟩)] w fun e w' => e = .returned (.tuple #[]) ∧ Win w' W (.slice (some ⟨g, 0, none⟩) n n) s s s (wrap64 (origin + (n - s))) ∧
      w'.rowIs g 5 n (fun i => if i < s then .int .u8 (f (n - s + i)) else .int .u8 (f i)) ∧ KeptBut w W g w' := by
  obtain ⟨hW, c0, c1, c2, c3, c4, fz⟩ := hb.cells
  have hl1 : s + 262144 ≤ L := by omega
  have hl2 : L ≤ s + 262144 := by omega
  have hln : (L : Int) ≤ (n : Int) := by omega
  have hlen := fun w' hc => length_to L W s w' hL hs hc
  have HB : Hid (Win w W (.slice (some ⟨g, 0, none⟩) n n) n read s origin) := hb
  have HG : Hid (w.rowIs g 5 n (fun i => .int .u8 (f i))) := hg
  clear hL hb hg
  go_enter Try.func27, Try.ntmps27
  go_wp2
  go_quiet (fail)
  go_wp2_with (go_at_call 30; refine (hlen _ (by simpa using c3)).mono ?_; rintro e w' ⟨rfl, m, rfl⟩)
  obtain ⟨nq', hnq⟩ : ∃ nq', nq' = nq := ⟨_, rfl⟩
  rw [← hnq]
  clear hnq
  go_quiet (fail)
  go_wp2
  generalize hw2 : (w.drewN (nq' + m)).drewN nq = w2
  have hb2 : Win w2 W (.slice (some ⟨g, 0, none⟩) n n) n read s origin := by subst hw2; exact HB.out
  have hrow2 : w2.rowIs g 5 n (fun i => .int .u8 (f i)) := by subst hw2; exact HG.out
  have hgr : w.grownBy w2 none := by subst hw2; exact ⟨rfl, rfl, rfl, Nat.le_refl _, fun _ _ _ => rfl⟩
  have sz2 : w2.heap.size = w.heap.size := by subst hw2; rfl
  clear hw2 c0 c1 c2 c3 c4 fz HB HG hlen
  obtain ⟨hW2, b0, b1, b2, b3, b4, bz⟩ := hb2.cells
  have hsrc : ∀ j, j < s → ∃ ad, (some ⟨g, n - s, none⟩ : Option Addr) = some ad ∧ w2.cell? (ad.add j) = some (.int .u8 (f (n - s + j))) := fun j hj => ⟨_, rfl, by rw [Addr.add_lit]; exact hrow2.cell (by omega)⟩
  have HH : Hid (∀ j, j < s → ∃ ad, (some ⟨g, n - s, none⟩ : Option Addr) = some ad ∧ w2.cell? (ad.add j) = some (.int .u8 (f (n - s + j)))) := hsrc
  clear hsrc
  have hne2 : some W ≠ some g := by simp; omega
  go_region_held_law (fun w' => w'.cell? ⟨W, 0, none⟩ = some (.slice (some ⟨g, 0, none⟩) n n) ∧ w'.cell? ⟨W, 1, none⟩ = some (.int .i64 n))
    (first | exact ⟨b0, b1⟩ | exact ⟨(hgrow4.cell_far ⟨W, 0, none⟩ hW2 hne2).trans b0, (hgrow4.cell_far ⟨W, 1, none⟩ hW2 hne2).trans b1⟩)
    ((refine step_copy_rows rfl (.tmp 53) (.tmp 63) 22 22 rfl 5 Try.underlying22 size5 g n n (some ⟨g, n - s, none⟩) s s (by simp [Act.eval]) (by simp [Act.eval]; omega) n 5 (fun i => .int .u8 (f i)) (by exact hrow2) s (Nat.min_eq_left (by omega)).symm (by omega) (fun i => .int .u8 (f (n - s + i))) (fun _ _ => rfl) (by exact HH.out) ?_; intro w4 hg4 hgrow4 hsz4))
  have hb4 : Win w4 W (.slice (some ⟨g, 0, none⟩) n n) n read s origin := (hgrow4.block W hW2 hne2).trans hb2
  have hgr4 : ∀ k, k < w.heap.size → k ≠ W → k ≠ g → w4.heap[k]? = w.heap[k]? := fun k hk _ h2 => (hgrow4.block k (Nat.lt_of_lt_of_le hk hgr.size) (by simp; omega)).trans (hgr.block k hk (by simp))
  have hst : w4.os = w.os ∧ w4.tape = w.tape ∧ w4.output = w.output ∧ w4.heap.size = w.heap.size := ⟨hgrow4.os.trans hgr.os, hgrow4.tape.trans hgr.tape, hgrow4.output.trans hgr.output, hsz4.trans sz2⟩
  obtain ⟨_, d0, d1, d2, d3, d4, dz⟩ := hb4.cells
  have dz1 := dz 1
  have dz2 := dz 2
  have dz4 := dz 4
  have H4 : Hid (Win w4 W (.slice (some ⟨g, 0, none⟩) n n) n read s origin ∧ (∀ k, k < w.heap.size → k ≠ W → k ≠ g → w4.heap[k]? = w.heap[k]?) ∧ w4.rowIs g 5 n (fun i => if i < s then .int .u8 (f (n - s + i)) else .int .u8 (f i)) ∧ w4.os = w.os ∧ w4.tape = w.tape ∧ w4.output = w.output ∧ w4.heap.size = w.heap.size) := ⟨hb4, hgr4, hg4, hst⟩
  clear hgrow4 hgr b0 b1 b2 b3 b4 bz hb2 hb4 hgr4 hg4 HH dz hrow2 hst hsz4 sz2
  go_wp2
  obtain ⟨hb4, hgr4, hg4, hst⟩ := H4.out
  refine bodyPost_end (results_none (by rfl) _ _ _) rfl ⟨rfl, ?_⟩
  rw [show ((n : Int) - ((n : Int) - (s : Int))) = (s : Int) by omega]
  exact shift_end hb4 hgr4 hg4 hst hne _ _

set_option maxHeartbeats 1000000 in
/-- No room, and the buffer has the full length: the dictionary is empty. -/
theorem makeRoom_shift0 (W : Nat) (g : Nat) (n L : Nat) (read origin : Int) (f : Nat → Int) (w : World) (hL : L = 0 + 262144) (hn : L ≤ n) (hn2 : n ≤ 1048576) (hg : w.rowIs g 5 n (fun i => .int .u8 (f i))) (hne : g ≠ W)
    (hb : Win w W (.slice (some ⟨g, 0, none⟩) n n) n read 0 origin) :
    Calls Try.prog 27 #[.pointer (some ⟨W, 0, none⟩)] w fun e w' => e = .returned (.tuple #[]) ∧ Win w' W (.slice (some ⟨g, 0, none⟩) n n) 0 0 0 (wrap64 (origin + n)) ∧
      w'.rowIs g 5 n (fun i => .int .u8 (f i)) ∧ KeptBut w W g w' := by
  obtain ⟨hW, c0, c1, c2, c3, c4, fz⟩ := hb.cells
  have hl1 : 262144 ≤ L := by omega
  have hl2 : L ≤ 262144 := by omega
  have hln : (L : Int) ≤ (n : Int) := by omega
  have hlen := fun w' hc => length_to L W 0 w' hL (by omega) hc
  have HB : Hid (Win w W (.slice (some ⟨g, 0, none⟩) n n) n read 0 origin) := hb
  have HG : Hid (w.rowIs g 5 n (fun i => .int .u8 (f i))) := hg
  clear hL hb hg
  go_enter Try.func27, Try.ntmps27
  go_wp2
  go_quiet (fail)
  go_wp2_with (go_at_call 30; refine (hlen _ (by simpa using c3)).mono ?_; rintro e w' ⟨rfl, m, rfl⟩)
  obtain ⟨nq', hnq⟩ : ∃ nq', nq' = nq := ⟨_, rfl⟩
  rw [← hnq]
  clear hnq
  go_quiet (fail)
  go_wp2
  generalize hw2 : (w.drewN (nq' + m)).drewN nq = w2
  have hb2 : Win w2 W (.slice (some ⟨g, 0, none⟩) n n) n read 0 origin := by subst hw2; exact HB.out
  have hrow2 : w2.rowIs g 5 n (fun i => .int .u8 (f i)) := by subst hw2; exact HG.out
  have hgr : w.grownBy w2 none := by subst hw2; exact ⟨rfl, rfl, rfl, Nat.le_refl _, fun _ _ _ => rfl⟩
  have sz2 : w2.heap.size = w.heap.size := by subst hw2; rfl
  clear hw2 c0 c1 c2 c3 c4 fz HB HG hlen
  obtain ⟨hW2, b0, b1, b2, b3, b4, bz⟩ := hb2.cells
  have hne2 : some W ≠ some g := by simp; omega
  go_region_held_law (fun w' => w'.cell? ⟨W, 0, none⟩ = some (.slice (some ⟨g, 0, none⟩) n n) ∧ w'.cell? ⟨W, 1, none⟩ = some (.int .i64 n))
    (first | exact ⟨b0, b1⟩ | exact ⟨(hgrow4.cell_far ⟨W, 0, none⟩ hW2 hne2).trans b0, (hgrow4.cell_far ⟨W, 1, none⟩ hW2 hne2).trans b1⟩)
    ((refine step_copy_rows rfl (.tmp 53) (.tmp 63) 22 22 rfl 5 Try.underlying22 size5 g n n (some ⟨g, 0, none⟩) 0 0 (by simp [Act.eval]) (by simp [Act.eval]) n 5 (fun i => .int .u8 (f i)) (by exact hrow2) 0 (Nat.zero_min n).symm (by omega) (fun i => .int .u8 0) (fun _ _ => rfl) (fun j hj => absurd hj (Nat.not_lt_zero j)) ?_; intro w4 hg4 hgrow4 hsz4))
  have hb4 : Win w4 W (.slice (some ⟨g, 0, none⟩) n n) n read 0 origin := (hgrow4.block W hW2 hne2).trans hb2
  have hgr4 : ∀ k, k < w.heap.size → k ≠ W → k ≠ g → w4.heap[k]? = w.heap[k]? := fun k hk _ h2 => (hgrow4.block k (Nat.lt_of_lt_of_le hk hgr.size) (by simp; omega)).trans (hgr.block k hk (by simp))
  have hst : w4.os = w.os ∧ w4.tape = w.tape ∧ w4.output = w.output ∧ w4.heap.size = w.heap.size := ⟨hgrow4.os.trans hgr.os, hgrow4.tape.trans hgr.tape, hgrow4.output.trans hgr.output, hsz4.trans sz2⟩
  obtain ⟨_, d0, d1, d2, d3, d4, dz⟩ := hb4.cells
  have dz1 := dz 1
  have dz2 := dz 2
  have dz4 := dz 4
  have H4 : Hid (Win w4 W (.slice (some ⟨g, 0, none⟩) n n) n read 0 origin ∧ (∀ k, k < w.heap.size → k ≠ W → k ≠ g → w4.heap[k]? = w.heap[k]?) ∧ w4.rowIs g 5 n (fun i => .int .u8 (f i)) ∧ w4.os = w.os ∧ w4.tape = w.tape ∧ w4.output = w.output ∧ w4.heap.size = w.heap.size) := ⟨hb4, hgr4, hg4.congr (fun i _ => by simp), hst⟩
  clear hgrow4 hgr b0 b1 b2 b3 b4 bz hb2 hb4 hgr4 hg4 dz hrow2 hst hsz4 sz2
  go_wp2
  obtain ⟨hb4, hgr4, hg4, hst⟩ := H4.out
  refine bodyPost_end (results_none (by rfl) _ _ _) rfl ⟨rfl, ?_⟩
  exact shift_end hb4 hgr4 hg4 hst hne _ _
end Go.Proofs.Qxb6001347a

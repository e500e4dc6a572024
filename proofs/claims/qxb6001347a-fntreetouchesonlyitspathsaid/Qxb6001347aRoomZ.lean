/-
  xz.ZZMakeRoom (function 13) AND cloneBytes (12): one contract each, for every buffer of the call's own.
-/
import Derived.Test.Qxb6001347aRoom
namespace Go.Proofs.Qxb6001347a
open Go.RowKit
set_option linter.unusedVariables false

set_option maxHeartbeats 400000 in
theorem zz_tail (ao ao' : Option Addr) (n cap n' cap' : Nat) (pos read s origin p' r' s' o' : Int) (w : World) (R : World → Prop)
    (hcall : Hid (Calls Try.prog 27 #[.pointer (some ⟨w.heap.size, 0, none⟩)] (w.alloc (.cells #[.slice ao n cap, .int .i64 pos, .int .i64 read, .int .i64 s, .int .i64 origin] 51)) fun e w1 => e = .returned (.tuple #[]) ∧ Win w1 w.heap.size (.slice ao' n' cap') p' r' s' o' ∧ R w1)) :
    Calls Try.prog 13 #[.slice ao n cap, .int .i64 pos, .int .i64 read, .int .i64 s, .int .i64 origin] w fun e w' =>
      e = .returned (.tuple #[.slice ao' n' cap', .int .i64 p', .int .i64 r', .int .i64 s', .int .i64 o']) ∧ ∃ w1 k, R w1 ∧ w' = w1.drewN k := by
  go_enter Try.func13, Try.ntmps13
  go_wp2_with fail
  refine hcall.out.mono ?_
  rintro e w1 ⟨rfl, hb, hR⟩
  obtain ⟨hW, c0, c1, c2, c3, c4, fz⟩ := hb.cells
  have HR : Hid (R w1) := hR
  clear hR hb fz hcall
  go_wp2
  go_quiet (fail)
  go_wp2
  exact bodyPost_ret (v := .tuple #[.slice ao' n' cap', .int .i64 p', .int .i64 r', .int .i64 s', .int .i64 o']) (by simp [results, Try.results13, go_sem]) rfl ⟨rfl, w1, nq, HR.out, rfl⟩

/-- A buffer of the call's own: nil (no block), or a row of n bytes at the head of block g. -/
def bufVal : Option Nat → Nat → Value
  | none, _ => .slice none 0 0
  | some g, n => .slice (some ⟨g, 0, none⟩) n n
def Buf (w : World) (g : Option Nat) (n : Nat) (f : Nat → Int) : Prop :=
  (g = none → n = 0) ∧ ∀ b, g = some b → w.rowIs b 5 n (fun i => .int .u8 (f i))

/-- WHAT makeRoom DOES, in plain numbers: the buffer's length n and bytes f, the position pos (all read), the dictionary's size s, the origin. -/
def Room (n : Nat) (f : Nat → Int) (pos s : Nat) (origin : Int) (n' : Nat) (f' : Nat → Int) (pos' : Nat) (origin' : Int) : Prop :=
  (pos < n ∧ n' = n ∧ (∀ i, f' i = f i) ∧ pos' = pos ∧ origin' = origin) ∨
  (pos = n ∧ n < s + 262144 ∧ n' = s + 262144 ∧ (∀ i, i < n → f' i = f i) ∧ pos' = n ∧ origin' = origin) ∨
  (pos = n ∧ s + 262144 ≤ n ∧ n' = n ∧ (∀ i, i < s → f' i = f (n - s + i)) ∧ pos' = s ∧ origin' = wrap64 (origin + ((n : Int) - (s : Int))))

/-- The buffer still lies there behind the box of the window. -/
theorem alloc_row {w : World} {b n : Nat} {f : Nat → Value} (h : w.rowIs b 5 n f) (o : Obj) : (w.alloc o).rowIs b 5 n f := h.alloc o

theorem win_alloc (w : World) (v : Value) (pos read s origin : Int) : Win (w.alloc (.cells #[v, .int .i64 pos, .int .i64 read, .int .i64 s, .int .i64 origin] 51)) w.heap.size v pos read s origin := by
  show (w.heap.push _)[w.heap.size]? = _
  simp

/-- From the world behind the box back to the world ahead of it. -/
theorem grownBy_box {w w1 : World} {o : Obj} {row : Option Nat} (h : (w.alloc o).grownBy w1 (some w.heap.size)) (k : Nat) : w.grownBy (w1.drewN k) row :=
  ⟨h.os, h.tape, h.output, Nat.le_trans (by simp) h.size, fun i hi _ => (h.block i (by simp; omega) (by simp; omega)).trans (Below.heap_alloc w o i hi)⟩

theorem zzMakeRoom_any (g : Option Nat) (n : Nat) (f : Nat → Int) (pos s : Nat) (origin : Int) (w : World) (hB : Buf w g n f) (hpos : pos ≤ n) (hn : n ≤ 1048576) (hs : s ≤ 65536) :
    Calls Try.prog 13 #[bufVal g n, .int .i64 pos, .int .i64 pos, .int .i64 s, .int .i64 origin] w fun e w' =>
      ∃ b' n' f' pos' origin', e = .returned (.tuple #[.slice (some ⟨b', 0, none⟩) n' n', .int .i64 (pos' : Nat), .int .i64 (pos' : Nat), .int .i64 s, .int .i64 origin']) ∧ w'.rowIs b' 5 n' (fun i => .int .u8 (f' i)) ∧
        Room n f pos s origin n' f' pos' origin' ∧ (g = some b' ∨ w.heap.size ≤ b') ∧ w.grownBy w' g := by
  obtain ⟨hnil, hrow⟩ := hB
  cases g with
  | none =>
    obtain rfl := hnil rfl
    obtain rfl : pos = 0 := by omega
    refine (zz_tail none (some ⟨w.heap.size + 1, 0, none⟩) 0 0 (s + 262144) (s + 262144) 0 0 s origin 0 0 s origin w _ (show Hid _ from (makeRoom_grow_nil w.heap.size s (s + 262144) 0 origin _ hs rfl (win_alloc w _ _ _ _ _)).mono fun e w1 ⟨h1, h2, h3⟩ => ⟨h1, by simpa using h2, h3⟩)).mono ?_
    rintro e w' ⟨rfl, w1, k, ⟨hr, hgr⟩, rfl⟩
    refine ⟨w.heap.size + 1, s + 262144, fun _ => 0, 0, origin, rfl, ?_, .inr (.inl ⟨rfl, by omega, rfl, fun i hi => absurd hi (Nat.not_lt_zero i), rfl, rfl⟩), .inr (by omega), grownBy_box hgr k⟩
    have hr' : w1.rowIs (w.heap.size + 1) 5 (s + 262144) (fun _ => .int .u8 0) := by simpa using hr
    exact hr'
  | some b =>
    have hr0 := hrow b rfl
    have hb := hr0.lt
    by_cases hlt : pos < n
    · refine (zz_tail (some ⟨b, 0, none⟩) (some ⟨b, 0, none⟩) n n n n pos pos s origin pos pos s origin w (fun w1 => ∃ k, w1 = (w.alloc (.cells #[.slice (some ⟨b, 0, none⟩) n n, .int .i64 pos, .int .i64 pos, .int .i64 s, .int .i64 origin] 51)).drewN k) (show Hid _ from ?_)).mono ?_
      · have hw := win_alloc w (.slice (some ⟨b, 0, none⟩) n n) pos pos s origin
        obtain ⟨_, c0, c1, _⟩ := hw.cells
        refine (makeRoom_room w.heap.size (some ⟨b, 0, none⟩) n n pos _ (by omega) (by omega) c0 c1).mono ?_
        rintro e w1 ⟨rfl, k, rfl⟩
        exact ⟨rfl, hw, k, rfl⟩
      · rintro e w' ⟨rfl, w1, k, ⟨j, rfl⟩, rfl⟩
        refine ⟨b, n, f, pos, origin, rfl, hr0.alloc _, .inl ⟨hlt, rfl, fun _ => rfl, rfl, rfl⟩, .inl rfl, ?_⟩
        exact ⟨rfl, rfl, rfl, by simp, fun i hi _ => Below.heap_alloc w _ i hi⟩
    · obtain rfl : pos = n := by omega
      by_cases hsh : pos < s + 262144
      · refine (zz_tail (some ⟨b, 0, none⟩) (some ⟨w.heap.size + 1, 0, none⟩) pos pos (s + 262144) (s + 262144) pos pos s origin pos pos s origin w _ (show Hid _ from (makeRoom_grow w.heap.size b pos s (s + 262144) pos origin f _ hs rfl hsh (hr0.alloc _) (by omega) (win_alloc w _ _ _ _ _)).mono fun e w1 ⟨h1, h2, h3⟩ => ⟨h1, by simpa using h2, h3⟩)).mono ?_
        rintro e w' ⟨rfl, w1, k, ⟨hr, hgr⟩, rfl⟩
        refine ⟨w.heap.size + 1, s + 262144, fun i => if i < pos then f i else 0, pos, origin, rfl, ?_, .inr (.inl ⟨rfl, hsh, rfl, fun i hi => if_pos hi, rfl, rfl⟩), .inr (by omega), grownBy_box hgr k⟩
        have hr' : w1.rowIs (w.heap.size + 1) 5 (s + 262144) (fun i => if i < pos then .int .u8 (f i) else .int .u8 0) := by simpa using hr
        exact hr'.congr fun i _ => by dsimp only; split <;> rfl
      · have hend : ∀ (F : Nat → Value) (w1 : World) (k : Nat), KeptBut (w.alloc (.cells #[.slice (some ⟨b, 0, none⟩) pos pos, .int .i64 pos, .int .i64 pos, .int .i64 s, .int .i64 origin] 51)) w.heap.size b w1 → w.grownBy (w1.drewN k) (some b) := by
          rintro F w1 k ⟨k1, k2, k3, k4, k5⟩
          exact ⟨k1, k2, k3, by simp at k4; simp; omega, fun i hi hne => (k5 i (by simp; omega) (by omega) (fun e => hne (by rw [e]))).trans (Below.heap_alloc w _ i hi)⟩
        by_cases hs0 : s = 0
        · subst hs0
          refine (zz_tail (some ⟨b, 0, none⟩) (some ⟨b, 0, none⟩) pos pos pos pos pos pos 0 origin 0 0 0 (wrap64 (origin + pos)) w _ (show Hid _ from (makeRoom_shift0 w.heap.size b pos (0 + 262144) pos origin f _ rfl (by omega) hn (hr0.alloc _) (by omega) (win_alloc w _ _ _ _ _)))).mono ?_
          rintro e w' ⟨rfl, w1, k, ⟨hr, hk⟩, rfl⟩
          exact ⟨b, pos, f, 0, wrap64 (origin + pos), rfl, hr, .inr (.inr ⟨rfl, by omega, rfl, fun i hi => absurd hi (Nat.not_lt_zero i), rfl, by simp⟩), .inl rfl, hend (fun _ => .int .u8 0) w1 k hk⟩
        · refine (zz_tail (some ⟨b, 0, none⟩) (some ⟨b, 0, none⟩) pos pos pos pos pos pos s origin s s s (wrap64 (origin + (pos - s))) w _ (show Hid _ from (makeRoom_shift w.heap.size b pos s (s + 262144) pos origin f _ hs (by omega) rfl (by omega) hn (hr0.alloc _) (by omega) (win_alloc w _ _ _ _ _)))).mono ?_
          rintro e w' ⟨rfl, w1, k, ⟨hr, hk⟩, rfl⟩
          refine ⟨b, pos, fun i => if i < s then f (pos - s + i) else f i, s, wrap64 (origin + (pos - s)), rfl, ?_, .inr (.inr ⟨rfl, by omega, rfl, fun i hi => if_pos hi, rfl, rfl⟩), .inl rfl, hend (fun _ => .int .u8 0) w1 k hk⟩
          exact (show w1.rowIs b 5 pos _ from hr).congr fun i _ => by dsimp only; split <;> rfl

theorem row_step {wr : World} {B n k : Nat} {t : TypeId} {F : Nat → Value} {z : Value} (h : wr.rowIs B t n (fun i => if i < k then F i else z)) :
    (wr.setCell ⟨B, k, none⟩ (F k)).rowIs B t n (fun i => if i < k + 1 then F i else z) :=
  (h.set k (F k)).congr fun i hi => by
    by_cases e : i = k
    · subst e; simp
    · by_cases h2 : i < k
      · rw [if_neg e, if_pos h2, if_pos (by omega)]
      · rw [if_neg e, if_neg h2, if_neg (by omega)]

set_option maxHeartbeats 400000 in
theorem clone_row (b off len cap : Nat) (f : Nat → Int) (w : World) (hlen : len ≤ 1048576) (hpos : 0 < len) (hcell : ∀ i, i < len → w.cell? ⟨b, off + i, none⟩ = some (.int .u8 (f i))) :
    Calls Try.prog 12 #[.slice (some ⟨b, off, none⟩) len cap] w fun e w' => e = .returned (.slice (some ⟨w.heap.size, 0, none⟩) len len) ∧ w'.rowIs w.heap.size 5 len (fun i => .int .u8 (f i)) ∧ Below w.heap.size w w' := by
  have hbB : b < w.heap.size := World.block_lt_of_cell? _ _ (hcell 0 hpos)
  have hmk := run_make_row' (P := Try.prog) 22 5 (.int .u8 0) 1 Try.underlying22 info5 rfl .i64 .i64 len (by omega) (by omega)
  have hq := fun (w : World) => Lib.run_eql_slice_nil (P := Try.prog) w 22 5 (some ⟨b, off, none⟩) len cap 0 0 Try.underlying22
  have hmade := World.rowIs_made w (.int .u8 0) len 5
  have hb0 : Below w.heap.size w (w.alloc (.cells (madeCells #[.int .u8 0] len) 5)) := (Below.refl _ _).alloc (Nat.le_refl _) _
  have HM : Hid ((w.alloc (.cells (madeCells #[.int .u8 0] len) 5)).rowIs w.heap.size 5 len (fun _ => .int .u8 0) ∧ Below w.heap.size w (w.alloc (.cells (madeCells #[.int .u8 0] len) 5))) := ⟨hmade, hb0⟩
  clear hmade hb0
  go_enter Try.func12, Try.ntmps12
  go_wp2
  go_loopw [4] (fun i wr => ∃ k : Nat, k ≤ len ∧ i = .int .i64 k ∧ wr.rowIs w.heap.size 5 len (fun i => if i < k then .int .u8 (f i) else .int .u8 0) ∧ Below w.heap.size w wr) (fun i _ => len - (intOf i).toNat)
  case atStart => exact ⟨0, Nat.zero_le _, rfl, HM.out.1.congr (fun i _ => by simp), HM.out.2⟩
  case round =>
    obtain ⟨k, hk, rfl, hrow, hbel⟩ := hrel
    have hsz := hbel.size
    by_cases hlt : k < len
    · have hcx : wr.cell? ⟨b, off + k, none⟩ = some (.int .u8 (f k)) := (hbel.cell (p := ⟨b, off + k, none⟩) hbB).trans (hcell k hlt)
      obtain ⟨v0, hv0⟩ : ∃ v0, wr.cell? ⟨w.heap.size, k, none⟩ = some v0 := ⟨_, hrow.cell hlt⟩
      have hfz := hrow.frozen k
      have R : Hid ((wr.setCell ⟨w.heap.size, k, none⟩ (.int .u8 (f k))).rowIs w.heap.size 5 len (fun i => if i < k + 1 then .int .u8 (f i) else .int .u8 0) ∧ Below w.heap.size w (wr.setCell ⟨w.heap.size, k, none⟩ (.int .u8 (f k)))) := ⟨row_step (F := fun i => .int .u8 (f i)) hrow, hbel.setCell (p := ⟨w.heap.size, k, none⟩) (Nat.le_refl _) _⟩
      clear hrow hbel hcell HM
      go_wp2
      go_roundw
      case rel => exact ⟨k + 1, by omega, by go_num, R.out.1, R.out.2⟩
      case measure => simp [intOf]; omega
    · clear hcell HM
      go_wp2
      go_ret
      exact ⟨rfl, hrow.congr (fun i hi => by rw [if_pos (by omega)]), hbel⟩

set_option maxHeartbeats 400000 in
theorem clone_empty (x : Addr) (cap : Nat) (w : World) :
    Calls Try.prog 12 #[.slice (some x) 0 cap] w fun e w' => e = .returned (.slice (some ⟨w.heap.size, 0, none⟩) 0 0) ∧ w'.rowIs w.heap.size 5 0 (fun _ => .int .u8 0) ∧ Below w.heap.size w w' := by
  have hmk : ∀ w : World, (Instr.makeSlice 22 (.int .i64 0) (.int .i64 0)).run Try.prog w = .ok (.slice (some ⟨w.heap.size, 0, none⟩) 0 0) (w.alloc (.cells (madeCells #[.int .u8 0] 0) 5)) := fun w => run_make_row' (P := Try.prog) 22 5 (.int .u8 0) 1 Try.underlying22 info5 rfl .i64 .i64 0 (by omega) (by omega) w
  have hq := fun (w : World) => Lib.run_eql_slice_nil (P := Try.prog) w 22 5 (some x) 0 cap 0 0 Try.underlying22
  have hmade := World.rowIs_made w (.int .u8 0) 0 5
  have hb0 : Below w.heap.size w (w.alloc (.cells (madeCells #[.int .u8 0] 0) 5)) := (Below.refl _ _).alloc (Nat.le_refl _) _
  have HM : Hid ((w.alloc (.cells (madeCells #[.int .u8 0] 0) 5)).rowIs w.heap.size 5 0 (fun _ => .int .u8 0) ∧ Below w.heap.size w (w.alloc (.cells (madeCells #[.int .u8 0] 0) 5))) := ⟨hmade, hb0⟩
  clear hmade hb0
  go_enter Try.func12, Try.ntmps12
  go_wp2
  refine wp_loop_rounds 1 ?_
  rw [rounds_succ]
  go_wp2
  go_ret
  exact ⟨rfl, HM.out.1, HM.out.2⟩

set_option maxHeartbeats 400000 in
theorem clone_nil (len cap : Nat) (w : World) :
    Calls Try.prog 12 #[.slice none len cap] w fun e w' => e = .returned (.slice none 0 0) ∧ w' = w := by
  have hq := fun (w : World) => Lib.run_eql_slice_nil (P := Try.prog) w 22 5 none len cap 0 0 Try.underlying22
  go_enter Try.func12, Try.ntmps12
  go_wp2
  go_ret
  exact ⟨rfl, rfl⟩

/-- cloneBytes AT WHATEVER SLICE OF BYTES: a buffer of the call's own with the same bytes. -/
theorem clone_any (ao : Option Addr) (len cap : Nat) (f : Nat → Int) (w : World) (hlen : len ≤ 1048576) (hnil : ao = none → len = 0) (hcell : ∀ x, ao = some x → ∀ i, i < len → w.cell? (x.add i) = some (.int .u8 (f i))) :
    Calls Try.prog 12 #[.slice ao len cap] w fun e w' => ∃ g, e = .returned (bufVal g len) ∧ Buf w' g len f ∧ Below w.heap.size w w' ∧ (∀ b, g = some b → w.heap.size ≤ b) := by
  cases ao with
  | none =>
    obtain rfl := hnil rfl
    refine (clone_nil 0 cap w).mono ?_
    rintro e w' ⟨rfl, rfl⟩
    exact ⟨none, rfl, ⟨fun _ => rfl, fun b h => (by cases h)⟩, Below.refl _ _, fun b h => (by cases h)⟩
  | some x =>
    by_cases h0 : len = 0
    · subst h0
      refine (clone_empty x cap w).mono ?_
      rintro e w' ⟨rfl, hr, hb⟩
      exact ⟨some w.heap.size, rfl, ⟨fun h => (by cases h), fun b h => by cases h; exact hr.congr (fun i hi => absurd hi (Nat.not_lt_zero i))⟩, hb, fun b h => (by cases h; exact Nat.le_refl _)⟩
    · obtain ⟨b, off, spot⟩ := x
      have hc := hcell _ rfl 0 (by omega)
      have hspot : spot = none := by simpa [Addr.add] using World.cell?_spot hc
      subst hspot
      refine (clone_row b off len cap f w hlen (by omega) (fun i hi => by rw [← Addr.add_lit]; exact hcell _ rfl i hi)).mono ?_
      rintro e w' ⟨rfl, hr, hb⟩
      exact ⟨some w.heap.size, rfl, ⟨fun h => (by cases h), fun b h => by cases h; exact hr⟩, hb, fun b h => by cases h; exact Nat.le_refl _⟩

theorem bufVal_slice {w : World} {g : Option Nat} {n : Nat} {f : Nat → Int} (h : Buf w g n f) : bufVal g n = .slice (g.map fun b => ⟨b, 0, none⟩) n n := by
  cases g with
  | none => obtain rfl := h.1 rfl; rfl
  | some b => rfl

/-- .. at a buffer of the call's own. -/
theorem clone_buf (g : Option Nat) (n : Nat) (f : Nat → Int) (w : World) (hn : n ≤ 1048576) (h : Buf w g n f) :
    Calls Try.prog 12 #[bufVal g n] w fun e w' => ∃ g', e = .returned (bufVal g' n) ∧ Buf w' g' n f ∧ Below w.heap.size w w' ∧ (∀ b, g' = some b → w.heap.size ≤ b) := by
  rw [bufVal_slice h]
  refine clone_any _ n n f w hn ?_ ?_
  · cases g with
    | none => exact fun _ => h.1 rfl
    | some b => exact fun e => (by cases e)
  · cases g with
    | none => exact fun x e => (by cases e)
    | some b =>
      intro x e i hi
      cases e
      rw [Addr.add_lit, Nat.zero_add]
      exact (h.2 b rfl).cell hi

/-- The plain law of one makeRoom. -/
theorem room_plain {n : Nat} {f : Nat → Int} {pos s : Nat} {origin : Int} {n' : Nat} {f' : Nat → Int} {pos' : Nat} {origin' : Int} (hpos : pos ≤ n) (h : Room n f pos s origin n' f' pos' origin') :
    pos' < n' ∧ n ≤ n' ∧ wrap64 (origin' + (pos' : Int)) = wrap64 (origin + (pos : Int)) ∧ (∀ K, K ≤ s → K ≤ pos → K ≤ pos' ∧ ∀ j, j < K → f' (pos' - 1 - j) = f (pos - 1 - j)) ∧ (pos = n → n' = n ∨ n < s + 262144 ∧ n' = s + 262144) := by
  rcases h with ⟨h1, rfl, h2, rfl, rfl⟩ | ⟨rfl, h1, rfl, h2, rfl, rfl⟩ | ⟨rfl, h1, rfl, h2, rfl, rfl⟩
  · exact ⟨h1, Nat.le_refl _, rfl, fun K _ hK => ⟨hK, fun j _ => h2 _⟩, fun e => by omega⟩
  · exact ⟨h1, by omega, rfl, fun K _ hK => ⟨hK, fun j hj => h2 _ (by omega)⟩, fun _ => .inr ⟨h1, rfl⟩⟩
  · refine ⟨by omega, Nat.le_refl _, ?_, fun K hK hp => ⟨hK, fun j hj => ?_⟩, fun _ => .inl rfl⟩
    · unfold wrap64; omega
    · rw [h2 _ (by omega)]
      congr 1
      omega
end Go.Proofs.Qxb6001347a

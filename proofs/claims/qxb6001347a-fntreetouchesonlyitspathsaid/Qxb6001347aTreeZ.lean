/-
  xz.ZZTree (function 24): the fresh input array (65,536 bytes), the copies of the probabilities, the call of tree.
-/
import Derived.Test.Qxb6001347aTreeW
namespace Go.Proofs.Qxb6001347a
open Go.RowKit
set_option linter.unusedVariables false

/-! ### The zero value of [65536]byte, as the loaded program lays it: a list of 64 zeros, doubled ten times. -/
def zl0 : List Value := List.replicate 64 (.int .u8 0)
def zl1 : List Value := zl0.append zl0
def zl2 : List Value := zl1.append zl1
def zl3 : List Value := zl2.append zl2
def zl4 : List Value := zl3.append zl3
def zl5 : List Value := zl4.append zl4
def zl6 : List Value := zl5.append zl5
def zl7 : List Value := zl6.append zl6
def zl8 : List Value := zl7.append zl7
def zl9 : List Value := zl8.append zl8
def zl10 : List Value := zl9.append zl9

def AllZ (l : List Value) (n : Nat) : Prop := l.length = n ∧ ∀ x ∈ l, x = .int .u8 0
theorem AllZ.dbl {l : List Value} {n : Nat} (h : AllZ l n) : AllZ (l.append l) (2 * n) :=
  ⟨by rw [List.append_eq, List.length_append, h.1]; omega, fun x hx => by
    rw [List.append_eq, List.mem_append] at hx
    rcases hx with hx | hx <;> exact h.2 x hx⟩
theorem allz0 : AllZ zl0 64 := ⟨List.length_replicate, fun x hx => (List.mem_replicate.1 hx).2⟩
theorem allz10 : AllZ zl10 65536 := allz0.dbl.dbl.dbl.dbl.dbl.dbl.dbl.dbl.dbl.dbl

theorem zero59 : (Try.prog.info? 59).map (fun i => (i.zero, i.size)) = some (some (.agg zl10.toArray), 65536) := by kernel_rfl

/-- 'var buf input' -/
theorem run_alloc59 (w : World) : (Instr.alloc 59 true (.tuple #[])).run Try.prog w = .ok (.pointer (some ⟨w.heap.size, 0, none⟩)) (w.alloc (.cells zl10.toArray 59)) := by
  obtain ⟨i, hi, hz⟩ := Option.map_eq_some_iff.1 zero59
  simp only [Prod.mk.injEq] at hz
  simp [Instr.alloc, zeroValue, typeInfo, hi, hz.1, newVar, newRow, Value.cells, go_sem]

theorem made59 (w : World) : (w.alloc (.cells zl10.toArray 59)).rowIs w.heap.size 59 65536 (fun _ => .int .u8 0) := by
  refine ⟨zl10.toArray, ?_, allz10.1, fun i hi => ?_⟩
  · show (w.heap.push _)[w.heap.size]? = _
    simp
  · have hlen : i < zl10.length := by rw [allz10.1]; exact hi
    rw [List.getElem?_toArray, List.getElem?_eq_getElem hlen, allz10.2 _ (List.getElem_mem hlen)]

theorem wpList_alloc_law {P : Program} {w : World} {ops : Array Oper} {rest : List Oper} {o : Oper} {a : Act} {Q : Exit → Act → World → Prop} (hg : o.guard = none) (t : TypeId) (hop : o.op = Op.alloc t) (v : Value) (w1 : World)
    (hrun : (Instr.alloc t true (.tuple #[])).run P w = .ok v w1) (hK : wpList P ops Q rest (a.put o.dst v) w1) : wpList P ops Q (o :: rest) a w := by
  refine wpList_plain hg fun K hK' => ?_
  unfold Oper.wp
  simp [execOp, hop, hrun, Result.andThen]
  exact hK' _ _ hK

/-- 'var buf input', as the walk takes it: the world behind it is a letter. -/
theorem wpList_alloc59 {w : World} {ops : Array Oper} {rest : List Oper} {o : Oper} {a : Act} {Q : Exit → Act → World → Prop} (hg : o.guard = none) (hop : o.op = Op.alloc 59)
    (hK : ∀ w1, w1.rowIs w.heap.size 59 65536 (fun _ => .int .u8 0) → Below w.heap.size w w1 → w1.heap.size = w.heap.size + 1 → wpList Try.prog ops Q rest (a.put o.dst (.pointer (some ⟨w.heap.size, 0, none⟩))) w1) : wpList Try.prog ops Q (o :: rest) a w :=
  wpList_alloc_law hg 59 hop _ _ (run_alloc59 w) (hK _ (made59 w) ((Below.refl _ _).alloc (Nat.le_refl _) _) (by simp))

/-- 'copy(dst, src)' in a plain region, dst at the head of a row that is known whole. -/
theorem wpList_copy_rows {P : Program} {ops : Array Oper} {rest : List Oper} {o : Oper} {a : Act} {w : World} {Q : Exit → Act → World → Prop} (hgd : o.guard = none) (d s : Operand) (dT sT : TypeId)
    (ho : o.op = .call { callee := .builtin .copy, args := #[d, s], argTypes := #[dT, sT] }) (elem : TypeId) (hu : P.underlying dT = some (.slice elem)) (hsz : (P.info? elem).map (·.size) = some 1)
    (g dLen dCap : Nat) (sp : Option Addr) (sLen sCap : Nat) (hd : a.eval d = .slice (some ⟨g, 0, none⟩) dLen dCap) (hs : a.eval s = .slice sp sLen sCap)
    (N : Nat) (t : TypeId) (f : Nat → Value) (hrow : w.rowIs g t N f) (m : Nat) (hm : m = Nat.min sLen dLen) (hmN : m ≤ N) (c : Nat → Value) (hone : ∀ i, i < m → (c i).oneCell' = true)
    (hsrc : ∀ j, j < m → ∃ ad, sp = some ad ∧ w.cell? (ad.add j) = some (c j))
    (h : ∀ w', w'.rowIs g t N (fun i => if i < m then c i else f i) → w.grownBy w' (some g) → w'.heap.size = w.heap.size → wpList P ops Q rest (a.put o.dst (goInt m)) w') :
    wpList P ops Q (o :: rest) a w := by
  refine wpList_plain hgd fun K hK => ?_
  by_cases h0 : m = 0
  · subst h0
    have hrun := run_copy_none (P := P) w dT sT o.type elem (some ⟨g, 0, none⟩) sp dLen dCap sLen sCap hu hsz hm.symm
    unfold Oper.wp
    simp [execOp, ho, resolve, invoke, builtin, hd, hs, hrun, Result.andThen]
    exact hK _ _ (h w (hrow.congr fun i _ => by simp) (World.grownBy.refl _ _) rfl)
  · obtain ⟨ad, rfl, _⟩ := hsrc 0 (by omega)
    obtain ⟨cur, hg, hN, hc⟩ := hrow
    have hlen : ((List.range m).map c).length = m := by simp
    have hcs : ∀ j v, ((List.range m).map c)[j]? = some v → j < m ∧ v = c j := by
      intro j v hj
      have hlt : j < m := by
        have := (List.getElem?_eq_some_iff.1 hj).1
        simpa using this
      refine ⟨hlt, ?_⟩
      simp [hlt] at hj
      exact hj.symm
    have hrun := run_copy_row (P := P) w dT sT o.type elem g 0 dLen dCap ad sLen sCap cur t ((List.range m).map c) hu hsz hg (by rw [hlen]; exact hm)
      (fun j v hj => by
        obtain ⟨hlt, rfl⟩ := hcs j v hj
        obtain ⟨ad', e, hc'⟩ := hsrc j hlt
        obtain rfl := Option.some.inj e
        exact hc') (by rw [hlen]; omega) (fun v hv => by
        obtain ⟨j, hj, rfl⟩ := List.mem_map.1 hv
        exact hone j (by simpa using hj))
    rw [hlen] at hrun
    unfold Oper.wp
    simp [execOp, ho, resolve, invoke, builtin, hd, hs, hrun, Result.andThen]
    refine hK _ _ (h _ ⟨_, setRow_heap w g _ _ t _ hg, ?_, ?_⟩ ⟨rfl, rfl, rfl, by simp, fun k hk hne => setRow_other w g k _ (fun e => hne (by rw [e]))⟩ (by simp))
    · simp; omega
    · intro i hi
      by_cases hlt : i < m
      · simp [hlt, List.getElem?_append, hlen]
      · have : m + (i - m) = i := by omega
        simp [hlt, List.getElem?_append, this]
        have := hc i hi
        simpa using this

theorem info52 : (Try.prog.info? 52).map (fun i => (i.zero, i.size, i.bytes)) = some (some (.int .u16 0), 1, 2) := by kernel_rfl
theorem info30 : (Try.prog.info? 30).map (fun i => (i.zero, i.size, i.bytes)) = some (some (.int .u16 0), 1, 2) := by kernel_rfl
theorem size5' : (Try.prog.info? 5).map (·.size) = some 1 := by kernel_rfl

theorem src_later {w w1 : World} {ain : Option Addr} {lin : Nat} {fin : Nat → Int} (h : ∀ j, j < lin → ∃ ad, ain = some ad ∧ w.cell? (ad.add j) = some (.int .u8 (fin j))) (hb : Below w.heap.size w w1) :
    ∀ j, j < lin → ∃ ad, ain = some ad ∧ w1.cell? (ad.add j) = some (.int .u8 (fin j)) := fun j hj => by
  obtain ⟨ad, e, hc⟩ := h j hj
  exact ⟨ad, e, cell_later hb hc⟩

/-- WHAT ZZTree LEAVES. -/
def ZPost (w : World) (N n : Nat) (f : Nat → Int) (ip : Int) (e : Ending) (w' : World) : Prop :=
  ∃ (r' c' : Int) (d m go : Nat) (f' : Nat → Int), e = .returned (.tuple #[.int .u32 r', .int .u32 c', .int .i64 (wrap64 (ip + (d : Int))), .int .u32 ((m : Int) - (N : Int)), .slice (some ⟨go, 0, none⟩) N N]) ∧ d ≤ n ∧ N ≤ m ∧ m < 2 * N ∧
    w'.rowIs go 30 N (fun i => .int .u16 (f' i)) ∧ (∀ i, f' i ≠ f i → ∃ j, j < n ∧ i = m / 2 ^ (n - j)) ∧ Below w.heap.size w w' ∧ w.heap.size ≤ go

/-- While the probabilities are copied: k of them lie in the call's second block. -/
def Z1 (w : World) (lin : Nat) (fin : Nat → Int) (N : Nat) (f : Nat → Int) (k : Nat) (wr : World) : Prop :=
  wr.rowIs (w.heap.size + 1) 52 N (fun i => if i < k then .int .u16 (f i) else .int .u16 0) ∧ wr.rowIs w.heap.size 59 65536 (fun i => if i < lin then .int .u8 (fin i) else .int .u8 0) ∧ Below w.heap.size w wr ∧ wr.heap.size = w.heap.size + 2

theorem z1_start {w w1 w2 : World} {lin N : Nat} {fin f : Nat → Int} (hb : Below w.heap.size w w1) (h1 : w1.heap.size = w.heap.size + 1) (hr : w2.rowIs w.heap.size 59 65536 (fun i => if i < lin then .int .u8 (fin i) else .int .u8 0)) (hg : w1.grownBy w2 (some w.heap.size)) (h2 : w2.heap.size = w1.heap.size) :
    Z1 w lin fin N f 0 (w2.alloc (.cells (madeCells #[.int .u16 0] N) 52)) := by
  have e : w.heap.size + 1 = w2.heap.size := by omega
  refine ⟨?_, hr.alloc _, (hb.grown hg hb.size (fun k hk => by cases hk; exact Nat.le_refl _)).alloc (by omega) _, by simp; omega⟩
  rw [e]
  exact (World.rowIs_made w2 (.int .u16 0) N 52).congr fun i _ => by simp

theorem z1_step {w wr : World} {lin N gp k : Nat} {fin f : Nat → Int} (h : Z1 w lin fin N f k wr) (hrow : w.rowIs gp 30 N (fun i => .int .u16 (f i))) (hk : k < N) :
    wr.cell? ⟨gp, k, none⟩ = some (.int .u16 (f k)) ∧ ∃ v0, wr.cell? ⟨w.heap.size + 1, k, none⟩ = some v0 ∧ wr.frozen? ⟨w.heap.size + 1, k, none⟩ = false ∧ Z1 w lin fin N f (k + 1) (wr.setCell ⟨w.heap.size + 1, k, none⟩ (.int .u16 (f k))) := by
  obtain ⟨h1, h2, h3, h4⟩ := h
  refine ⟨(h3.cell (p := ⟨gp, k, none⟩) hrow.lt).trans (hrow.cell hk), _, h1.cell hk, h1.frozen k, ?_, h2.setOther (a := ⟨w.heap.size + 1, k, none⟩) (by simp) _, h3.setCell (p := ⟨w.heap.size + 1, k, none⟩) (Nat.le_succ _) _, by simpa [World.setCell] using h4⟩
  refine (h1.set k _).congr fun i hi => ?_
  by_cases e : i = k
  · subst e; simp
  · by_cases h9 : i < k
    · simp [e, h9, Nat.lt_succ_of_lt h9]
    · have h10 : ¬ i < k + 1 := by omega
      simp [e, h9, h10]

theorem z1_call {w wr : World} {lin N k : Nat} {fin f : Nat → Int} (r c ip : Int) (n : Nat) (h : Z1 w lin fin N f k wr) (hk : N ≤ k) (hr : 0 ≤ r ∧ r < 4294967296 ∧ 0 ≤ c ∧ c < 4294967296) (hip : -9223372036854775808 ≤ ip ∧ ip ≤ 9223372036854775807) (hn : 1 ≤ n) (hn2 : n ≤ 16) (hN : N = 2 ^ n)
    (hf : ∀ i, 0 ≤ f i ∧ f i < 65536) (hfin : ∀ j, j < lin → 0 ≤ fin j ∧ fin j ≤ 255) :
    Calls Try.prog 29 #[.agg #[.int .u32 r, .int .u32 c, .int .i64 ip], .pointer (some ⟨w.heap.size, 0, none⟩), .slice (some ⟨w.heap.size + 1, 0, none⟩) N N, .int .u64 n] wr fun e w' => TPost wr (w.heap.size + 1) N n f ip e w' := by
  obtain ⟨h1, h2, h3, h4⟩ := h
  refine tree_any r c ip (w.heap.size + 1) w.heap.size N n f wr hr hip hn hn2 hN (h1.congr fun i hi => ?_) hf (fun i hi => ?_) (by omega)
  · have : i < k := by omega
    simp [this]
  · by_cases hl : i < lin
    · have := h2.cell hi
      simp only [hl, if_true] at this
      exact ⟨fin i, (hfin i hl).1, (hfin i hl).2, this⟩
    · have := h2.cell hi
      simp only [hl, if_false] at this
      exact ⟨0, by omega, by omega, this⟩

theorem z_below {w wr w3 : World} (h : Below w.heap.size w wr ∧ wr.heap.size = w.heap.size + 2) (hg : wr.grownBy w3 (some (w.heap.size + 1))) : Below w.heap.size w w3 :=
  h.1.grown hg h.1.size (fun k hk => by cases hk; exact Nat.le_succ _)
theorem z_size {w wr w3 : World} (h : Below w.heap.size w wr ∧ wr.heap.size = w.heap.size + 2) (hg : wr.grownBy w3 (some (w.heap.size + 1))) : w.heap.size + 2 ≤ w3.heap.size := by
  have := hg.size
  omega

/-- While the probabilities are handed back: k of them lie in the last block. -/
def Z2 (w w3 : World) (N : Nat) (f' : Nat → Int) (r c ip : Int) (k : Nat) (wr : World) : Prop :=
  wr.rowIs (w3.heap.size + 1) 30 N (fun i => if i < k then .int .u16 (f' i) else .int .u16 0) ∧ wr.rowIs (w.heap.size + 1) 52 N (fun i => .int .u16 (f' i)) ∧ wr.heap[w3.heap.size]? = some (.cells #[.int .u32 r, .int .u32 c, .int .i64 ip] 54 (0, 0)) ∧ Below w.heap.size w wr

theorem z2_start {w w3 : World} {N : Nat} {f' : Nat → Int} {r c ip : Int} (hr : w3.rowIs (w.heap.size + 1) 52 N (fun i => .int .u16 (f' i))) (hb : Below w.heap.size w w3) (hs : w.heap.size + 2 ≤ w3.heap.size) :
    Z2 w w3 N f' r c ip 0 ((w3.alloc (.cells #[.int .u32 r, .int .u32 c, .int .i64 ip] 54)).alloc (.cells (madeCells #[.int .u16 0] N) 30)) := by
  refine ⟨?_, (hr.alloc _).alloc _, ?_, (hb.alloc (by omega) _).alloc (by simp; omega) _⟩
  · have := World.rowIs_made (w3.alloc (.cells #[.int .u32 r, .int .u32 c, .int .i64 ip] 54)) (.int .u16 0) N 30
    simp only [World.size_alloc] at this
    exact this.congr fun i _ => by simp
  · rw [Below.heap_alloc _ _ _ (by simp)]
    show (w3.heap.push _)[w3.heap.size]? = _
    simp

theorem z2_step {w w3 wr : World} {N k : Nat} {f' : Nat → Int} {r c ip : Int} (h : Z2 w w3 N f' r c ip k wr) (hs : w.heap.size + 2 ≤ w3.heap.size) (hk : k < N) :
    wr.cell? ⟨w.heap.size + 1, k, none⟩ = some (.int .u16 (f' k)) ∧ ∃ v0, wr.cell? ⟨w3.heap.size + 1, k, none⟩ = some v0 ∧ wr.frozen? ⟨w3.heap.size + 1, k, none⟩ = false ∧ Z2 w w3 N f' r c ip (k + 1) (wr.setCell ⟨w3.heap.size + 1, k, none⟩ (.int .u16 (f' k))) := by
  obtain ⟨h1, h2, h3, h4⟩ := h
  refine ⟨h2.cell hk, _, h1.cell hk, h1.frozen k, ?_, h2.setOther (a := ⟨w3.heap.size + 1, k, none⟩) (by simp; omega) _, (Below.heap_setCell _ _ _ _ (by simp)).trans h3, h4.setCell (p := ⟨w3.heap.size + 1, k, none⟩) (by simp; omega) _⟩
  refine (h1.set k _).congr fun i hi => ?_
  by_cases e : i = k
  · subst e; simp
  · by_cases h9 : i < k
    · simp [e, h9, Nat.lt_succ_of_lt h9]
    · have h10 : ¬ i < k + 1 := by omega
      simp [e, h9, h10]

theorem z2_end {w w3 wr : World} {N k : Nat} {f' : Nat → Int} {r c ip : Int} (h : Z2 w w3 N f' r c ip k wr) (hk : N ≤ k) :
    wr.cell? ⟨w3.heap.size, 0, none⟩ = some (.int .u32 r) ∧ wr.cell? ⟨w3.heap.size, 1, none⟩ = some (.int .u32 c) ∧ wr.cell? ⟨w3.heap.size, 2, none⟩ = some (.int .i64 ip) ∧ wr.rowIs (w3.heap.size + 1) 30 N (fun i => .int .u16 (f' i)) ∧ Below w.heap.size w wr := by
  obtain ⟨h1, h2, h3, h4⟩ := h
  refine ⟨?_, ?_, ?_, h1.congr fun i hi => ?_, h4⟩
  · simp [World.cell?, h3]
  · simp [World.cell?, h3]
  · simp [World.cell?, h3]
  · have : i < k := by omega
    simp [this]

set_option maxRecDepth 10000 in
set_option maxHeartbeats 1600000 in
theorem zzTree_any (r c ip : Int) (ain : Option Addr) (lin cin : Nat) (fin : Nat → Int) (gp N n : Nat) (f : Nat → Int) (w : World) (hr : 0 ≤ r ∧ r < 4294967296 ∧ 0 ≤ c ∧ c < 4294967296) (hip : -9223372036854775808 ≤ ip ∧ ip ≤ 9223372036854775807) (hn : 1 ≤ n) (hn2 : n ≤ 16) (hN : N = 2 ^ n)
    (hlin : lin ≤ 65536) (hsrc : ∀ j, j < lin → ∃ ad, ain = some ad ∧ w.cell? (ad.add j) = some (.int .u8 (fin j))) (hfin : ∀ j, j < lin → 0 ≤ fin j ∧ fin j ≤ 255)
    (hrow : w.rowIs gp 30 N (fun i => .int .u16 (f i))) (hf : ∀ i, 0 ≤ f i ∧ f i < 65536) :
    Calls Try.prog 24 #[.int .u32 r, .int .u32 c, .int .i64 ip, .slice ain lin cin, .slice (some ⟨gp, 0, none⟩) N N, .int .u64 n] w fun e w' => ZPost w N n f ip e w' := by
  have hN1 : 2 ≤ N := by
    rw [hN]
    calc 2 = 2 ^ 1 := rfl
      _ ≤ 2 ^ n := Nat.pow_le_pow_right (by omega) hn
  have hN2 : N ≤ 65536 := by
    rw [hN]
    calc 2 ^ n ≤ 2 ^ 16 := Nat.pow_le_pow_right (by omega) hn2
      _ = 65536 := rfl
  have b2 : (N : Int) ≤ 65536 := by omega
  have HN := hidT hN
  have HS := hidT hsrc
  have HF := hidT hfin
  have HR := hidT hrow
  have HFF := hidT hf
  have hmk1 := run_make_row' (P := Try.prog) 60 52 (.int .u16 0) 2 Try.underlying60 info52 rfl .i64 .i64 N (by omega) (by omega)
  have hmk2 := run_make_row' (P := Try.prog) 37 30 (.int .u16 0) 2 Try.underlying37 info30 rfl .i64 .i64 N (by omega) (by omega)
  clear hN hsrc hfin hrow hf
  go_enter Try.func24, Try.ntmps24
  go_wp2_with (first
    | (refine wpList_alloc59 rfl rfl ?_; intro w1 hrow1 hbel1 hsz1; have HR1 := hidT hrow1; have HB1 := hidT hbel1; clear hrow1 hbel1)
    | (refine wpList_copy_rows rfl (.tmp 24) (.tmp 25) 22 22 rfl 5 Try.underlying22 size5' w.heap.size 65536 65536 ain lin cin (by simp [Act.eval]) (by simp [Act.eval]) 65536 59 (fun _ => .int .u8 0) HR1.out lin (Nat.min_eq_left hlin).symm hlin (fun i => .int .u8 (fin i)) (fun _ _ => rfl) (src_later HS.out HB1.out) ?_; intro w2 hrow2 hgr2 hsz2; have HR2 := hidT hrow2; have HG2 := hidT hgr2; clear hrow2 hgr2))
  have HZ0 : Hid (Z1 w lin fin N f 0 (w2.alloc (.cells (madeCells #[.int .u16 0] N) 52))) := z1_start HB1.out hsz1 HR2.out HG2.out hsz2
  have HGP := hidT (HR.out.lt)
  clear HR1 HB1 HR2 HG2 hsz1 hsz2
  go_loopw [32] (fun s32 wr => ∃ k : Nat, k ≤ N ∧ s32 = .int .i64 k ∧ Hid (Z1 w lin fin N f k wr)) (fun s32 _ => N - (intOf s32).toNat)
  case atStart => exact ⟨0, Nat.zero_le _, rfl, HZ0⟩
  case round =>
    clear HZ0
    obtain ⟨k, hk, rfl, HZ⟩ := hrel
    have hk' : (k : Int) ≤ (N : Int) := by omega
    by_cases hlt : k < N
    · have hlt' : (k : Int) < (N : Int) := by omega
      obtain ⟨cs, v0, cd, fz, hnext⟩ := z1_step HZ.out HR.out hlt
      have HX := hidT hnext
      clear hnext HZ
      go_wp2
      go_roundw
      case rel => exact ⟨k + 1, by omega, by go_num, HX⟩
      case measure => simp [intOf]; omega
    · have hlt' : ¬ (k : Int) < (N : Int) := by omega
      have HC := hidT (z1_call r c ip n HZ.out (by omega) hr hip hn hn2 HN.out HFF.out HF.out)
      have HZB := hidT (HZ.out.2.2)
      clear HZ
      go_wp2_with fail
      refine HC.out.mono ?_
      rintro e w3 ⟨r', c', d, m, f', rfl, hd, hm1, hm2, hrow3, hff3, hP, hgr⟩
      have H3 := hidT (And.intro hrow3 (And.intro hff3 (And.intro hP (z_below HZB.out hgr))))
      have s3 : w.heap.size + 2 ≤ w3.heap.size := z_size HZB.out hgr
      clear HC hrow3 hff3 hP hgr HZB
      go_wp2
      have HY0 : Hid (Z2 w w3 N f' r' c' (wrap64 (ip + (d : Int))) 0 ((w3.alloc (.cells #[.int .u32 r', .int .u32 c', .int .i64 (wrap64 (ip + (d : Int)))] 54)).alloc (.cells (madeCells #[.int .u16 0] N) 30))) := z2_start H3.out.1 H3.out.2.2.2 s3
      go_loopw [58] (fun s58 wr => ∃ k : Nat, k ≤ N ∧ s58 = .int .i64 k ∧ Hid (Z2 w w3 N f' r' c' (wrap64 (ip + (d : Int))) k wr)) (fun s58 _ => N - (intOf s58).toNat)
      case atStart => exact ⟨0, Nat.zero_le _, rfl, HY0⟩
      case round =>
        clear HY0
        obtain ⟨k2, hk2, rfl, HY⟩ := hrel
        have hk2' : (k2 : Int) ≤ (N : Int) := by omega
        by_cases hlt2 : k2 < N
        · have hlt2' : (k2 : Int) < (N : Int) := by omega
          have hv := H3.out.2.1 k2
          obtain ⟨cs, v0, cd, fz, hnext⟩ := z2_step HY.out s3 hlt2
          have HX := hidT hnext
          clear hnext HY
          go_wp2
          go_roundw
          case rel => exact ⟨k2 + 1, by omega, by go_num, HX⟩
          case measure => simp [intOf]; omega
        · have hlt2' : ¬ (k2 : Int) < (N : Int) := by omega
          obtain ⟨c0, c1, c2, crow, cbel⟩ := z2_end HY.out (by omega)
          have HE := hidT (And.intro crow cbel)
          clear HY crow cbel
          go_wp2
          go_quiet (fail)
          go_wp2
          exact bodyPost_ret (v := .tuple #[.int .u32 r', .int .u32 c', .int .i64 (wrap64 (ip + (d : Int))), .int .u32 ((m : Int) - (N : Int)), .slice (some ⟨w3.heap.size + 1, 0, none⟩) N N]) (by simp [results, Try.results24, go_sem]) rfl ⟨r', c', d, m, w3.heap.size + 1, f', rfl, hd, hm1, hm2, HE.out.1, H3.out.2.2.1, below_drewN HE.out.2 _, by omega⟩
end Go.Proofs.Qxb6001347a

/-
  (Position).Beyond (function 11) against a position that knows nothing.
-/
import Derived.Test.Qxb6601115aPos
namespace Go.Proofs.Qxb6601115a
open Go.RowKit
set_option linter.unusedVariables false

/-- The entries with a nonzero sequence, in order. -/
def sel (D S Q : Nat → Int) : Nat → List (Int × Int × Int)
  | 0 => []
  | k + 1 => if Q k = 0 then sel D S Q k else sel D S Q k ++ [(D k, S k, Q k)]
/-- The six cells of one range. -/
def rg (t : Int × Int × Int) : List Value := [.int .u32 t.1, .int .u32 t.2.1, .int .u64 1, .int .u32 t.1, .int .u32 t.2.1, .int .u64 t.2.2]
def rgs (l : List (Int × Int × Int)) : List Value := l.flatMap rg

theorem sel_le (D S Q : Nat → Int) (k : Nat) : (sel D S Q k).length ≤ k := by
  induction k with
  | zero => simp [sel]
  | succ k ih =>
    unfold sel
    split
    · omega
    · simp; omega
theorem sel_miss {D S Q : Nat → Int} {k : Nat} (h : Q k = 0) : sel D S Q (k + 1) = sel D S Q k := by rw [sel, if_pos h]
theorem sel_hit {D S Q : Nat → Int} {k : Nat} (h : ¬ Q k = 0) : sel D S Q (k + 1) = sel D S Q k ++ [(D k, S k, Q k)] := by rw [sel, if_neg h]
theorem rgs_snoc (l : List (Int × Int × Int)) (t : Int × Int × Int) : rgs (l ++ [t]) = rgs l ++ rg t := by simp [rgs]

/-- What is owned at the head of round k. -/
def Own (w : World) (D S Q : Nat → Int) (k : Nat) (v : Value) (wr : World) : Prop :=
  wr.ownsRow w.heap.size 35 6 v (sel D S Q k).length (rgs (sel D S Q k)) ∧ Below w.heap.size w wr

theorem news_cells (wr : World) (o1 o2 : Obj) (d s q : Int) : ∀ j u, (rg (d, s, q))[j]? = some u →
    (((wr.alloc o1).alloc o2).alloc (.cells #[.int .u32 d, .int .u32 s, .int .u64 1, .int .u32 d, .int .u32 s, .int .u64 q] 35)).cell? ((⟨wr.heap.size + 2, 0, none⟩ : Addr).add j) = some u := by
  intro j u hu
  have hb : (((wr.alloc o1).alloc o2).alloc (.cells #[.int .u32 d, .int .u32 s, .int .u64 1, .int .u32 d, .int .u32 s, .int .u64 q] 35)).heap[wr.heap.size + 2]? = some (.cells #[.int .u32 d, .int .u32 s, .int .u64 1, .int .u32 d, .int .u32 s, .int .u64 q] 35) := by
    show (((wr.heap.push o1).push o2).push _)[wr.heap.size + 2]? = _
    rw [Array.getElem?_push]
    simp
  rw [Addr.add_lit, Nat.zero_add]
  simp only [World.cell?, hb]
  simpa [rg] using hu
theorem rg_one (t : Int × Int × Int) : ∀ u ∈ rg t, u.oneCell' = true := by
  intro u hu
  simp only [rg, List.mem_cons, List.not_mem_nil, or_false] at hu
  rcases hu with rfl | rfl | rfl | rfl | rfl | rfl <;> rfl
theorem own_hit {w wr w1 : World} {D S Q : Nat → Int} {k : Nat} {v v' : Value} {o1 o2 o3 : Obj} (h : sel D S Q (k + 1) = sel D S Q k ++ [(D k, S k, Q k)]) (hk : Own w D S Q k v wr)
    (ho : w1.ownsRow w.heap.size 35 6 v' ((sel D S Q k).length + 1) (rgs (sel D S Q k) ++ rg (D k, S k, Q k))) (hg : (((wr.alloc o1).alloc o2).alloc o3).grownBy w1 v.ownBlock) : Own w D S Q (k + 1) v' w1 := by
  unfold Own
  rw [h, rgs_snoc, List.length_append]
  have hs := hk.2.size
  have hb : Below w.heap.size w (((wr.alloc o1).alloc o2).alloc o3) := ((hk.2.alloc hs _).alloc (by simp; omega) _).alloc (by simp; omega) _
  exact ⟨ho, hb.grown hg (by simp; omega) (fun j hj => (hk.1.lt j hj).1)⟩
theorem own_miss {w wr : World} {D S Q : Nat → Int} {k : Nat} {v : Value} {o : Obj} (h : sel D S Q (k + 1) = sel D S Q k) (hk : Own w D S Q k v wr) : Own w D S Q (k + 1) v (wr.alloc o) := by
  unfold Own
  rw [h]
  exact ⟨hk.1.alloc _, hk.2.alloc hk.2.size _⟩

set_option maxRecDepth 10000 in
set_option maxHeartbeats 1600000 in
theorem beyond_row (b n : Nat) (D S Q : Nat → Int) (aq : Option Addr) (cq : Nat) (w : World) (hn : n ≤ 4096) (hG : Gs w b n D S Q) (hQ : ∀ i, i < n → 0 ≤ Q i ∧ Q i ≤ 18446744073709551615) :
    Calls Try.prog 11 #[.slice (some ⟨b, 0, none⟩) n n, .slice aq 0 cq] w fun e w' => ∃ v, e = .returned v ∧ Own w D S Q n v w' := by
  have hn' : (n : Int) ≤ 4096 := by omega
  have hbB := hG.lt
  have HG := hid hG
  have HQ := hid hQ
  obtain ⟨i0, hi, hz0, hz1, hz2⟩ := info_parts info35
  clear hG hQ
  go_enter Try.func11, Try.ntmps11
  go_wp2
  go_loopw [5, 13] (fun v i wr => ∃ k : Nat, k ≤ n ∧ i = .int .i64 k ∧ Hid (Own w D S Q k v wr)) (fun _ i _ => n - (intOf i).toNat)
  case atStart => exact ⟨0, Nat.zero_le _, rfl, World.ownsRow_nil _ _ _ _, Below.refl _ _⟩
  case round =>
    obtain ⟨k, hk, rfl, HK⟩ := hrel
    by_cases hlt : k < n
    · have hlt' : (k : Int) < (n : Int) := by omega
      obtain ⟨q0, q1⟩ := HQ.out k hlt
      obtain ⟨s1, s2, s3⟩ := HG.out.cell hlt
      have t1 : wr.cell? ⟨b, k * 3, none⟩ = some (.int .u32 (D k)) := (HK.out.2.cell (p := ⟨b, k * 3, none⟩) hbB).trans s1
      have t2 : wr.cell? ⟨b, k * 3 + 1, none⟩ = some (.int .u32 (S k)) := (HK.out.2.cell (p := ⟨b, k * 3 + 1, none⟩) hbB).trans s2
      have t3 : wr.cell? ⟨b, k * 3 + 2, none⟩ = some (.int .u64 (Q k)) := (HK.out.2.cell (p := ⟨b, k * 3 + 2, none⟩) hbB).trans s3
      clear s1 s2 s3
      have hsz := HK.out.2.size
      by_cases hq : Q k = 0
      · rw [hq] at t3
        have HX := hid (And.intro (sel_miss (D := D) (S := S) hq) HK.out)
        clear hq q0 q1
        go_wp2_with (go_at_call 23; refine (seq_none aq cq _ _).mono ?_; rintro e w' ⟨rfl, rfl⟩)
        go_roundw
        case rel => exact ⟨k + 1, by omega, by go_num, own_miss HX.out.1 HX.out.2⟩
        case measure => simp [intOf]; omega
      · have hq' : (0 : Int) < Q k := by omega
        have HS := hid (sel_hit (D := D) (S := S) hq)
        clear hq
        have hlen := sel_le D S Q k
        go_wp2_with (first
          | (go_at_call 23; refine (seq_none aq cq _ _).mono ?_; rintro e w' ⟨rfl, rfl⟩)
          | (at_builtin; refine wpList_append_own _ rfl (.tmp 35) (.tmp 39) 28 rfl w.heap.size 35 i0 _ 6 32 Try.underlying28 hi hz0 hz1 hz2 rfl (by decide) u5 _ _ rfl (((HK.out.1.alloc _).alloc _).alloc _) ⟨wr.heap.size + 2, 0, none⟩ 1 1 (rg (D k, S k, Q k)) rfl rfl ?c1 ?c2 ?c3 ?c4 ?c5 ?_))
        case c1 => exact news_cells wr _ _ (D k) (S k) (Q k)
        case c2 => exact rg_one (D k, S k, Q k)
        case c3 => unfold maxLen; omega
        case c4 => omega
        case c5 => simp; omega
        · intro v' w1 hown' hgrow _
          have HX := hid (own_hit HS.out HK.out hown' hgrow)
          clear hown' hgrow
          go_wp2
          go_roundw
          case rel => exact ⟨k + 1, by omega, by go_num, HX⟩
          case measure => simp [intOf]; omega
    · have hlt' : ¬ (k : Int) < (n : Int) := by omega
      obtain rfl : k = n := by omega
      go_wp2
      go_ret
      exact ⟨_, rfl, HK.out⟩

set_option maxHeartbeats 400000 in
theorem beyond_nil (D S Q : Nat → Int) (aq : Option Addr) (cq : Nat) (w : World) :
    Calls Try.prog 11 #[.slice none 0 0, .slice aq 0 cq] w fun e w' => ∃ v, e = .returned v ∧ Own w D S Q 0 v w' := by
  go_enter Try.func11, Try.ntmps11
  go_wp2
  refine wp_loop_rounds 1 ?_
  rw [rounds_succ]
  go_wp2
  go_ret
  exact ⟨_, rfl, World.ownsRow_nil _ _ _ _, Below.refl _ _⟩

theorem beyond_any (g : Option Nat) (n : Nat) (D S Q : Nat → Int) (aq : Option Addr) (cq : Nat) (w : World) (hn : n ≤ 4096) (hnil : g = none → n = 0) (hG : ∀ b, g = some b → Gs w b n D S Q) (hQ : ∀ i, i < n → 0 ≤ Q i ∧ Q i ≤ 18446744073709551615) :
    Calls Try.prog 11 #[.slice (g.map fun b => ⟨b, 0, none⟩) n n, .slice aq 0 cq] w fun e w' => ∃ v, e = .returned v ∧ Own w D S Q n v w' := by
  cases g with
  | none =>
    obtain rfl := hnil rfl
    exact beyond_nil D S Q aq cq w
  | some b => exact beyond_row b n D S Q aq cq w hn (hG b rfl) hQ

/-! ### (Ranges).Count -/
/-- The sum of the sequences, as uint64 adds. -/
def smL (l : List (Int × Int × Int)) : Int := l.foldl (fun a t => IntKind.u64.wrap (a + t.2.2)) 0
theorem smL_snoc (l : List (Int × Int × Int)) (k : Nat) (h : k < l.length) : smL (l.take (k + 1)) = IntKind.u64.wrap (smL (l.take k) + l[k].2.2) := by
  unfold smL
  rw [List.take_succ_eq_append_getElem h, List.foldl_append]
  rfl
theorem rgs_get (l : List (Int × Int × Int)) : ∀ (i j : Nat) (h : i < l.length), j < 6 → (rgs l)[i * 6 + j]? = (rg l[i])[j]? := by
  induction l with
  | nil => intro i j h; simp at h
  | cons t l ih =>
    intro i j h hj
    have e : rgs (t :: l) = rg t ++ rgs l := by simp [rgs]
    have hl : (rg t).length = 6 := rfl
    rw [e]
    cases i with
    | zero =>
      rw [List.getElem?_append_left (by rw [hl]; omega)]
      simp
    | succ i =>
      rw [List.getElem?_append_right (by rw [hl]; omega), hl, show (i + 1) * 6 + j - 6 = i * 6 + j by omega]
      simpa using ih i j (by simpa using h) hj

theorem range_cells {w : World} {base g cap : Nat} {l : List (Int × Int × Int)} (h : w.ownsRow base 35 6 (.slice (some ⟨g, 0, none⟩) l.length cap) l.length (rgs l)) {k : Nat} (hk : k < l.length) :
    w.cell? ⟨g, k * 6, none⟩ = some (.int .u32 l[k].1) ∧ w.cell? ⟨g, k * 6 + 1, none⟩ = some (.int .u32 l[k].2.1) ∧ w.cell? ⟨g, k * 6 + 2, none⟩ = some (.int .u64 1) ∧
    w.cell? ⟨g, k * 6 + 3, none⟩ = some (.int .u32 l[k].1) ∧ w.cell? ⟨g, k * 6 + 4, none⟩ = some (.int .u32 l[k].2.1) ∧ w.cell? ⟨g, k * 6 + 5, none⟩ = some (.int .u64 l[k].2.2) := by
  refine ⟨?_, ?_, ?_, ?_, ?_, ?_⟩
  · rw [h.cellAt (k * 6) (by omega)]; exact rgs_get l k 0 hk (by omega)
  · rw [h.cellAt (k * 6 + 1) (by omega)]; exact rgs_get l k 1 hk (by omega)
  · rw [h.cellAt (k * 6 + 2) (by omega)]; exact rgs_get l k 2 hk (by omega)
  · rw [h.cellAt (k * 6 + 3) (by omega)]; exact rgs_get l k 3 hk (by omega)
  · rw [h.cellAt (k * 6 + 4) (by omega)]; exact rgs_get l k 4 hk (by omega)
  · rw [h.cellAt (k * 6 + 5) (by omega)]; exact rgs_get l k 5 hk (by omega)

set_option maxRecDepth 10000 in
set_option maxHeartbeats 1000000 in
theorem count_row (g cap base : Nat) (l : List (Int × Int × Int)) (w : World) (hown : w.ownsRow base 35 6 (.slice (some ⟨g, 0, none⟩) l.length cap) l.length (rgs l)) (hl : l.length ≤ 4096) (hq : ∀ t ∈ l, 0 ≤ t.2.2 ∧ t.2.2 ≤ 18446744073709551615) :
    Calls Try.prog 17 #[.slice (some ⟨g, 0, none⟩) l.length cap] w fun e w' => e = .returned (.int .u64 (smL l)) ∧ Below w.heap.size w w' := by
  obtain ⟨n, hn⟩ : ∃ n, n = l.length := ⟨_, rfl⟩
  have HO := hid hown
  have HL := hid hn
  have HQ := hid hq
  rw [← hn]
  have hn' : (n : Int) ≤ 4096 := by omega
  have hgl : g < w.heap.size := (hown.lt g rfl).2
  clear hown hn hq
  go_enter Try.func17, Try.ntmps17
  go_wp2
  go_loopw [3, 8] (fun a i wr => ∃ (k : Nat) (x : Int), k ≤ n ∧ i = .int .i64 k ∧ a = .int .u64 x ∧ Hid (x = smL (l.take k) ∧ Below w.heap.size w wr)) (fun _ i _ => n - (intOf i).toNat)
  case atStart => exact ⟨0, 0, Nat.zero_le _, rfl, rfl, rfl, Below.refl _ _⟩
  case round =>
    obtain ⟨k, x, hk, rfl, rfl, HK⟩ := hrel
    by_cases hlt : k < n
    · have hlt' : (k : Int) < (n : Int) := by omega
      have hkl : k < l.length := by have := HL.out; omega
      obtain ⟨s0, s1, s2, s3, s4, s5⟩ := range_cells HO.out hkl
      have hbel := HK.out.2
      rw [← hbel.cell (p := ⟨g, k * 6, none⟩) hgl] at s0
      rw [← hbel.cell (p := ⟨g, k * 6 + 1, none⟩) hgl] at s1
      rw [← hbel.cell (p := ⟨g, k * 6 + 2, none⟩) hgl] at s2
      rw [← hbel.cell (p := ⟨g, k * 6 + 3, none⟩) hgl] at s3
      rw [← hbel.cell (p := ⟨g, k * 6 + 4, none⟩) hgl] at s4
      rw [← hbel.cell (p := ⟨g, k * 6 + 5, none⟩) hgl] at s5
      obtain ⟨q0, q1⟩ := HQ.out l[k] (List.getElem_mem hkl)
      have HS := hid (smL_snoc l k hkl)
      obtain ⟨t, ht⟩ : ∃ t, t = l[k] := ⟨_, rfl⟩
      rw [← ht] at s0 s1 s3 s4 s5 q0 q1
      obtain ⟨d, s, q⟩ := t
      have HT := hid ht
      have hsz := hbel.size
      clear ht hbel
      simp only at s0 s1 s3 s4 s5 q0 q1
      go_wp2_with fail
      refine (count1_any d s d s q _ q0 q1).mono ?_
      rintro e w2 ⟨rfl, hb2⟩
      have hB2 : Below w.heap.size w w2 := (HK.out.2.alloc HK.out.2.size _).trans (hb2.mono (by simp; omega))
      have HB2 := hid hB2
      clear hB2 hb2 s0 s1 s2 s3 s4 s5
      go_wp2
      go_roundw
      case rel => exact ⟨k + 1, _, by omega, by go_num, rfl, by rw [HS.out, ← HT.out, HK.out.1], HB2.out⟩
      case measure => simp [intOf]; omega
    · have hlt' : ¬ (k : Int) < (n : Int) := by omega
      go_wp2
      go_ret
      refine ⟨?_, HK.out.2⟩
      have h1 := HK.out.1
      have h2 := HL.out
      rw [List.take_of_length_le (by omega)] at h1
      show Ending.returned (Value.int IntKind.u64 x) = _
      rw [h1]

set_option maxHeartbeats 400000 in
theorem count_nil (w : World) : Calls Try.prog 17 #[.slice none 0 0] w fun e w' => e = .returned (.int .u64 0) ∧ Below w.heap.size w w' := by
  go_enter Try.func17, Try.ntmps17
  go_wp2
  refine wp_loop_rounds 1 ?_
  rw [rounds_succ]
  go_wp2
  go_ret
  exact ⟨rfl, Below.refl _ _⟩

/-- A slice of ranges that is owned shows its shape. -/
theorem own_shape {w : World} {base : Nat} {v : Value} {l : List (Int × Int × Int)} (h : w.ownsRow base 35 6 v l.length (rgs l)) : ∃ ao cap, v = .slice ao l.length cap ∧ ((ao = none ∧ l = [] ∧ cap = 0) ∨ ∃ g, ao = some ⟨g, 0, none⟩) := by
  rcases h.2 with ⟨rfl, h0⟩ | ⟨g, cap, cur, rfl, r⟩
  · have hl : l = [] := List.eq_nil_of_length_eq_zero h0
    subst hl
    exact ⟨none, 0, rfl, .inl ⟨rfl, rfl, rfl⟩⟩
  · exact ⟨some ⟨g, 0, none⟩, cap, rfl, .inr ⟨g, rfl⟩⟩

theorem count_any (ao : Option Addr) (cap base : Nat) (l : List (Int × Int × Int)) (w : World) (hown : w.ownsRow base 35 6 (.slice ao l.length cap) l.length (rgs l)) (hsh : (ao = none ∧ l = [] ∧ cap = 0) ∨ ∃ g, ao = some ⟨g, 0, none⟩) (hl : l.length ≤ 4096) (hq : ∀ t ∈ l, 0 ≤ t.2.2 ∧ t.2.2 ≤ 18446744073709551615) :
    Calls Try.prog 17 #[.slice ao l.length cap] w fun e w' => e = .returned (.int .u64 (smL l)) ∧ Below w.heap.size w w' := by
  rcases hsh with ⟨rfl, rfl, rfl⟩ | ⟨g, rfl⟩
  · exact count_nil w
  · exact count_row g cap base l w hown hl hq
end Go.Proofs.Qxb6601115a

/-
  The law 'FnUntransformSafeOnAnyInput' (function 4), walked over the contract of 'untransform'. Not trusted: the kernel checks it.
-/
import Derived.Test.Qxb6606288aUntr
import Derived.Laws.CopyOwn
import Derived.WalkLawsBesides
namespace Go.Proofs.Qxb6606288a
open Go.RowKit Go.Deep
set_option linter.unusedVariables false
theorem Try.info5 : (Try.prog.info? 5).map (fun i => (i.zero, i.size, i.bytes)) = some (some (.int .u8 0), 1, 1) := by kernel_rfl
theorem Try.sz5 : (Try.prog.info? 5).map (·.size) = some 1 := by kernel_rfl

set_option maxHeartbeats 400000 in
theorem clone_some (x : Addr) (n cap : Nat) (z : Nat → Int) (w : World) (hn : n ≤ 70000) (hc : ∀ i, i < n → w.cell? (x.add i) = some (.int .u8 (z i))) :
    Calls Try.prog 7 #[.slice (some x) n cap] w fun e w' => e = .returned (.slice (some ⟨w.heap.size, 0, none⟩) n n) ∧ w'.rowIs w.heap.size 5 n (fun i => .int .u8 (z i)) ∧ Below w.heap.size w w' := by
  have hmk := run_make_row' (P := Try.prog) 22 5 (.int .u8 0) 1 Try.underlying22 Try.info5 rfl .i64 .i64 n (by omega) (by omega)
  have hnil := fun w : World => Lib.run_eql_slice_nil (P := Try.prog) w 22 5 (some x) n cap 0 0 Try.underlying22
  obtain ⟨cs, hcs⟩ : ∃ cs : List Value, cs = (List.range n).map (fun i => Value.int .u8 (z i)) := ⟨_, rfl⟩
  have hl : cs.length = n := by simp [hcs]
  have hsrc : ∀ j v, cs[j]? = some v → (w.alloc (.cells (madeCells #[.int .u8 0] n) 5)).cell? (x.add j) = some v := by
    intro j v hv
    have hj : j < n := by
      have := (List.getElem?_eq_some_iff.1 hv).1; omega
    rw [hcs] at hv
    simp [hj] at hv
    subst hv
    rw [World.cell?_alloc_lt _ _ _ (World.block_lt_of_cell? w _ (hc j hj))]; exact hc j hj
  have h1 : ∀ v ∈ cs, v.oneCell' = true := by
    intro v hv; rw [hcs] at hv; simp at hv; obtain ⟨a, _, rfl⟩ := hv; rfl
  have hcp := run_copy_row (P := Try.prog) (w.alloc (.cells (madeCells #[.int .u8 0] n) 5)) 22 22 3 5 w.heap.size 0 n n x n cap (madeCells #[.int .u8 0] n) 5 cs Try.underlying22 Try.sz5 (heap_alloc_new w _) (by rw [hl]; simp) hsrc (by rw [hl, size_madeCells]; simp) h1
  obtain ⟨w2, hw2⟩ : ∃ w2, (w.alloc (.cells (madeCells #[.int .u8 0] n) 5)).setRow w.heap.size ((madeCells #[.int .u8 0] n).toList.take 0 ++ cs ++ (madeCells #[.int .u8 0] n).toList.drop (0 + cs.length)).toArray = w2 := ⟨_, rfl⟩
  rw [hw2, hl] at hcp
  have R : w2.rowIs w.heap.size 5 n (fun i => .int .u8 (z i)) := by
    rw [← hw2]
    refine ⟨_, setRow_heap _ _ _ _ _ _ (heap_alloc_new w _), ?_, ?_⟩
    · simp [hl, size_madeCells]
    · intro i hi
      rw [List.getElem?_toArray, List.take_zero, List.nil_append, List.getElem?_append_left (by omega), hcs]
      simp [hi]
  have B : Below w.heap.size w w2 := by
    rw [← hw2]
    exact below_setRow ((Below.refl _ _).alloc (Nat.le_refl _) _) (Nat.le_refl _) _
  have HR := hide R
  have HB := hide B
  clear R B hw2 h1 hsrc hcs hc hl
  go_enter Try.func7, Try.ntmps7
  go_wp2
  go_ret
  exact ⟨rfl, HR.out, HB.out⟩

set_option maxHeartbeats 400000 in
theorem zz_any (a : Option Addr) (n cap : Nat) (p : Int) (w : World) (hn : n ≤ maxLen) :
    Calls Try.prog 11 #[.slice a n cap, .int .i64 p] w fun e w' => e = .returned (.bool (decide (n ≤ 1048576))) ∧ w' = w := by
  unfold maxLen at hn
  by_cases h : n ≤ 1048576
  · rw [decide_eq_true h]
    go_enter Try.func11, Try.ntmps11
    go_wp2
    go_ret
    exact ⟨rfl, rfl⟩
  · rw [decide_eq_false h]
    go_enter Try.func11, Try.ntmps11
    go_wp2
    go_ret
    exact ⟨rfl, rfl⟩

/-! ### plain: every byte that comes out is 0 or a byte that came in -/
def pres (L : Nat → Nat) : Nat → Nat → Bool
  | 0, c => c == 0
  | k + 1, c => (L k == c) || pres L k c

theorem pres_zero (L : Nat → Nat) (k : Nat) : pres L k 0 = true := by
  induction k with
  | zero => rfl
  | succ k ih => simp [pres, ih]
theorem pres_of (L : Nat → Nat) (k i : Nat) (h : i < k) : pres L k (L i) = true := by
  induction k with
  | zero => omega
  | succ k ih =>
    by_cases e : i = k
    · subst e; simp [pres]
    · simp [pres, ih (by omega)]
theorem pres_upd (L : Nat → Nat) (k d : Nat) : pres L (k + 1) d = if d = L k then true else pres L k d := by
  simp only [pres]
  by_cases h : d = L k
  · subst h; simp
  · have e : (L k == d) = false := by simp; omega
    rw [e, if_neg h]; simp

theorem outv_pres (L : Nat → Nat) (n p j : Nat) (hL : ∀ i, L i < 256) (hp : 1 ≤ p) (hpn : p ≤ n) : pres L n (outv L n p j) = true := by
  unfold outv rowv
  split
  · exact pres_zero L n
  · have h1 := hL (idx p (rr L n p (n - 1 - j)))
    rw [show (lf L n (idx p (rr L n p (n - 1 - j))) * 256 + L (idx p (rr L n p (n - 1 - j)))) % 256 = L (idx p (rr L n p (n - 1 - j))) from by omega]
    exact pres_of L n _ (idx_lt hp hpn (rr_le L n p hL hp hpn _) ‹_›)
theorem outv_lt (L : Nat → Nat) (n p j : Nat) : outv L n p j < 256 := by unfold outv; omega
theorem outv_last (L : Nat → Nat) (n p : Nat) (hL : ∀ i, L i < 256) (hp : 1 ≤ p) (hpn : p ≤ n) : outv L n p (n - 1) = L 0 := by
  unfold outv
  rw [show n - 1 - (n - 1) = 0 from by omega]
  show rowv L n p 0 % 256 = L 0
  unfold rowv idx
  have h1 := hL 0
  rw [if_neg (by omega), if_pos (by omega)]
  omega

theorem z37 (w : World) : (zeroValue 37).run Try.prog w = .ok (.agg (Array.replicate 256 (.bool false))) w := by kernel_rfl
theorem zero37 : ∃ zs : Array Value, (∀ w, (zeroValue 37).run Try.prog w = .ok (.agg zs) w) ∧ zs.size = 256 ∧ ¬ zs = #[] ∧ ∀ i, i < 256 → zs[i]? = some (.bool false) :=
  ⟨_, z37, by simp, by intro h; have := congrArg Array.size h; simp at this, fun i hi => by simp [hi]⟩

set_option maxHeartbeats 400000 in
theorem zzuntr (n m p bu bl bb : Nat) (tu : TypeId) (L : Nat → Nat) (f : Nat → Value) (w : World) (hn : n ≤ 65536) (hp : 1 ≤ p) (hpn : p ≤ n) (hnm : n ≤ m) (hm : m ≤ 140000)
   (hL : ∀ i, L i < 256) (hu : w.rowIs bu tu 1 (fun _ => .slice none 0 0)) (hl : w.rowIs bl 5 n (fun i => .int .u8 (L i))) (hb : w.rowIs bb 5 m f) (h1 : bu ≠ bl) (h2 : bu ≠ bb) (h3 : bl ≠ bb) :
    Calls Try.prog 9 #[.pointer (some ⟨bu, 0, none⟩), .slice (some ⟨bl, 0, none⟩) n n, .int .i64 p, .slice (some ⟨bb, 0, none⟩) m m] w fun e w' =>
      e = .returned (.tuple #[]) ∧ w'.rowIs bl 5 n (fun i => .int .u8 (L i)) ∧ w'.rowIs bb 5 m (fun j => if j < n then .int .u8 (outv L n p j) else f j) ∧ Touch (fun k => k = bu ∨ k = bb) w w' := by
  have U := hide (untr n m p bu bl bb tu L f w hn hp hpn hnm hm hL hu hl hb h1 h2 h3)
  clear hu hl hb
  go_enter Try.func9, Try.ntmps9
  go_wp2_with (go_at_call 14; refine (U.out).mono ?_; rintro e w' ⟨rfl, hq⟩)
  go_end0
  exact ⟨rfl, by assumption⟩

structure SW (w : World) (bl bb n : Nat) (L : Nat → Nat) (F : Nat → Value) (wr : World) : Prop where
  la : wr.rowIs bl 5 n (fun i => .int .u8 (L i))
  bk : wr.rowIs bb 5 (n + 8) F
  be : Below w.heap.size w wr

set_option maxHeartbeats 2000000 in
set_option maxRecDepth 100000 in
theorem walk_main (x : Addr) (n cap p : Nat) (L : Nat → Nat) (w : World) (hn : n ≤ 65536) (hp : 1 ≤ p) (hpn : p ≤ n) (hL : ∀ i, L i < 256) (hc : ∀ i, i < n → w.cell? (x.add i) = some (.int .u8 (L i))) :
    Calls Try.prog 4 #[.slice (some x) n cap, .int .i64 p] w fun e w' => e = .returned (.bool true) ∧ Below w.heap.size w w' := by
  have Z := hide (zz_any (some x) n cap p w (by unfold maxLen; omega))
  rw [decide_eq_true (by omega)] at Z
  have C := hide (clone_some x n cap (fun i => L i) w (by omega) hc)
  clear hc
  have h0 : ((n : Int) == 0) = false := by simp; omega
  have hmk := run_make_row' (P := Try.prog) 22 5 (.int .u8 0) 1 Try.underlying22 Try.info5 rfl .i64 .i64 (n + 8) (by omega) (by omega)
  rw [show ((n + 8 : Nat) : Int) = (n : Int) + 8 from by omega] at hmk
  obtain ⟨zs, hz, hzs, hzn, hz1⟩ := zero37
  have HZ := hide hz1
  clear hz1
  go_enter Try.func4, Try.ntmps4
  go_wp2_with (first | (go_at_call 11; refine (Z.out).mono ?_; rintro e w ⟨rfl, rfl⟩) | (go_at_call 7; refine (C.out).mono ?_; rintro e w1 ⟨rfl, hr1, hb1⟩))
  have ST : Hid (SW w w.heap.size w1.heap.size n L (fun j => if j < 0 then .int .u8 165 else .int .u8 0) (w1.alloc (.cells (madeCells #[.int .u8 0] (n + 8)) 5))) :=
    ⟨hr1.alloc _, (World.rowIs_made w1 (.int .u8 0) (n + 8) 5).congr (fun _ _ => rfl), hb1.alloc hb1.size _⟩
  have hbl : w.heap.size < w1.heap.size := hr1.lt
  have hb0 := hb1.size
  clear hr1 hb1 hmk Z C
  obtain ⟨bb, hbb⟩ : ∃ bb, w1.heap.size = bb := ⟨_, rfl⟩
  rw [hbb] at ST hbl hb0 ⊢
  clear hbb
  go_loopw [7] (fun i wr => ∃ k : Nat, k ≤ n + 8 ∧ i = .int .i64 k ∧ SW w w.heap.size bb n L (fun j => if j < k then .int .u8 165 else .int .u8 0) wr) (fun i _ => n + 8 - (intOf i).toNat)
  case atStart => exact ⟨0, Nat.zero_le _, rfl, ST.out⟩
  case round =>
    clear ST
    obtain ⟨k, hk, rfl, W⟩ := hrel
    by_cases hlt : k < n + 8
    · have g1 := W.bk.frozen k
      have g2 : wr.cell? ⟨bb, k, none⟩ = some (.int .u8 0) := by simpa using W.bk.cell hlt
      have N : Hid (SW w w.heap.size bb n L (fun j => if j < k + 1 then .int .u8 165 else .int .u8 0) (wr.setCell ⟨bb, k, none⟩ (.int .u8 165))) :=
        ⟨W.la.setOther (by simp; omega) _, (W.bk.set k _).congr (fun j _ => by
          show _ = if j < k + 1 then _ else _
          by_cases e : j = k
          · rw [if_pos e, if_pos (by omega)]
          · rw [if_neg e]
            by_cases e2 : j < k
            · rw [if_pos e2, if_pos (by omega)]
            · rw [if_neg e2, if_neg (by omega)]), W.be.setCell (by simp; omega) _⟩
      clear W
      go_wp2
      go_roundw
      case rel => exact ⟨k + 1, by omega, by go_num, N.out⟩
      case measure => simp [intOf]; omega
    · obtain rfl : k = n + 8 := by omega
      have R1 := W.la.alloc (.cells #[.slice none 0 0] 32)
      have R2 := (W.bk.congr (g := fun _ => .int .u8 165) (fun j hj => by simp [hj])).alloc (.cells #[.slice none 0 0] 32)
      have R3 := W.be.alloc (by have := W.bk.lt; omega) (.cells #[.slice none 0 0] 32)
      have R4 := World.rowIs_alloc wr #[.slice none 0 0] 32 (fun _ => .slice none 0 0) (by intro i hi; simp at hi; subst hi; rfl)
      have l1 := W.la.lt
      have l2 := W.bk.lt
      have U := hide (zzuntr n (n + 8) p wr.heap.size w.heap.size bb 32 L _ _ hn hp hpn (by omega) (by omega) hL R4 R1 R2 (by omega) (by omega) (by omega))
      have HR := hide R3
      clear W R1 R2 R3 R4 hlt hk
      go_wp2_with (go_at_call 9; refine (U.out).mono ?_; rintro e w2 ⟨rfl, R1, R2, R3⟩)
      have S0 : (w2.alloc (.cells (zs.setIfInBounds 0 (.bool true)) 37)).rowIs w2.heap.size 37 256 (fun c => .bool (pres L 0 c)) :=
        ⟨_, blk_alloc_new _ _, by simpa using hzs, fun c hc => by
          rw [Array.getElem?_setIfInBounds]
          by_cases e : c = 0
          · subst e; simp [hzs, pres]
          · rw [if_neg (fun h => e h.symm), HZ.out c hc]
            simp [pres]; omega⟩
      have B2 := R3.below (B := w.heap.size) (by intro k hk h; rcases h with h | h <;> omega) (by simp; omega)
      have ST : Hid (SW w w.heap.size bb n L (fun j => if j < n then .int .u8 (outv L n p j) else .int .u8 165) (w2.alloc (.cells (zs.setIfInBounds 0 (.bool true)) 37)) ∧ (w2.alloc (.cells (zs.setIfInBounds 0 (.bool true)) 37)).rowIs w2.heap.size 37 256 (fun c => .bool (pres L 0 c))) :=
        ⟨⟨R1.alloc _, R2.alloc _, (HR.out.trans B2).alloc (by have := R1.lt; omega) _⟩, S0⟩
      have l3 := R1.lt
      have l4 := R2.lt
      clear S0 B2 R1 R2 R3 U HR HZ hzs hz hzn
      obtain ⟨bp, hbp⟩ : ∃ bp, w2.heap.size = bp := ⟨_, rfl⟩
      rw [hbp] at ST l3 l4 ⊢
      clear hbp
      obtain ⟨wo, rfl⟩ : ∃ wo : World, wo = wr := ⟨_, rfl⟩
      go_loopw [10] (fun i wr => ∃ k : Nat, k ≤ n ∧ i = .int .i64 k ∧ SW w w.heap.size bb n L (fun j => if j < n then .int .u8 (outv L n p j) else .int .u8 165) wr ∧ wr.rowIs bp 37 256 (fun c => .bool (pres L k c))) (fun i _ => n - (intOf i).toNat)
      case atStart => exact ⟨0, Nat.zero_le _, rfl, ST.out⟩
      case round =>
        clear ST
        obtain ⟨k, hk, rfl, W, P⟩ := hrel
        by_cases hlt : k < n
        · have g1 := W.la.cell hlt
          have g2 := P.cell (hL k)
          have g3 := P.frozen (L k)
          have hLk := hL k
          have N : Hid (SW w w.heap.size bb n L (fun j => if j < n then .int .u8 (outv L n p j) else .int .u8 165) (wr.setCell ⟨bp, L k, none⟩ (.bool true)) ∧ (wr.setCell ⟨bp, L k, none⟩ (.bool true)).rowIs bp 37 256 (fun c => .bool (pres L (k + 1) c))) :=
            ⟨⟨W.la.setOther (by simp; omega) _, W.bk.setOther (by simp; omega) _, W.be.setCell (by simp; omega) _⟩, (P.set (L k) _).congr (fun c _ => by
              show (if c = L k then _ else _) = Value.bool (pres L (k + 1) c)
              rw [pres_upd]; split <;> rfl)⟩
          clear W P
          go_wp2
          go_roundw
          case rel => exact ⟨k + 1, by omega, by go_num, N.out⟩
          case measure => simp [intOf]; omega
        · obtain rfl : n = k := by omega
          have HW := hide W
          have HP := hide P
          clear W P hlt hk
          go_wp2
          obtain ⟨wo2, rfl⟩ : ∃ wo : World, wo = wr := ⟨_, rfl⟩
          go_loop [11] (fun i => ∃ k : Nat, k ≤ n ∧ i = .int .i64 k) (fun i => n - (intOf i).toNat)
          case atStart => exact ⟨0, Nat.zero_le _, rfl⟩
          case round =>
            obtain ⟨k, hk, rfl⟩ := hrel
            by_cases hlt : k < n
            · have g1 := HW.out.bk.cell (i := k) (by omega)
              rw [if_pos hlt] at g1
              have g2 := HP.out.cell (outv_lt L n p k)
              rw [outv_pres L n p k hL hp hpn] at g2
              have g3 := outv_lt L n p k
              obtain ⟨v, hv⟩ : ∃ v, outv L n p k = v := ⟨_, rfl⟩
              rw [hv] at g1 g2 g3
              clear hv
              go_wp2
              go_round
              case rel => exact ⟨k + 1, by omega, by go_num⟩
              case measure => simp [intOf]; omega
            · obtain rfl : n = k := by omega
              clear hlt hk HP
              go_wp2
              go_loop [12] (fun i => ∃ k : Nat, n ≤ k ∧ k ≤ n + 8 ∧ i = .int .i64 k) (fun i => n + 8 - (intOf i).toNat)
              case atStart => exact ⟨n, by omega, by omega, rfl⟩
              case round =>
                obtain ⟨k, hk0, hk, rfl⟩ := hrel
                by_cases hlt : k < n + 8
                · have g1 := HW.out.bk.cell (i := k) (by omega)
                  rw [if_neg (by omega)] at g1
                  go_wp2
                  go_round
                  case rel => exact ⟨k + 1, by omega, by omega, by go_num⟩
                  case measure => simp [intOf]; omega
                · obtain rfl : k = n + 8 := by omega
                  clear hlt hk hk0
                  have g1 := HW.out.bk.cell (i := n - 1) (by omega)
                  rw [if_pos (by omega), outv_last L n p hL hp hpn] at g1
                  have g2 := HW.out.la.cell (i := 0) (by omega)
                  have g3 : (1 : Int) ≤ (n : Int) := by omega
                  have e1 : ((n : Int) - 1).toNat = n - 1 := by omega
                  have HB := hide HW.out.be
                  clear HW
                  go_wp2
                  go_region
                  all_goals (try go_wp2)
                  all_goals go_ret
                  all_goals exact ⟨rfl, HB.out.drew⟩
end Go.Proofs.Qxb6606288a

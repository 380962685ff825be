/-
  grown at a nil slice of bools; countSymbols at byte and at int32, walked. Not trusted: the kernel checks it.
-/
import Derived.Test.Qxb6606288aWalkA
import Derived.Laws.CopyOwn
import Derived.WalkLawsBesides
namespace Go.Proofs.Qxb6606288a
open Go.RowKit Go.Deep
set_option linter.unusedVariables false
theorem Try.info4 : (Try.prog.info? 4).map (fun i => (i.zero, i.size, i.bytes)) = some (some (.bool false), 1, 1) := by kernel_rfl

set_option maxHeartbeats 400000 in
theorem grownB_nil (k : Nat) (h : k ≤ 100000) (h0 : 0 < k) (w : World) :
    Calls Try.prog 17 #[.slice none 0 0, .int .i64 k] w fun e w' => e = .returned (.slice (some ⟨w.heap.size, 0, none⟩) k k) ∧ w' = w.alloc (.cells (madeCells #[.bool false] k) 4) := by
  have hmk := run_make_row' (P := Try.prog) 46 4 (.bool false) 1 Try.underlying46 Try.info4 rfl .i64 .i64 k (by omega) (by omega)
  go_enter Try.func17, Try.ntmps17
  go_wp2
  go_ret
  exact ⟨rfl, rfl⟩

def cntTo (s : List Nat) (j a : Nat) : Nat := (List.range j).countP (fun q => decide (Sais.c s q = a))
theorem cntTo_step (s : List Nat) (j a : Nat) : cntTo s (j + 1) a = if a = Sais.c s j then cntTo s j a + 1 else cntTo s j a := by
  unfold cntTo
  rw [List.range_succ, List.countP_append]
  by_cases e : a = Sais.c s j
  · rw [if_pos e]; simp [e]
  · rw [if_neg e]; simp; exact fun h => e h.symm
theorem cntTo_le (s : List Nat) (j a : Nat) : cntTo s j a ≤ j := by
  unfold cntTo
  have := List.countP_le_length (p := fun q => decide (Sais.c s q = a)) (l := List.range j)
  rw [List.length_range] at this; exact this

theorem run_clear_row {P : Program} (w : World) (t e : TypeId) (z : Value) (ht : P.underlying t = some (.slice e)) (hv : ∀ w, (zeroValue e).run P w = .ok z w) (hz : z.cells = #[z]) (h1 : z.oneCell' = true) (g n c : Nat) (hn : 0 < n) (f : Nat → Value)
    (hr : w.rowIs g e n f) :
    ∃ w', (∀ ty, (Builtin.clear_ #[t] ty #[.slice (some ⟨g, 0, none⟩) n c]).run P w = .ok (.tuple #[]) w') ∧ w'.rowIs g e n (fun _ => z) ∧ Touch (· = g) w w' := by
  obtain ⟨cs, hg, hsz, _⟩ := hr
  have hzc : (Builtin.zeroCells z.cells n).toList = List.replicate n z := by
    rw [hz]
    simp [Builtin.zeroCells]
    apply List.ext_getElem
    · simp
    · intro i h1 h2
      simp [Nat.mod_one]
  have hst := run_storeCells_at P g 0 e (List.replicate n z) 0 cs w hg (by simp; omega) (by intro v hv'; rw [List.eq_of_mem_replicate hv']; exact h1)
  simp only [Nat.add_zero] at hst
  have e0 : (cs.toList.take 0 ++ List.replicate n z ++ cs.toList.drop (0 + (List.replicate n z).length)).toArray = (List.replicate n z).toArray := by
    rw [List.drop_eq_nil_of_le (by simp; omega)]; simp
  rw [e0] at hst
  refine ⟨w.setRow g (List.replicate n z).toArray, fun ty => ?_, ⟨_, setRow_heap w g cs _ e (0, 0) hg, by simp, fun i hi => by simp [hi]⟩, ⟨rfl, rfl, rfl, by simp [World.setRow], fun k _ hk => setRow_other w g k _ (by omega)⟩⟩
  obtain ⟨m, rfl⟩ : ∃ m, n = m + 1 := ⟨n - 1, by omega⟩
  simp [Builtin.clear_, run_underlying ht, hv, hzc, hst]

def CPost (s : List Nat) (lb lo NL k : Nat) (F : Nat → Value) (w : World) (e : Ending) (w' : World) : Prop :=
  ∃ (gc gt : Nat) (F' : Nat → Value), e = .returned (.tuple #[]) ∧ w'.rowIs lb 50 NL F' ∧ F' lo = .slice (some ⟨gc, 0, none⟩) k k ∧ F' (lo + 1) = .slice (some ⟨gt, 0, none⟩) k k ∧ (∀ x, x ≠ lo → x ≠ lo + 1 → F' x = F x) ∧
    w'.rowIs gc 21 k (fun a => .int .i32 (cntTo s s.length a : Nat)) ∧ w'.rowIs gt 21 k (fun a => .int .i32 0) ∧ w.heap.size ≤ gc ∧ w.heap.size ≤ gt ∧ gc ≠ gt ∧ Touch (· = lb) w w'

structure CS (w : World) (lb NL k gc gt : Nat) (F' : Nat → Value) (Cn : Nat → Nat) (wr : World) : Prop where
  lv : wr.rowIs lb 50 NL F'
  cn : wr.rowIs gc 21 k (fun a => .int .i32 (Cn a : Nat))
  at_ : wr.rowIs gt 21 k (fun _ => .int .i32 0)
  tc : Touch (· = lb) w wr

theorem CS.start {w : World} {lb lo NL k gc gt : Nat} {F : Nat → Value} (hL : w.rowIs lb 50 NL F) (hg : (gc = w.heap.size ∧ gt = w.heap.size + 1) ∨ (gc = w.heap.size + 1 ∧ gt = w.heap.size)) (vc vt : Value) :
    CS w lb NL k gc gt (fun x => if x = lo + 1 then vt else if x = lo then vc else F x) (fun _ => 0)
      ((((w.setCell ⟨lb, lo, none⟩ vc).setCell ⟨lb, lo + 1, none⟩ vt).alloc (.cells (madeCells #[.int .i32 0] k) 21)).alloc (.cells (madeCells #[.int .i32 0] k) 21)).drew := by
  have hsz : ((w.setCell ⟨lb, lo, none⟩ vc).setCell ⟨lb, lo + 1, none⟩ vt).heap.size = w.heap.size := by simp [World.setCell]
  have r0 := World.rowIs_made ((w.setCell ⟨lb, lo, none⟩ vc).setCell ⟨lb, lo + 1, none⟩ vt) (.int .i32 0) k 21
  have r1 := World.rowIs_made (((w.setCell ⟨lb, lo, none⟩ vc).setCell ⟨lb, lo + 1, none⟩ vt).alloc (.cells (madeCells #[.int .i32 0] k) 21)) (.int .i32 0) k 21
  rw [hsz] at r0
  rw [World.size_alloc, hsz] at r1
  have r0' := r0.alloc (.cells (madeCells #[.int .i32 0] k) 21)
  have hlv := (((hL.set lo vc).set (lo + 1) vt).alloc (.cells (madeCells #[.int .i32 0] k) 21)).alloc (.cells (madeCells #[.int .i32 0] k) 21)
  have ht : Touch (· = lb) w ((((w.setCell ⟨lb, lo, none⟩ vc).setCell ⟨lb, lo + 1, none⟩ vt).alloc (.cells (madeCells #[.int .i32 0] k) 21)).alloc (.cells (madeCells #[.int .i32 0] k) 21)).drew :=
    ((((((Touch.refl (· = lb) w).setCell (p := ⟨lb, lo, none⟩) (fun _ => rfl) vc).setCell (p := ⟨lb, lo + 1, none⟩) (fun _ => rfl) vt).alloc _).alloc _)).drew
  rcases hg with ⟨rfl, rfl⟩ | ⟨rfl, rfl⟩
  · exact ⟨hlv.drew, r0'.drew, r1.drew, ht⟩
  · exact ⟨hlv.drew, r1.drew, r0'.drew, ht⟩

theorem zero21 (w : World) : (zeroValue 21).run Try.prog w = .ok (.int .i32 0) w := by kernel_rfl

set_option maxHeartbeats 4000000 in
set_option maxRecDepth 100000 in
theorem count18 (s : List Nat) (gs os cs lb lo NL k : Nat) (F : Nat → Value) (w : World) (hk : k ≤ 100000) (hk0 : 0 < k) (hn : s.length ≤ 100000) (hsk : ∀ i, i < s.length → Sais.c s i < k) (hcs : s.length ≤ cs) (hcm : os + cs ≤ 2 ^ 62)
    (hS : ∀ i, i < s.length → w.cell? ⟨gs, os + i, none⟩ = some (.int .u8 (Sais.c s i : Nat))) (hgs : gs < w.heap.size) (hL : w.rowIs lb 50 NL F) (hlo : lo + 1 < NL) (hF0 : F lo = .slice none 0 0) (hF1 : F (lo + 1) = .slice none 0 0) (hne : gs ≠ lb) :
    Calls Try.prog 18 #[.pointer (some ⟨lb, lo, none⟩), .slice (some ⟨gs, os, none⟩) s.length cs, .int .i64 k] w (CPost s lb lo NL k F w) := by
  have hmk := run_make_row' (P := Try.prog) 25 21 (.int .i32 0) 4 Try.underlying25 Try.info21 rfl .i64 .i64 k (by omega) (by omega)
  have c0 := hL.cell (i := lo) (by omega)
  have c1 := hL.cell (i := lo + 1) hlo
  rw [hF0] at c0
  rw [hF1] at c1
  have f0 := hL.frozen lo
  have f1 := hL.frozen (lo + 1)
  have hlb := hL.lt
  have HS := hide hS
  have HK := hide hsk
  have ST1 := hide (CS.start (lo := lo) (k := k) (gc := w.heap.size) (gt := w.heap.size + 1) hL (.inl ⟨rfl, rfl⟩) (.slice (some ⟨w.heap.size, 0, none⟩) k k) (.slice (some ⟨w.heap.size + 1, 0, none⟩) k k))
  have ST2 := hide (CS.start (lo := lo) (k := k) (gc := w.heap.size + 1) (gt := w.heap.size) hL (.inr ⟨rfl, rfl⟩) (.slice (some ⟨w.heap.size + 1, 0, none⟩) k k) (.slice (some ⟨w.heap.size, 0, none⟩) k k))
  obtain ⟨W1, hW1⟩ : ∃ W1, ((((w.setCell ⟨lb, lo, none⟩ (.slice (some ⟨w.heap.size, 0, none⟩) k k)).setCell ⟨lb, lo + 1, none⟩ (.slice (some ⟨w.heap.size + 1, 0, none⟩) k k)).alloc (.cells (madeCells #[.int .i32 0] k) 21)).alloc (.cells (madeCells #[.int .i32 0] k) 21)).drew = W1 := ⟨_, rfl⟩
  obtain ⟨W2, hW2⟩ : ∃ W2, ((((w.setCell ⟨lb, lo, none⟩ (.slice (some ⟨w.heap.size + 1, 0, none⟩) k k)).setCell ⟨lb, lo + 1, none⟩ (.slice (some ⟨w.heap.size, 0, none⟩) k k)).alloc (.cells (madeCells #[.int .i32 0] k) 21)).alloc (.cells (madeCells #[.int .i32 0] k) 21)).drew = W2 := ⟨_, rfl⟩
  rw [hW1] at ST1
  rw [hW2] at ST2
  have HW1 := hide hW1
  have HW2 := hide hW2
  clear hW1 hW2 hS hsk hL hF0 hF1
  go_enter Try.func18, Try.ntmps18
  go_wp2
  go_region
  all_goals
    first
      | (rw [HW1.out]
         obtain ⟨gt, hgt⟩ : ∃ g, w.heap.size + 1 = g := ⟨_, rfl⟩
         rw [hgt] at ST1 ⊢
         obtain ⟨gc, hgc⟩ : ∃ g, w.heap.size = g := ⟨_, rfl⟩
         have ST : Hid (CS w lb NL k gc gt (fun x => if x = lo + 1 then .slice (some ⟨gt, 0, none⟩) k k else if x = lo then .slice (some ⟨gc, 0, none⟩) k k else F x) (fun _ => 0) W1) := by rw [← hgc]; exact ST1
         rw [hgc]
         obtain ⟨W, hW⟩ : ∃ W, W1 = W := ⟨_, rfl⟩
         rw [hW] at ST ⊢
         have q1 : w.heap.size ≤ gc := by omega
         have q2 : w.heap.size ≤ gt := by omega
         have q3 : gc ≠ gt := by omega
         clear hW hgc hgt)
      | (rw [HW2.out]
         obtain ⟨gc, hgc⟩ : ∃ g, w.heap.size + 1 = g := ⟨_, rfl⟩
         rw [hgc] at ST2 ⊢
         obtain ⟨gt, hgt⟩ : ∃ g, w.heap.size = g := ⟨_, rfl⟩
         have ST : Hid (CS w lb NL k gc gt (fun x => if x = lo + 1 then .slice (some ⟨gt, 0, none⟩) k k else if x = lo then .slice (some ⟨gc, 0, none⟩) k k else F x) (fun _ => 0) W2) := by rw [← hgt]; exact ST2
         rw [hgt]
         obtain ⟨W, hW⟩ : ∃ W, W2 = W := ⟨_, rfl⟩
         rw [hW] at ST ⊢
         have q1 : w.heap.size ≤ gc := by omega
         have q2 : w.heap.size ≤ gt := by omega
         have q3 : gc ≠ gt := by omega
         clear hW hgc hgt)
    clear ST1 ST2 HW1 HW2 W1 W2 c0 c1 f0 f1 hmk
    have c0 := ST.out.lv.cell (i := lo) (by omega)
    have c1 := ST.out.lv.cell (i := lo + 1) hlo
    have f0 := ST.out.lv.frozen lo
    have f1 := ST.out.lv.frozen (lo + 1)
    rw [if_neg (by omega), if_pos rfl] at c0
    rw [if_pos rfl] at c1
    have ST3 : Hid (CS w lb NL k gc gt (fun x => if x = lo + 1 then .slice (some ⟨gt, 0, none⟩) k k else if x = lo then .slice (some ⟨gc, 0, none⟩) k k else F x) (fun _ => 0) ((W.setCell ⟨lb, lo, none⟩ (.slice (some ⟨gc, 0, none⟩) k k)).setCell ⟨lb, lo + 1, none⟩ (.slice (some ⟨gt, 0, none⟩) k k)).drew) := by
      have h := ST.out
      refine ⟨(((h.lv.set lo _).set (lo + 1) _).congr (fun x _ => ?_)).drew, ((h.cn.setOther (by simp; omega) _).setOther (by simp; omega) _).drew, ((h.at_.setOther (by simp; omega) _).setOther (by simp; omega) _).drew, ((h.tc.setCell (p := ⟨lb, lo, none⟩) (fun _ => rfl) _).setCell (p := ⟨lb, lo + 1, none⟩) (fun _ => rfl) _).drew⟩
      by_cases e : x = lo + 1
      · rw [if_pos e, if_pos e]
      · rw [if_neg e, if_neg e]
        by_cases e2 : x = lo
        · rw [if_pos e2, if_pos e2]
        · rw [if_neg e2]
    obtain ⟨F', hF'⟩ : ∃ F' : Nat → Value, (fun x => if x = lo + 1 then Value.slice (some ⟨gt, 0, none⟩) k k else if x = lo then .slice (some ⟨gc, 0, none⟩) k k else F x) = F' := ⟨_, rfl⟩
    have G0 : Hid (F' lo = .slice (some ⟨gc, 0, none⟩) k k) := by unfold Hid; rw [← hF']; simp
    have G1 : Hid (F' (lo + 1) = .slice (some ⟨gt, 0, none⟩) k k) := by unfold Hid; rw [← hF']; simp
    have G2 : Hid (∀ x, x ≠ lo → x ≠ lo + 1 → F' x = F x) := by intro x h1 h2; rw [← hF']; simp [h1, h2]
    rw [hF'] at ST3
    clear ST hF'
    go_wp2
    go_region
    obtain ⟨W3, hW3⟩ : ∃ W3, ((W.setCell ⟨lb, lo, none⟩ (.slice (some ⟨gc, 0, none⟩) k k)).setCell ⟨lb, lo + 1, none⟩ (.slice (some ⟨gt, 0, none⟩) k k)).drew = W3 := ⟨_, rfl⟩
    rw [hW3] at ST3 ⊢
    clear hW3 c0 c1 f0 f1
    obtain ⟨W4, k1, k2, k3⟩ := run_clear_row (P := Try.prog) W3 25 21 (.int .i32 0) Try.underlying25 zero21 rfl rfl gc k k hk0 _ ST3.out.cn
    have ST4 : Hid (CS w lb NL k gc gt F' (cntTo s 0) W4) := by
      have h := ST3.out
      have hlb3 := h.lv.lt
      refine ⟨k3.row h.lv (by omega), k2, k3.row h.at_ (by omega), ?_⟩
      exact ⟨k3.os.trans h.tc.os, k3.tape.trans h.tc.tape, k3.output.trans h.tc.output, Nat.le_trans h.tc.size k3.size, fun x hx hS => (k3.block x (Nat.lt_of_lt_of_le hx h.tc.size) (by omega)).trans (h.tc.block x hx hS)⟩
    have c0 := ST3.out.lv.cell (i := lo) (by omega)
    rw [G0.out] at c0
    clear k2 k3 ST3
    go_wp2
    go_loopw [49] (fun i wr => ∃ j : Nat, j ≤ s.length ∧ i = .int .i64 j ∧ CS w lb NL k gc gt F' (cntTo s j) wr) (fun i _ => s.length - (intOf i).toNat)
    case atStart => exact ⟨0, Nat.zero_le _, rfl, ST4.out⟩
    case round =>
      clear c0 k1 ST4
      obtain ⟨j, hj, rfl, hW⟩ := hrel
      by_cases hlt : j < s.length
      · have g1 := (World.cell?_of_block (w := w) (a := ⟨gs, os + j, none⟩) (hW.tc.block gs hgs hne)).trans (HS.out j hlt)
        have g0 := HK.out j hlt
        have g2 := hW.lv.cell (i := lo) (by omega)
        rw [G0.out] at g2
        have g3 := hW.cn.cell g0
        have g4 := hW.cn.frozen (Sais.c s j)
        have g5 := cntTo_le s j (Sais.c s j)
        have N : Hid (CS w lb NL k gc gt F' (cntTo s (j + 1)) (wr.setCell ⟨gc, Sais.c s j, none⟩ (.int .i32 ((cntTo s j (Sais.c s j) : Nat) + 1)))) := by
          refine ⟨hW.lv.setOther (by simp; omega) _, (hW.cn.set _ _).congr (fun x _ => ?_), hW.at_.setOther (by simp; omega) _, hW.tc.setCell (by simp; omega) _⟩
          rw [cntTo_step]
          by_cases e : x = Sais.c s j
          · rw [if_pos e, if_pos e, e]; rfl
          · rw [if_neg e, if_neg e]
        obtain ⟨ch, hch⟩ : ∃ ch, Sais.c s j = ch := ⟨_, rfl⟩
        rw [hch] at g0 g1 g3 g4 g5 N
        obtain ⟨v, hv⟩ : ∃ v, cntTo s j ch = v := ⟨_, rfl⟩
        rw [hv] at g3 g5 N
        clear hW hch hv
        go_wp2
        go_roundw
        case rel => exact ⟨j + 1, by omega, by go_num, N.out⟩
        case measure => simp [intOf]; omega
      · obtain rfl : s.length = j := by omega
        have HW := hide hW
        clear hW
        go_wp2
        go_end0
        exact ⟨gc, gt, F', rfl, HW.out.lv, G0.out, G1.out, G2.out, HW.out.cn, HW.out.at_, q1, q2, q3, HW.out.tc⟩

/-! ### the twin at int32 -/
set_option maxHeartbeats 4000000 in
set_option maxRecDepth 100000 in
theorem count25 (s : List Nat) (gs os cs lb lo NL k : Nat) (F : Nat → Value) (w : World) (hk : k ≤ 100000) (hk0 : 0 < k) (hn : s.length ≤ 100000) (hsk : ∀ i, i < s.length → Sais.c s i < k) (hcs : s.length ≤ cs) (hcm : os + cs ≤ 2 ^ 62)
    (hS : ∀ i, i < s.length → w.cell? ⟨gs, os + i, none⟩ = some (.int .i32 (Sais.c s i : Nat))) (hgs : gs < w.heap.size) (hL : w.rowIs lb 50 NL F) (hlo : lo + 1 < NL) (hF0 : F lo = .slice none 0 0) (hF1 : F (lo + 1) = .slice none 0 0) (hne : gs ≠ lb) :
    Calls Try.prog 25 #[.pointer (some ⟨lb, lo, none⟩), .slice (some ⟨gs, os, none⟩) s.length cs, .int .i64 k] w (CPost s lb lo NL k F w) := by
  have hmk := run_make_row' (P := Try.prog) 25 21 (.int .i32 0) 4 Try.underlying25 Try.info21 rfl .i64 .i64 k (by omega) (by omega)
  have c0 := hL.cell (i := lo) (by omega)
  have c1 := hL.cell (i := lo + 1) hlo
  rw [hF0] at c0
  rw [hF1] at c1
  have f0 := hL.frozen lo
  have f1 := hL.frozen (lo + 1)
  have hlb := hL.lt
  have HS := hide hS
  have HK := hide hsk
  have ST1 := hide (CS.start (lo := lo) (k := k) (gc := w.heap.size) (gt := w.heap.size + 1) hL (.inl ⟨rfl, rfl⟩) (.slice (some ⟨w.heap.size, 0, none⟩) k k) (.slice (some ⟨w.heap.size + 1, 0, none⟩) k k))
  have ST2 := hide (CS.start (lo := lo) (k := k) (gc := w.heap.size + 1) (gt := w.heap.size) hL (.inr ⟨rfl, rfl⟩) (.slice (some ⟨w.heap.size + 1, 0, none⟩) k k) (.slice (some ⟨w.heap.size, 0, none⟩) k k))
  obtain ⟨W1, hW1⟩ : ∃ W1, ((((w.setCell ⟨lb, lo, none⟩ (.slice (some ⟨w.heap.size, 0, none⟩) k k)).setCell ⟨lb, lo + 1, none⟩ (.slice (some ⟨w.heap.size + 1, 0, none⟩) k k)).alloc (.cells (madeCells #[.int .i32 0] k) 21)).alloc (.cells (madeCells #[.int .i32 0] k) 21)).drew = W1 := ⟨_, rfl⟩
  obtain ⟨W2, hW2⟩ : ∃ W2, ((((w.setCell ⟨lb, lo, none⟩ (.slice (some ⟨w.heap.size + 1, 0, none⟩) k k)).setCell ⟨lb, lo + 1, none⟩ (.slice (some ⟨w.heap.size, 0, none⟩) k k)).alloc (.cells (madeCells #[.int .i32 0] k) 21)).alloc (.cells (madeCells #[.int .i32 0] k) 21)).drew = W2 := ⟨_, rfl⟩
  rw [hW1] at ST1
  rw [hW2] at ST2
  have HW1 := hide hW1
  have HW2 := hide hW2
  clear hW1 hW2 hS hsk hL hF0 hF1
  go_enter Try.func25, Try.ntmps25
  go_wp2
  go_region
  all_goals
    first
      | (rw [HW1.out]
         obtain ⟨gt, hgt⟩ : ∃ g, w.heap.size + 1 = g := ⟨_, rfl⟩
         rw [hgt] at ST1 ⊢
         obtain ⟨gc, hgc⟩ : ∃ g, w.heap.size = g := ⟨_, rfl⟩
         have ST : Hid (CS w lb NL k gc gt (fun x => if x = lo + 1 then .slice (some ⟨gt, 0, none⟩) k k else if x = lo then .slice (some ⟨gc, 0, none⟩) k k else F x) (fun _ => 0) W1) := by rw [← hgc]; exact ST1
         rw [hgc]
         obtain ⟨W, hW⟩ : ∃ W, W1 = W := ⟨_, rfl⟩
         rw [hW] at ST ⊢
         have q1 : w.heap.size ≤ gc := by omega
         have q2 : w.heap.size ≤ gt := by omega
         have q3 : gc ≠ gt := by omega
         clear hW hgc hgt)
      | (rw [HW2.out]
         obtain ⟨gc, hgc⟩ : ∃ g, w.heap.size + 1 = g := ⟨_, rfl⟩
         rw [hgc] at ST2 ⊢
         obtain ⟨gt, hgt⟩ : ∃ g, w.heap.size = g := ⟨_, rfl⟩
         have ST : Hid (CS w lb NL k gc gt (fun x => if x = lo + 1 then .slice (some ⟨gt, 0, none⟩) k k else if x = lo then .slice (some ⟨gc, 0, none⟩) k k else F x) (fun _ => 0) W2) := by rw [← hgt]; exact ST2
         rw [hgt]
         obtain ⟨W, hW⟩ : ∃ W, W2 = W := ⟨_, rfl⟩
         rw [hW] at ST ⊢
         have q1 : w.heap.size ≤ gc := by omega
         have q2 : w.heap.size ≤ gt := by omega
         have q3 : gc ≠ gt := by omega
         clear hW hgc hgt)
    clear ST1 ST2 HW1 HW2 W1 W2 c0 c1 f0 f1 hmk
    have c0 := ST.out.lv.cell (i := lo) (by omega)
    have c1 := ST.out.lv.cell (i := lo + 1) hlo
    have f0 := ST.out.lv.frozen lo
    have f1 := ST.out.lv.frozen (lo + 1)
    rw [if_neg (by omega), if_pos rfl] at c0
    rw [if_pos rfl] at c1
    have ST3 : Hid (CS w lb NL k gc gt (fun x => if x = lo + 1 then .slice (some ⟨gt, 0, none⟩) k k else if x = lo then .slice (some ⟨gc, 0, none⟩) k k else F x) (fun _ => 0) ((W.setCell ⟨lb, lo, none⟩ (.slice (some ⟨gc, 0, none⟩) k k)).setCell ⟨lb, lo + 1, none⟩ (.slice (some ⟨gt, 0, none⟩) k k)).drew) := by
      have h := ST.out
      refine ⟨(((h.lv.set lo _).set (lo + 1) _).congr (fun x _ => ?_)).drew, ((h.cn.setOther (by simp; omega) _).setOther (by simp; omega) _).drew, ((h.at_.setOther (by simp; omega) _).setOther (by simp; omega) _).drew, ((h.tc.setCell (p := ⟨lb, lo, none⟩) (fun _ => rfl) _).setCell (p := ⟨lb, lo + 1, none⟩) (fun _ => rfl) _).drew⟩
      by_cases e : x = lo + 1
      · rw [if_pos e, if_pos e]
      · rw [if_neg e, if_neg e]
        by_cases e2 : x = lo
        · rw [if_pos e2, if_pos e2]
        · rw [if_neg e2]
    obtain ⟨F', hF'⟩ : ∃ F' : Nat → Value, (fun x => if x = lo + 1 then Value.slice (some ⟨gt, 0, none⟩) k k else if x = lo then .slice (some ⟨gc, 0, none⟩) k k else F x) = F' := ⟨_, rfl⟩
    have G0 : Hid (F' lo = .slice (some ⟨gc, 0, none⟩) k k) := by unfold Hid; rw [← hF']; simp
    have G1 : Hid (F' (lo + 1) = .slice (some ⟨gt, 0, none⟩) k k) := by unfold Hid; rw [← hF']; simp
    have G2 : Hid (∀ x, x ≠ lo → x ≠ lo + 1 → F' x = F x) := by intro x h1 h2; rw [← hF']; simp [h1, h2]
    rw [hF'] at ST3
    clear ST hF'
    go_wp2
    go_region
    obtain ⟨W3, hW3⟩ : ∃ W3, ((W.setCell ⟨lb, lo, none⟩ (.slice (some ⟨gc, 0, none⟩) k k)).setCell ⟨lb, lo + 1, none⟩ (.slice (some ⟨gt, 0, none⟩) k k)).drew = W3 := ⟨_, rfl⟩
    rw [hW3] at ST3 ⊢
    clear hW3 c0 c1 f0 f1
    obtain ⟨W4, k1, k2, k3⟩ := run_clear_row (P := Try.prog) W3 25 21 (.int .i32 0) Try.underlying25 zero21 rfl rfl gc k k hk0 _ ST3.out.cn
    have ST4 : Hid (CS w lb NL k gc gt F' (cntTo s 0) W4) := by
      have h := ST3.out
      have hlb3 := h.lv.lt
      refine ⟨k3.row h.lv (by omega), k2, k3.row h.at_ (by omega), ?_⟩
      exact ⟨k3.os.trans h.tc.os, k3.tape.trans h.tc.tape, k3.output.trans h.tc.output, Nat.le_trans h.tc.size k3.size, fun x hx hS => (k3.block x (Nat.lt_of_lt_of_le hx h.tc.size) (by omega)).trans (h.tc.block x hx hS)⟩
    have c0 := ST3.out.lv.cell (i := lo) (by omega)
    rw [G0.out] at c0
    clear k2 k3 ST3
    go_wp2
    go_loopw [49] (fun i wr => ∃ j : Nat, j ≤ s.length ∧ i = .int .i64 j ∧ CS w lb NL k gc gt F' (cntTo s j) wr) (fun i _ => s.length - (intOf i).toNat)
    case atStart => exact ⟨0, Nat.zero_le _, rfl, ST4.out⟩
    case round =>
      clear c0 k1 ST4
      obtain ⟨j, hj, rfl, hW⟩ := hrel
      by_cases hlt : j < s.length
      · have g1 := (World.cell?_of_block (w := w) (a := ⟨gs, os + j, none⟩) (hW.tc.block gs hgs hne)).trans (HS.out j hlt)
        have g0 := HK.out j hlt
        have g2 := hW.lv.cell (i := lo) (by omega)
        rw [G0.out] at g2
        have g3 := hW.cn.cell g0
        have g4 := hW.cn.frozen (Sais.c s j)
        have g5 := cntTo_le s j (Sais.c s j)
        have N : Hid (CS w lb NL k gc gt F' (cntTo s (j + 1)) (wr.setCell ⟨gc, Sais.c s j, none⟩ (.int .i32 ((cntTo s j (Sais.c s j) : Nat) + 1)))) := by
          refine ⟨hW.lv.setOther (by simp; omega) _, (hW.cn.set _ _).congr (fun x _ => ?_), hW.at_.setOther (by simp; omega) _, hW.tc.setCell (by simp; omega) _⟩
          rw [cntTo_step]
          by_cases e : x = Sais.c s j
          · rw [if_pos e, if_pos e, e]; rfl
          · rw [if_neg e, if_neg e]
        obtain ⟨ch, hch⟩ : ∃ ch, Sais.c s j = ch := ⟨_, rfl⟩
        rw [hch] at g0 g1 g3 g4 g5 N
        obtain ⟨v, hv⟩ : ∃ v, cntTo s j ch = v := ⟨_, rfl⟩
        rw [hv] at g3 g5 N
        clear hW hch hv
        go_wp2
        go_roundw
        case rel => exact ⟨j + 1, by omega, by go_num, N.out⟩
        case measure => simp [intOf]; omega
      · obtain rfl : s.length = j := by omega
        have HW := hide hW
        clear hW
        go_wp2
        go_end0
        exact ⟨gc, gt, F', rfl, HW.out.lv, G0.out, G1.out, G2.out, HW.out.cn, HW.out.at_, q1, q2, q3, HW.out.tc⟩
end Go.Proofs.Qxb6606288a

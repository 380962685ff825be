/-
  The unsorter's 'untransform' (function 14), walked: it computes the plain function 'outv'. Shared by the laws over it. Not trusted: the kernel checks it.
-/
import Derived.Test.Qxb6606288aProg
import Derived.WalkKit
import Derived.Deep.OwnRows
namespace Go.Proofs.Qxb6606288a
open Go.RowKit Go.Deep
set_option linter.unusedVariables false
theorem hide {p : Prop} (h : p) : Hid p := h
theorem Try.info21 : (Try.prog.info? 21).map (fun i => (i.zero, i.size, i.bytes)) = some (some (.int .i32 0), 1, 4) := by kernel_rfl

theorem z44 (w : World) : (zeroValue 44).run Try.prog w = .ok (.agg (Array.replicate 256 (.int .i32 0))) w := by kernel_rfl

theorem zero44 : ∃ zs : Array Value, (∀ w, (zeroValue 44).run Try.prog w = .ok (.agg zs) w) ∧ zs.size = 256 ∧ ¬ zs = #[] ∧ ∀ i, i < 256 → zs[i]? = some (.int .i32 0) :=
  ⟨_, z44, by simp, by intro h; have := congrArg Array.size h; simp at this, fun i hi => by simp [hi]⟩

/-! ### the world: what may have turned -/
structure Touch (S : Nat → Prop) (w w' : World) : Prop where
  os : w'.os = w.os
  tape : w'.tape = w.tape
  output : w'.output = w.output
  size : w.heap.size ≤ w'.heap.size
  block : ∀ k, k < w.heap.size → ¬ S k → w'.heap[k]? = w.heap[k]?

theorem Touch.refl (S : Nat → Prop) (w : World) : Touch S w w := ⟨rfl, rfl, rfl, Nat.le_refl _, fun _ _ _ => rfl⟩
theorem Touch.trans {S : Nat → Prop} {a b c : World} (h : Touch S a b) (k : Touch S b c) : Touch S a c :=
  ⟨k.os.trans h.os, k.tape.trans h.tape, k.output.trans h.output, Nat.le_trans h.size k.size, fun i hi hS => (k.block i (Nat.lt_of_lt_of_le hi h.size) hS).trans (h.block i hi hS)⟩
theorem Touch.drew {S : Nat → Prop} {a w : World} (h : Touch S a w) : Touch S a w.drew := ⟨h.os, h.tape, h.output, h.size, h.block⟩
theorem Touch.alloc {S : Nat → Prop} {a w : World} (h : Touch S a w) (o : Obj) : Touch S a (w.alloc o) :=
  ⟨h.os, h.tape, h.output, Nat.le_trans h.size (by simp), fun k hk hS => (Below.heap_alloc w o k (Nat.lt_of_lt_of_le hk h.size)).trans (h.block k hk hS)⟩
theorem Touch.setCell {S : Nat → Prop} {a w : World} (h : Touch S a w) {p : Addr} (hp : p.block < a.heap.size → S p.block) (u : Value) : Touch S a (w.setCell p u) :=
  ⟨h.os, h.tape, h.output, Nat.le_trans h.size (by simp [World.setCell]), fun k hk hS => (Below.heap_setCell w p u k (fun e => hS (by subst e; exact hp hk))).trans (h.block k hk hS)⟩
theorem Touch.mono {S S' : Nat → Prop} {w w' : World} (h : Touch S w w') (hS : ∀ k, k < w.heap.size → S k → S' k) : Touch S' w w' :=
  ⟨h.os, h.tape, h.output, h.size, fun k hk hn => h.block k hk (fun e => hn (hS k hk e))⟩
theorem Touch.below {w w' : World} {B : Nat} {S : Nat → Prop} (h : Touch S w w') (hS : ∀ k, k < B → ¬ S k) (hB : B ≤ w.heap.size) : Below B w w' :=
  ⟨h.os, h.tape, h.output, h.size, fun k hk => h.block k (by omega) (hS k hk)⟩
theorem Touch.row {S : Nat → Prop} {w w' : World} (h : Touch S w w') {b : Nat} {t : TypeId} {n : Nat} {f : Nat → Value} (hr : w.rowIs b t n f) (hS : ¬ S b) : w'.rowIs b t n f :=
  hr.of_block (h.block b hr.lt hS)

/-! ### plain: what 'untransform' computes -/
def cnt (L : Nat → Nat) : Nat → Nat → Nat
  | 0, _ => 0
  | k + 1, c => cnt L k c + if L k = c then 1 else 0
def cum (L : Nat → Nat) (n : Nat) : Nat → Nat
  | 0 => 1
  | c + 1 => cum L n c + cnt L n c
def idx (p r : Nat) : Nat := if r ≤ p then r else r - 1
def lf (L : Nat → Nat) (n i : Nat) : Nat := cum L n (L i) + cnt L i (L i)
def rowv (L : Nat → Nat) (n p r : Nat) : Nat := if r = p then 0 else lf L n (idx p r) * 256 + L (idx p r)
def rr (L : Nat → Nat) (n p : Nat) : Nat → Nat
  | 0 => 0
  | k + 1 => rowv L n p (rr L n p k) / 256
def outv (L : Nat → Nat) (n p j : Nat) : Nat := rowv L n p (rr L n p (n - 1 - j)) % 256

theorem cnt_le (L : Nat → Nat) (k c : Nat) : cnt L k c ≤ k := by
  induction k with
  | zero => simp [cnt]
  | succ k ih => simp only [cnt]; split <;> omega

theorem cnt_mono (L : Nat → Nat) (k c : Nat) : ∀ m, k ≤ m → cnt L k c ≤ cnt L m c := by
  intro m h
  induction m with
  | zero => have : k = 0 := by omega
            subst this; exact Nat.le_refl _
  | succ m ih =>
    by_cases e : k = m + 1
    · subst e; exact Nat.le_refl _
    · have := ih (by omega); simp only [cnt]; omega

theorem cum_succ_le (L : Nat → Nat) (n c : Nat) : cum L n c ≤ cum L n (c + 1) := by simp [cum]
theorem cum_mono (L : Nat → Nat) (n c : Nat) : ∀ d, c ≤ d → cum L n c ≤ cum L n d := by
  intro d h
  induction d with
  | zero => have : c = 0 := by omega
            subst this; exact Nat.le_refl _
  | succ m ih =>
    by_cases e : c = m + 1
    · subst e; exact Nat.le_refl _
    · exact Nat.le_trans (ih (by omega)) (cum_succ_le L n m)

/-- sum of the counts below c, one element more -/
theorem cum_step (L : Nat → Nat) (n c : Nat) : cum L (n + 1) c = cum L n c + if L n < c then 1 else 0 := by
  induction c with
  | zero => simp [cum]
  | succ c ih =>
    simp only [cum, cnt, ih]
    by_cases h1 : L n < c
    · rw [if_pos h1, if_neg (by omega), if_pos (by omega)]; omega
    · by_cases h2 : L n = c
      · rw [if_neg h1, if_pos h2, if_pos (by omega)]; omega
      · rw [if_neg h1, if_neg h2, if_neg (by omega)]; omega

theorem cum_le (L : Nat → Nat) (n c : Nat) : cum L n c ≤ n + 1 := by
  induction n with
  | zero => 
    have : cum L 0 c = 1 := by
      induction c with
      | zero => rfl
      | succ c ih => simp [cum, cnt, ih]
    omega
  | succ n ih => rw [cum_step]; split <;> omega

theorem cum_pos (L : Nat → Nat) (n c : Nat) : 1 ≤ cum L n c := Nat.le_trans (by simp [cum]) (cum_mono L n 0 c (Nat.zero_le _))

theorem lf_le (L : Nat → Nat) (n i : Nat) (hi : i < n) : lf L n i ≤ n := by
  have h1 := cum_le L n (L i + 1)
  have h2 := cnt_mono L (i + 1) (L i) n hi
  simp only [cum] at h1
  simp only [cnt, if_true] at h2
  unfold lf
  omega

theorem idx_lt {n p r : Nat} (hp : 1 ≤ p) (hpn : p ≤ n) (hr : r ≤ n) (h : r ≠ p) : idx p r < n := by
  unfold idx; split <;> omega

theorem rowv_div (L : Nat → Nat) (n p r : Nat) (hL : ∀ i, L i < 256) (hp : 1 ≤ p) (hpn : p ≤ n) (hr : r ≤ n) : rowv L n p r / 256 ≤ n := by
  unfold rowv
  split
  · omega
  · have := lf_le L n (idx p r) (idx_lt hp hpn hr ‹_›)
    have := hL (idx p r)
    omega
theorem rowv_le (L : Nat → Nat) (n p r : Nat) (hL : ∀ i, L i < 256) (hp : 1 ≤ p) (hpn : p ≤ n) (hr : r ≤ n) : rowv L n p r ≤ n * 256 + 255 := by
  have := rowv_div L n p r hL hp hpn hr
  omega
theorem rr_le (L : Nat → Nat) (n p : Nat) (hL : ∀ i, L i < 256) (hp : 1 ≤ p) (hpn : p ≤ n) (k : Nat) : rr L n p k ≤ n := by
  induction k with
  | zero => simp [rr]
  | succ k ih => exact rowv_div L n p _ hL hp hpn ih

theorem cnt_upd (L : Nat → Nat) (k d : Nat) : cnt L (k + 1) d = if d = L k then cnt L k (L k) + 1 else cnt L k d := by
  simp only [cnt]
  by_cases h : d = L k
  · subst h; simp
  · rw [if_neg (fun e => h e.symm), if_neg h]; omega

theorem i32_join (x c : Nat) (hx : x ≤ 100000) (hc : c < 256) : bits .or .i32 ((x : Int) * 256) (c : Int) = ((x * 256 + c : Nat) : Int) := by
  have h : ((x : Int) * 256) = ((x * 256 : Nat) : Int) := by omega
  rw [h]
  show IntKind.i32.wrap ((BitVec.ofInt 32 ((x * 256 : Nat) : Int) ||| BitVec.ofInt 32 (c : Int)).toNat : Int) = _
  rw [BitVec.toNat_or, ofInt_u32 _ (by omega), ofInt_u32 c (by omega), nat_join 8 (x * 256) c (by omega) (by omega)]
  simp [IntKind.wrap, IntKind.bits, IntKind.signed]
  omega

/-! ### the array by value, read at an index -/
theorem Try.sz21 : (Try.prog.info? 21).map (·.size) = some 1 := by kernel_rfl
theorem run_index_arr (cs : Array Value) (i : Nat) (hi : i < 256) (v : Value) (hv : cs[i]? = some v) (w : World) :
    (Instr.index 44 (.agg cs) (.int .i64 (i : Int))).run Try.prog w = .ok v w := by
  obtain ⟨ti, h1, h2⟩ := Option.map_eq_some_iff.1 Try.sz21
  simp [Instr.index, asIntOf, run_underlying Try.underlying44, sizeOf, typeInfo, h1, h2, part, isAgg, run_underlying Try.underlying21, hv]
  omega


/-! ### the callee 'grown' at a nil slice -/
set_option maxHeartbeats 400000 in
theorem grown32_nil (k : Nat) (h : k ≤ 70000) (h0 : 0 < k) (w : World) :
    Calls Try.prog 15 #[.slice none 0 0, .int .i64 k] w fun e w' => e = .returned (.slice (some ⟨w.heap.size, 0, none⟩) k k) ∧ w' = w.alloc (.cells (madeCells #[.int .i32 0] k) 21) := by
  have hmk := run_make_row' (P := Try.prog) 25 21 (.int .i32 0) 4 Try.underlying25 Try.info21 rfl .i64 .i64 k (by omega) (by omega)
  go_enter Try.func15, Try.ntmps15
  go_wp2
  go_ret
  exact ⟨rfl, rfl⟩

/-! ### the rows that 'untransform' works on -/
structure UW (w : World) (bu bl bb n m : Nat) (L : Nat → Nat) (S R : Nat → Nat) (F : Nat → Value) (wr : World) : Prop where
  st : wr.rowIs (w.heap.size + 1) 44 256 (fun c => .int .i32 (S c))
  rw : wr.rowIs w.heap.size 21 (n + 1) (fun c => .int .i32 (R c))
  la : wr.rowIs bl 5 n (fun i => .int .u8 (L i))
  bk : wr.rowIs bb 5 m F
  tc : Touch (fun k => k = bu ∨ k = bb) w wr

theorem UW.setS {w wr : World} {bu bl bb n m : Nat} {L S R : Nat → Nat} {F : Nat → Value} (h : UW w bu bl bb n m L S R F wr) (hl : bl < w.heap.size) (hb : bb < w.heap.size) (c x : Nat) (S' : Nat → Nat) (hS : ∀ d, d < 256 → S' d = if d = c then x else S d) :
    UW w bu bl bb n m L S' R F (wr.setCell ⟨w.heap.size + 1, c, none⟩ (.int .i32 x)) :=
  ⟨(h.st.set c _).congr (fun d hd => by rw [hS d hd]; split <;> rfl), h.rw.setOther (by simp) _, h.la.setOther (by simp; omega) _, h.bk.setOther (by simp; omega) _, h.tc.setCell (by simp; omega) _⟩

theorem UW.setR {w wr : World} {bu bl bb n m : Nat} {L S R : Nat → Nat} {F : Nat → Value} (h : UW w bu bl bb n m L S R F wr) (hl : bl < w.heap.size) (hb : bb < w.heap.size) (c x : Nat) (R' : Nat → Nat) (hR : ∀ d, d < n + 1 → R' d = if d = c then x else R d) :
    UW w bu bl bb n m L S R' F (wr.setCell ⟨w.heap.size, c, none⟩ (.int .i32 x)) :=
  ⟨h.st.setOther (by simp) _, (h.rw.set c _).congr (fun d hd => by rw [hR d hd]; split <;> rfl), h.la.setOther (by simp; omega) _, h.bk.setOther (by simp; omega) _, h.tc.setCell (by simp) _⟩

theorem UW.setF {w wr : World} {bu bl bb n m : Nat} {L S R : Nat → Nat} {F : Nat → Value} (h : UW w bu bl bb n m L S R F wr) (hl : bl < w.heap.size) (hb : bb < w.heap.size) (hne : bl ≠ bb) (c : Nat) (x : Value) (F' : Nat → Value) (hF : ∀ d, d < m → F' d = if d = c then x else F d) :
    UW w bu bl bb n m L S R F' (wr.setCell ⟨bb, c, none⟩ x) :=
  ⟨h.st.setOther (by simp; omega) _, h.rw.setOther (by simp; omega) _, h.la.setOther (by simpa using hne) _, (h.bk.set c _).congr (fun d hd => by rw [hF d hd]), h.tc.setCell (by simp) _⟩

theorem UW.start {w : World} {bu bl bb n m : Nat} {L : Nat → Nat} {f : Nat → Value} (zs : Array Value) (hz : zs.size = 256) (hz1 : ∀ i, i < 256 → zs[i]? = some (.int .i32 0)) (v : Value)
    (hu : bu < w.heap.size) (h1 : bu ≠ bl) (h2 : bu ≠ bb) (hl : w.rowIs bl 5 n (fun i => .int .u8 (L i))) (hb : w.rowIs bb 5 m f) :
    UW w bu bl bb n m L (cnt L 0) (fun _ => 0) f (((w.setCell ⟨bu, 0, none⟩ v).alloc (.cells (madeCells #[.int .i32 0] (n + 1)) 21)).alloc (.cells zs 44)) := by
  have hsz : (w.setCell ⟨bu, 0, none⟩ v).heap.size = w.heap.size := by simp [World.setCell]
  have r0 := World.rowIs_made (w.setCell ⟨bu, 0, none⟩ v) (.int .i32 0) (n + 1) 21
  rw [hsz] at r0
  have s0 := World.rowIs_alloc ((w.setCell ⟨bu, 0, none⟩ v).alloc (.cells (madeCells #[.int .i32 0] (n + 1)) 21)) zs 44 (fun c => .int .i32 (cnt L 0 c : Nat)) (by intro i hi; rw [hz1 i (by omega)]; simp [cnt])
  rw [hz] at s0
  rw [World.size_alloc, hsz] at s0
  refine ⟨s0, r0.alloc _, ((hl.setOther (by simpa using h1.symm) _).alloc _).alloc _, ((hb.setOther (by simpa using h2.symm) _).alloc _).alloc _, (((Touch.refl _ w).setCell (by simp) _).alloc _).alloc _⟩

set_option maxHeartbeats 1000000 in
set_option maxRecDepth 100000 in
theorem untr (n m p bu bl bb : Nat) (tu : TypeId) (L : Nat → Nat) (f : Nat → Value) (w : World) (hn : n ≤ 65536) (hp : 1 ≤ p) (hpn : p ≤ n) (hnm : n ≤ m) (hm : m ≤ 140000)
   (hL : ∀ i, L i < 256) (hu : w.rowIs bu tu 1 (fun _ => .slice none 0 0)) (hl : w.rowIs bl 5 n (fun i => .int .u8 (L i))) (hb : w.rowIs bb 5 m f) (h1 : bu ≠ bl) (h2 : bu ≠ bb) (h3 : bl ≠ bb) :
    Calls Try.prog 14 #[.pointer (some ⟨bu, 0, none⟩), .slice (some ⟨bl, 0, none⟩) n n, .int .i64 p, .slice (some ⟨bb, 0, none⟩) m m] w fun e w' =>
      e = .returned (.tuple #[]) ∧ w'.rowIs bl 5 n (fun i => .int .u8 (L i)) ∧ w'.rowIs bb 5 m (fun j => if j < n then .int .u8 (outv L n p j) else f j) ∧ Touch (fun k => k = bu ∨ k = bb) w w' := by
  have hc := hu.cell (i := 0) (by omega)
  have hfz := hu.frozen 0
  have hlt := hu.lt
  have hltl := hl.lt
  have hltb := hb.lt
  have G := hide (grown32_nil (n + 1) (by omega) (by omega) w)
  have hca : ∀ o, (w.alloc o).cell? ⟨bu, 0, none⟩ = some (.slice none 0 0) := fun o => (hu.alloc o).cell (i := 0) (by omega)
  have hfa : ∀ o, (w.alloc o).frozen? ⟨bu, 0, none⟩ = false := fun o => (hu.alloc o).frozen 0
  obtain ⟨zs, hz, hzs, hzn, hz1⟩ := zero44
  have HZ := hide hz1
  clear hz1
  have ST := hide (UW.start (L := L) zs hzs HZ.out (.slice (some ⟨w.heap.size, 0, none⟩) (n + 1) (n + 1)) hlt h1 h2 hl hb)
  go_enter Try.func14, Try.ntmps14
  go_wp2_with (go_at_call 15; refine (G.out).mono ?_; rintro e w' ⟨rfl, rfl⟩)
  clear hc hfz hca hfa hu hl hb hz hzn G
  go_loopw [40] (fun i wr => ∃ k : Nat, k ≤ n ∧ i = .int .i64 k ∧ UW w bu bl bb n m L (cnt L k) (fun _ => 0) f wr) (fun i _ => n - (intOf i).toNat)
  case atStart => exact ⟨0, Nat.zero_le _, rfl, ST.out⟩
  case round =>
    clear ST
    obtain ⟨k, hk, rfl, hW⟩ := hrel
    by_cases hlt : k < n
    · have g1 := hW.la.cell hlt
      have g2 := hW.st.cell (hL k)
      have g3 := hW.st.frozen (L k)
      have hLk := hL k
      have hck := cnt_le L k (L k)
      have N := hide (hW.setS hltl hltb (L k) (cnt L k (L k) + 1) (cnt L (k + 1)) (fun d _ => cnt_upd L k d))
      clear hW
      go_wp2
      go_roundw
      case rel => exact ⟨k + 1, by omega, by go_num, N.out⟩
      case measure => simp [intOf]; omega
    · obtain rfl : n = k := by omega
      obtain ⟨cs, hcs, hsz, hcc⟩ := hW.st
      have HW := hide hW
      have HC := hide hcc
      clear hcc hW hlt
      go_wp2_with (refine wpList_load_row rfl 44 _ rfl (w.heap.size + 1) rfl 44 cs _ _ hcs Try.underlying44 rfl (by rw [hsz]; kernel_rfl) ?_)
      clear hcs hsz
      obtain ⟨wo, rfl⟩ : ∃ wo : World, wo = wr := ⟨_, rfl⟩
      go_loopw [13, 51] (fun s i wr => ∃ k : Nat, k ≤ 256 ∧ i = .int .i64 k ∧ s = .int .i32 (cum L n k : Nat) ∧ UW w bu bl bb n m L (fun c => if c < k then cum L n c else cnt L n c) (fun _ => 0) f wr) (fun _ i _ => 256 - (intOf i).toNat)
      case atStart => exact ⟨0, Nat.zero_le _, rfl, rfl, by simpa using HW.out⟩
      case round =>
        clear HW
        obtain ⟨k, hk, rfl, rfl, hW⟩ := hrel
        have hcu := cum_le L n k
        by_cases hlt : k < 256
        · have g3 := hW.st.frozen k
          have g2 : wr.cell? ⟨w.heap.size + 1, k, none⟩ = some (.int .i32 (cnt L n k : Nat)) := by simpa using hW.st.cell hlt
          have hix := run_index_arr cs k hlt _ (HC.out k hlt)
          have hck := cnt_le L n k
          have hcu2 := cum_le L n (k + 1)
          have HN : Hid (cum L n (k + 1) = cum L n k + cnt L n k) := rfl
          have N := hide (hW.setS hltl hltb k (cum L n k) (fun c => if c < k + 1 then cum L n c else cnt L n c) (by
            intro d _
            by_cases e : d = k
            · subst e; simp
            · rw [if_neg e]
              by_cases e2 : d < k
              · rw [if_pos e2, if_pos (by omega)]
              · rw [if_neg e2, if_neg (by omega)]))
          clear hW HC
          go_wp2
          go_roundw
          case rel => exact ⟨k + 1, by omega, by go_num, by rw [HN.out]; go_num, N.out⟩
          case measure => simp [intOf]; omega
        · obtain rfl : 256 = k := by omega
          have HW : Hid (UW w bu bl bb n m L (fun c => cum L n c + cnt L 0 c) (fun r => if r < 0 then rowv L n p r else 0) f wr) :=
            ⟨hW.st.congr (fun c hc => by simp [hc, cnt]), by simpa using hW.rw, hW.la, hW.bk, hW.tc⟩
          clear hW hlt HC
          obtain ⟨c0, hc0⟩ : ∃ c0 : Nat, cum L n 256 = c0 := ⟨_, rfl⟩
          rw [hc0]
          clear hc0 hcu hk
          go_wp2
          obtain ⟨wo2, rfl⟩ : ∃ wo : World, wo = wr := ⟨_, rfl⟩
          go_loopw [16, 17] (fun r i wr => ∃ k : Nat, k ≤ n + 1 ∧ r = .int .i64 k ∧ i = .int .i64 (idx p k : Nat) ∧ UW w bu bl bb n m L (fun c => cum L n c + cnt L (idx p k) c) (fun r => if r < k then rowv L n p r else 0) f wr) (fun r _ _ => n + 1 - (intOf r).toNat)
          case atStart => exact ⟨0, Nat.zero_le _, rfl, by simp [idx], HW.out⟩
          case round =>
            clear HW
            obtain ⟨k, hk, rfl, rfl, hW⟩ := hrel
            by_cases hlt : k ≤ n
            · by_cases hkp : k = p
              · obtain rfl : k = p := hkp
                have hkp' : ((k : Int) == (k : Int)) = true := by simp
                have HI : Hid (idx k (k + 1) = idx k k) := by unfold Hid idx; split <;> split <;> omega
                have HV : Hid (rowv L n k k = 0) := by unfold Hid rowv; rw [if_pos rfl]
                have g4 := hW.rw.frozen k
                have g5 : wr.cell? ⟨w.heap.size, k, none⟩ = some (.int .i32 0) := by simpa using hW.rw.cell (i := k) (by omega)
                have N := hide (hW.setR hltl hltb k 0 (fun r => if r < k + 1 then rowv L n k r else 0) (by
                  intro d _
                  by_cases e : d = k
                  · subst e; rw [if_pos (by omega), if_pos rfl]; exact HV.out
                  · rw [if_neg e]
                    by_cases e2 : d < k
                    · rw [if_pos e2, if_pos (by omega)]
                    · rw [if_neg e2, if_neg (by omega)]))
                obtain ⟨i, hidx⟩ : ∃ i, idx k k = i := ⟨_, rfl⟩
                rw [hidx] at HI N ⊢
                have HX := hide hidx
                clear hW hidx
                go_wp2
                go_roundw
                case rel => exact ⟨k + 1, by omega, by go_num, by rw [HI.out], by rw [HI.out]; exact N.out⟩
                case measure => simp [intOf]; omega
              · have hkp' : ((k : Int) == (p : Int)) = false := by simp; omega
                have hi := idx_lt hp hpn hlt hkp
                have HI : Hid (idx p (k + 1) = idx p k + 1) := by unfold Hid idx; split <;> split <;> omega
                obtain ⟨i, hidx⟩ : ∃ i, idx p k = i := ⟨_, rfl⟩
                have HV : Hid (rowv L n p k = lf L n i * 256 + L i) := by unfold Hid rowv; rw [if_neg hkp, hidx]
                rw [hidx] at hW hi ⊢
                have g1 := hW.la.cell hi
                have g2 := hW.st.cell (hL i)
                have g3 := hW.st.frozen (L i)
                have g4 := hW.rw.frozen k
                have g5 : wr.cell? ⟨w.heap.size, k, none⟩ = some (.int .i32 0) := by simpa using hW.rw.cell (i := k) (by omega)
                have hLi := hL i
                have hlf := lf_le L n i hi
                have N := hide ((hW.setR hltl hltb k (lf L n i * 256 + L i) (fun r => if r < k + 1 then rowv L n p r else 0) (by
                  intro d _
                  by_cases e : d = k
                  · subst e; rw [if_pos (by omega), if_pos rfl]; exact HV.out
                  · rw [if_neg e]
                    by_cases e2 : d < k
                    · rw [if_pos e2, if_pos (by omega)]
                    · rw [if_neg e2, if_neg (by omega)])).setS hltl hltb (L i) (lf L n i + 1) (fun c => cum L n c + cnt L (i + 1) c) (by
                  intro d _
                  show cum L n d + cnt L (i + 1) d = _
                  rw [cnt_upd]
                  by_cases e : d = L i
                  · subst e; rw [if_pos rfl, if_pos rfl]; unfold lf; omega
                  · rw [if_neg e, if_neg e]))
                have HB := hide (i32_join (lf L n i) (L i) (by omega) hLi)
                unfold lf at hlf N HB
                rw [hidx] at HI
                have HX := hide hidx
                clear hW hidx HV
                go_wp2
                go_roundw
                case rel =>
                  have e : ((cum L n (L i) : Int) + (cnt L i (L i) : Int)) = ((cum L n (L i) + cnt L i (L i) : Nat) : Int) := by omega
                  rw [e, HB.out]
                  exact ⟨k + 1, by omega, by go_num, by rw [HI.out]; go_num, by rw [HI.out]; exact N.out⟩
                case measure => simp [intOf]; omega
            · obtain rfl : k = n + 1 := by omega
              have HW : Hid (wr.rowIs w.heap.size 21 (n + 1) (fun r => .int .i32 (rowv L n p r : Nat)) ∧ wr.rowIs bl 5 n (fun i => .int .u8 (L i)) ∧ wr.rowIs bb 5 m (fun j => if n - 0 ≤ j ∧ j < n then .int .u8 (outv L n p j) else f j) ∧ Touch (fun k => k = bu ∨ k = bb) w wr) :=
                ⟨hW.rw.congr (fun c hc => by simp [hc]), hW.la, hW.bk.congr (fun j _ => by rw [if_neg (by omega)]), hW.tc⟩
              clear hW hlt hk
              obtain ⟨i0, hi0⟩ : ∃ i0 : Nat, idx p (n + 1) = i0 := ⟨_, rfl⟩
              rw [hi0]
              clear hi0
              go_wp2
              obtain ⟨wo3, rfl⟩ : ∃ wo : World, wo = wr := ⟨_, rfl⟩
              go_loopw [19, 20] (fun r i wr => ∃ k : Nat, k ≤ n ∧ r = .int .i64 (rr L n p k : Nat) ∧ i = .int .i64 ((n : Int) - 1 - k) ∧ wr.rowIs w.heap.size 21 (n + 1) (fun r => .int .i32 (rowv L n p r : Nat)) ∧ wr.rowIs bl 5 n (fun i => .int .u8 (L i)) ∧ wr.rowIs bb 5 m (fun j => if n - k ≤ j ∧ j < n then .int .u8 (outv L n p j) else f j) ∧ Touch (fun k => k = bu ∨ k = bb) w wr) (fun _ i _ => (intOf i + 1).toNat)
              case atStart => exact ⟨0, Nat.zero_le _, rfl, by go_num, HW.out⟩
              case round =>
                clear HW
                obtain ⟨k, hk, rfl, rfl, W1, W2, W3, W4⟩ := hrel
                by_cases hlt : k < n
                · have hrk := rr_le L n p hL hp hpn k
                  have hrv := rowv_le L n p (rr L n p k) hL hp hpn hrk
                  have HR : Hid (rr L n p (k + 1) = rowv L n p (rr L n p k) / 256) := rfl
                  have HO : Hid (outv L n p (n - 1 - k) = rowv L n p (rr L n p k) % 256) := by unfold Hid outv; rw [show n - 1 - (n - 1 - k) = k from by omega]
                  obtain ⟨v, hv⟩ : ∃ v, rowv L n p (rr L n p k) = v := ⟨_, rfl⟩
                  obtain ⟨r, hr⟩ : ∃ r, rr L n p k = r := ⟨_, rfl⟩
                  rw [hv] at hrv HR HO
                  rw [hr] at hrk hv ⊢
                  have g1 : wr.cell? ⟨w.heap.size, r, none⟩ = some (.int .i32 (v : Nat)) := by rw [← hv]; exact W1.cell (by omega)
                  have g2 := W3.frozen (n - 1 - k)
                  have g3 := W3.cell (i := n - 1 - k) (by omega)
                  rw [if_neg (by omega)] at g3
                  obtain ⟨u, hu⟩ : ∃ u, f (n - 1 - k) = u := ⟨_, rfl⟩
                  rw [hu] at g3
                  have e1 : ((n : Int) - 1 - k).toNat = n - 1 - k := by omega
                  have N1 := hide (W1.setOther (a := ⟨bb, n - 1 - k, none⟩) (by simp; omega) (.int .u8 ((v % 256 : Nat) : Int)))
                  have N2 := hide (W2.setOther (a := ⟨bb, n - 1 - k, none⟩) (by simpa using h3) (.int .u8 ((v % 256 : Nat) : Int)))
                  have N3 := hide ((W3.set (n - 1 - k) (.int .u8 ((v % 256 : Nat) : Int))).congr (g := fun j => if n - (k + 1) ≤ j ∧ j < n then .int .u8 (outv L n p j) else f j) (by
                    intro j hj
                    by_cases e : j = n - 1 - k
                    · rw [if_pos e]
                      show _ = if n - (k + 1) ≤ j ∧ j < n then _ else _
                      rw [if_pos (by omega), e, HO.out]
                    · rw [if_neg e]
                      show _ = if n - (k + 1) ≤ j ∧ j < n then _ else _
                      by_cases e2 : n - k ≤ j ∧ j < n
                      · rw [if_pos e2, if_pos (by omega)]
                      · rw [if_neg e2, if_neg (by omega)]))
                  have N4 := hide (W4.setCell (p := ⟨bb, n - 1 - k, none⟩) (by simp) (.int .u8 ((v % 256 : Nat) : Int)))
                  clear W1 W2 W3 W4 hv hu hr HO
                  go_wp2
                  go_roundw
                  case rel =>
                    have e2 : ((v : Int) % 256) = ((v % 256 : Nat) : Int) := by omega
                    have e3 : ((v : Int) / 256) = ((v / 256 : Nat) : Int) := by omega
                    rw [e2, e3]
                    exact ⟨k + 1, by omega, by rw [HR.out], by go_num, N1.out, N2.out, N3.out, N4.out⟩
                  case measure => simp [intOf]; omega
                · obtain rfl : n = k := by omega
                  have N3 := hide (W3.congr (g := fun j => if j < n then .int .u8 (outv L n p j) else f j) (by
                    intro j hj
                    show _ = if j < n then _ else _
                    by_cases e : j < n
                    · rw [if_pos e, if_pos (by omega)]
                    · rw [if_neg e, if_neg (by omega)]))
                  have N2 := hide W2
                  have N4 := hide W4
                  clear W1 W2 W3 W4 hk hlt
                  go_wp2
                  go_end0
                  exact ⟨rfl, N2.out, N3.out, N4.out⟩
end Go.Proofs.Qxb6606288a

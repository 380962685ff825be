import Derived.Test.Qxb6606288aWalkM
namespace Go.Proofs.Qxb6606288a
open Go.RowKit Go.Deep
set_option linter.unusedVariables false
set_option linter.unusedSimpArgs false

set_option maxHeartbeats 40000000 in
set_option maxRecDepth 100000 in
theorem head23 (s : List Nat) (IH : Hid (∀ s' : List Nat, s'.length < s.length → SortSpec s')) (ga oa N gs os cs ca k pl po : Nat) (f : Nat → Value) (Aold : Nat → Int) (la : Option Addr) (lc : Nat) (w : World) (hn2 : 2 ≤ s.length) (hn : s.length ≤ 100000) (hk : k ≤ 100000) (hk0 : 0 < k) (hsk : ∀ i, i < s.length → Sais.c s i < k)
    (hcs : s.length ≤ cs) (hcm : os + cs ≤ 2 ^ 62) (hca : s.length ≤ ca) (hcm2 : oa + ca ≤ 2 ^ 62) (hP : SP s ga oa N gs os pl po f Aold (fun i => .int .i32 (Sais.c s i : Nat)) la lc w) :
    Calls Try.prog 23 #[.slice (some ⟨gs, os, none⟩) s.length cs, .slice (some ⟨ga, oa, none⟩) s.length ca, .int .i64 k, .pointer (some ⟨pl, po, none⟩)] w (SPost s ga oa N pl po f la lc w) := by
  have hpc := hP.pc
  have hpf := hP.pf
  have hpl := hP.pl1
  have hz := z50
  have HP := hide hP
  have HK := hide hsk
  have hpa : ∀ o, (w.alloc o).cell? ⟨pl, po, none⟩ = some (.slice la 0 lc) := fun o => (World.cell?_of_block (w := w) (Below.heap_alloc w o pl hpl)).trans hpc
  have hpfa : ∀ o, (w.alloc o).frozen? ⟨pl, po, none⟩ = false := fun o => (World.frozen?_of_block (w := w) (Below.heap_alloc w o pl hpl)).trans hpf
  obtain ⟨n, hnn⟩ : ∃ n, s.length = n := ⟨_, rfl⟩
  have HN := hide hnn
  rw [hnn] at hn2 hn hcs hca ⊢
  clear hnn hP hsk
  go_enter Try.func23, Try.ntmps23
  go_wp2_with (at_builtin; refine wpList_lev rfl (.tmp 52) (.tmp 54) rfl la lc w.heap.size rfl rfl (HP.out.lv.alloc _) (new3 w) HP.out.la2 HP.out.la3 ?_; intro lb l0 lc' NL F w1 H1; have G1 := (World.cell?_of_block (w := w) (a := ⟨pl, po, none⟩) (H1.out.blk hpl (fun c p e => (HP.out.la1 c p e).2.2.1))).trans hpc; have G2 := (World.frozen?_of_block (w := w) (a := ⟨pl, po, none⟩) (H1.out.blk hpl (fun c p e => (HP.out.la1 c p e).2.2.1))).trans hpf; obtain ⟨la2, hla2⟩ : ∃ la2, (if lc' = 1 then some (⟨lb, l0, none⟩ : Addr) else some ⟨lb, l0 + 3, none⟩) = la2 := ⟨_, rfl⟩; have G3 : 1 ≤ lc' := H1.out.2.2.2.2.2.2.1; have G4 : w1.cell? ⟨lb, l0, none⟩ = some zl := (H1.out.1.cell (by have := H1.out.2.2.2.2.2.1; have := H1.out.2.2.2.2.2.2.1; omega)).trans (congrArg some H1.out.2.2.1); have G5 : lb ≠ pl := H1.out.ne hpl (fun c p e => (HP.out.la1 c p e).2.2.1); have G6 : pl ≠ lb := G5.symm; have G7 : lb < w1.heap.size := H1.out.1.lt; have G8 : pl < w1.heap.size := Nat.lt_of_lt_of_le (by simp; omega) H1.out.2.2.2.2.2.2.2.2.1.size)
  have GB := hide (grownB_nil n hn (by omega) ((w1.setCell ⟨pl, po, none⟩ (.slice (some ⟨lb, l0, none⟩) 1 lc')).alloc (.cells #[.slice la2 0 (lc' - 1)] 26)))
  refine (GB.out).mono ?_
  rintro e w2 ⟨rfl, rfl⟩
  obtain ⟨L0, D0⟩ := LS.start HP.out H1.out la2 HN.out
  have hgme : ((w1.setCell ⟨pl, po, none⟩ (.slice (some ⟨lb, l0, none⟩) 1 lc')).alloc (.cells #[.slice la2 0 (lc' - 1)] 26)).heap.size = w1.heap.size + 1 := by simp [World.setCell]
  try rw [hgme]
  obtain ⟨W2, hW2⟩ : ∃ W2, ((w1.setCell ⟨pl, po, none⟩ (.slice (some ⟨lb, l0, none⟩) 1 lc')).alloc (.cells #[.slice la2 0 (lc' - 1)] 26)).alloc (.cells (madeCells #[.bool false] n) 4) = W2 := ⟨_, rfl⟩
  rw [hW2] at L0 ⊢
  have HD := hide D0
  have L1 := hide (L0.setL D0 l0 (.slice (some ⟨w1.heap.size + 1, 0, none⟩) n n))
  have hl0 : l0 < NL := by have := H1.out.2.2.2.2.2.1; omega
  have k1 := L0.lr.cell hl0
  have k2 := L0.lr.frozen l0
  rw [H1.out.2.2.1] at k1
  obtain ⟨W3, hW3⟩ : ∃ W3, W2.setCell ⟨lb, l0, none⟩ (.slice (some ⟨w1.heap.size + 1, 0, none⟩) n n) = W3 := ⟨_, rfl⟩
  rw [hW3] at L1
  have k3 : W3.cell? ⟨lb, l0, none⟩ = some (.slice (some ⟨w1.heap.size + 1, 0, none⟩) n n) := by rw [L1.out.lr.cell hl0, if_pos rfl]
  have k4 := L1.out.sm.cell (i := n - 1) (by rw [HN.out]; omega)
  have k5 := L1.out.sm.frozen (n - 1)
  have L2 := hide (L1.out.setM D0 (n - 1) false)
  have e1 : ((n : Int) - 1).toNat = n - 1 := by omega
  have b1 : (0 : Int) ≤ (n : Int) - 1 := by omega
  have b2 : (n : Int) - 1 < (n : Int) := by omega
  clear GB L0 D0 G1 G2 G4 G5 G6 G7 G8 hW2 hgme hpc hpf hpa hpfa hz
  repeat (fail_if_success (refine (id : Hid (Code.wp _ (Code.seq (Code.seq (Code.region 11 _ _) _) _) _ _ _) → _) ?_)); (first | go_values | go_skip | go_guarded | go_step | go_upon | go_back | (simp only [Int.not_lt, Int.not_le] at *; go_simp))
  have q1 : Hid (∀ y, y < NL → ((fun y => if y = l0 then Value.slice (some ⟨w1.heap.size + 1, 0, none⟩) n n else F y) y).oneCell' = true) := fun y hy => by
    show (if y = l0 then Value.slice (some ⟨w1.heap.size + 1, 0, none⟩) n n else F y).oneCell' = true
    by_cases e : y = l0
    · rw [if_pos e]; rfl
    · rw [if_neg e]; exact H1.out.2.1 y hy
  have q2 : Hid ((fun y => if y = l0 then Value.slice (some ⟨w1.heap.size + 1, 0, none⟩) n n else F y) (l0 + 1) = zl) := by
    show (if l0 + 1 = l0 then Value.slice (some ⟨w1.heap.size + 1, 0, none⟩) n n else F (l0 + 1)) = zl
    rw [if_neg (by omega)]; exact H1.out.2.2.2.1
  have q3 : Hid ((fun y => if y = l0 then Value.slice (some ⟨w1.heap.size + 1, 0, none⟩) n n else F y) (l0 + 1 + 1) = zl) := by
    show (if l0 + 1 + 1 = l0 then Value.slice (some ⟨w1.heap.size + 1, 0, none⟩) n n else F (l0 + 1 + 1)) = zl
    rw [if_neg (by omega)]; exact H1.out.2.2.2.2.1
  have q4 : Hid (∀ (gc gt : Nat) (F' : Nat → Value), w.heap.size ≤ gt → (∀ y, y < l0 → F' y = (fun y => if y = l0 then Value.slice (some ⟨w1.heap.size + 1, 0, none⟩) n n else F y) y) → (Cx.mk ga oa N gs os (w1.heap.size + 1) gt gc lb (l0 + 1) k).ok s.length → ∀ SA T' B' w', Sais.IsSA s SA → IW s ⟨ga, oa, N, gs, os, w1.heap.size + 1, gt, gc, lb, l0 + 1, k⟩ f (fun i => .int .i32 (Sais.c s i : Nat)) B' (fun y => (SA.getD y 0 : Int)) T' w' → GQ n ⟨ga, oa, N, gs, os, w1.heap.size + 1, gt, gc, lb, l0 + 1, k⟩ pl po l0 NL F' w B' → SPost s ga oa N pl po f la lc w (.returned (.tuple #[])) w') := fun gc gt F' h1 h2 h3 SA T' B' w' h4 h5 h6 => by
    refine fin HP.out H1.out (fun y hy => ?_) h1 SA T' B' w' h4 h5 (by rw [HN.out]; exact h6) h3
    have h7 : F' y = (if y = l0 then Value.slice (some ⟨w1.heap.size + 1, 0, none⟩) n n else F y) := h2 y hy
    rw [h7, if_neg (by omega)]
  exact tail8_23 s ga oa N gs os cs ca k pl po lb l0 lc' NL _ _ n f _ Aold la2 w _ _ _ HN hn2 hn hk hk0 HK hcs hcm hca hcm2 HD L2 (by show (if n - 1 = n - 1 then false else false) = false; rw [if_pos rfl]) q1 H1.out.2.2.2.2.2.1 G3 H1.out.2.2.2.2.2.2.2.1 hla2.symm q2 q3 HP.out.gsl hpl HP.out.win HP.out.fit HP.out.dis IH q4 _ _ _ _ _ _ _ _ _ _ _ _ _ _ _ _ _ _ _ _ _ _ _ _ _ _ _ _ _ _ _ _ _ _ _ _ _ _ _ _ _ _ _ _ _ _ _ _ _ _ _ _ _ _ _ _ _ _ _ _ _ _ _ _ _ _ _ _ _ _ _ _ _ _ _ _ _ _ _ _ _ _ _ _ _ _ _ _ _ _ _ _ _ _ _ _ _ _ _ _ _ _ _ _ _ _ _ _ _ _ _ _ _ _ _ _ _ _ _ _ _ _ _ _ _ _ _ _ _ _ _ _ _ _ _ _ _ _ _ _ _ _ _ _ _ _ _ _ _ _ _ _ _ _ _ _ _ _ _ _ _ _ _ _ _ _ _ _ _ _ _ _ _ _ _ _ _ _ _ _ _ _ _ _ _ _ _ _ _ _ _ _ _ _ _ _ _ _ _ _ _ _ _ _ _ _ _ _ _ _ _ _ _ _ _ _ _ _ _ _ _ _ _ _ _ _ _ _ _ _ _ _ _ _ _ _ _ _ _ _ _ _ _ _ _ _ _ _ _ _ _ _ _ _ _ _ _ _ _ _ _ _ _ _ _ _ _ _ _ _ _ _ _ _ _ _ _ _ _ _ _ _ _ _ _ _ _ _ _ _ _ _ _ _ _ _ _ _ _ _ _ _ _ _ _ _ _ _ _ _ _ _ _ _ _ _ _ _ _ _ _ _ _ _ _ _ _ _ _ _ _ _ _ _ _ _ _ _ _ _ _ _ _ _ _ _ _ _ _ _ _ _ _ _ _ _ _ _ _ _ _ _ _ _ _ _ _ _ _ _ _ _ _ _ _ _ _ _ _ _ _ _ _ _ _ _ _

theorem sort23 (s : List Nat) : SortSpec s := by
  have key : ∀ (L : Nat) (s : List Nat), s.length = L → SortSpec s := by
    intro L
    induction L using Nat.strongRecOn with
    | ind L ih =>
      intro s hs ga oa N gs os cs ca k pl po f Aold la lc w h1 h2 h3 h4 h5 h6 h7 h8 h9 h10
      exact head23 s (fun s' h => ih s'.length (by omega) s' rfl) ga oa N gs os cs ca k pl po f Aold la lc w h1 h2 h3 h4 h5 h6 h7 h8 h9 h10
  exact key _ s rfl
end Go.Proofs.Qxb6606288a


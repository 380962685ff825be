/-
  What the walk of sortSuffixes needs: the append as a law of the walk, what it is given, the tail of a body. Not trusted: the kernel checks it.
-/
import Derived.Test.Qxb6606288aWalkE
import Derived.Test.Qxb6606288aSufG
import Derived.Deep.CutRange
import Derived.Deep.CutBlock
namespace Go.Proofs.Qxb6606288a
open Go.RowKit Go.Deep
set_option linter.unusedVariables false

/-- a body behind its first statements -/
def dropS : Nat → Code → Code
  | 0, c => c
  | k + 1, .seq _ b => dropS k b
  | _ + 1, _ => .skip

section
variable {s : List Nat} {x : Cx} {f0 sym : Nat → Value} {w wr : World} {A : Nat → Int} {T : Nat → Nat}
theorem IW.cellO (h : IW s x f0 sym w A T wr) (ho : x.ok s.length) {o : Nat} (i : Nat) (hi : i < s.length) (e : o = x.oa + i) : wr.cell? ⟨x.ga, o, none⟩ = some (.int .i32 (A i)) := by
  subst e; exact h.cellA ho hi
theorem IW.setO (h : IW s x f0 sym w A T wr) (ho : x.ok s.length) {o : Nat} (i : Nat) (hi : i < s.length) (e : o = x.oa + i) (v : Int) : IW s x f0 sym w (fun y => if y = i then v else A y) T (wr.setCell ⟨x.ga, o, none⟩ (.int .i32 v)) := by
  subst e; exact h.setA ho hi v (fun _ _ => rfl)
theorem IW.rebase {B : World} {A' : Nat → Int} {T' : Nat → Nat} (h : IW s x f0 sym B A T wr) {w' : World} (h2 : IW s x f0 sym wr A' T' w') : IW s x f0 sym B A' T' w' :=
  ⟨h2.sa, h2.sy, h2.sm, h2.at_, h2.cn, h2.bp, h2.lv, h.tc.trans h2.tc⟩
theorem IW.self (h : IW s x f0 sym w A T wr) : IW s x f0 sym wr A T wr := ⟨h.sa, h.sy, h.sm, h.at_, h.cn, h.bp, h.lv, Touch.refl _ _⟩
theorem IW.still (h : IW s x f0 sym w A T wr) {w' : World} (hs : Still wr w') : IW s x f0 sym w A T w' :=
  ⟨hs.row h.sa, fun i hi => (hs.cell _).trans (h.sy i hi), hs.row h.sm, hs.row h.at_, hs.row h.cn, ⟨(hs.cell _).trans h.bp.p0, (hs.cell _).trans h.bp.p1⟩, by rw [hs.heap]; exact h.lv, h.tc.trans (hs.touch _)⟩
end

/-- the numbers of one call of sortSuffixes -/
structure TC (s : List Nat) (x : Cx) (cs ca n : Nat) : Prop where
  hnn : s.length = n
  ho : x.ok s.length
  hn2 : 2 ≤ n
  hn : n ≤ 100000
  hk : x.k ≤ 100000
  hsk : ∀ i, i < s.length → Sais.c s i < x.k
  hcs : n ≤ cs
  hcm : x.os + cs ≤ 2 ^ 62
  hca : n ≤ ca
  hcm2 : x.oa + ca ≤ 2 ^ 62
/-- the numbers of the shorter string -/
structure TM (s : List Nat) (x : Cx) (n m r so cso : Nat) : Prop where
  hmm : (Sais.P1 s).length = m
  hr : m + r = n
  hcso : m ≤ cso
  hcso2 : so + cso ≤ 2 ^ 62
  hso : 0 < m → so = x.oa + r
end Go.Proofs.Qxb6606288a

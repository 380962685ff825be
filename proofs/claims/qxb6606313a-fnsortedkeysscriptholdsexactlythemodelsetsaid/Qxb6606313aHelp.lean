/-
  The law's helpers, walked. Not trusted: the kernel checks it.
-/
import Derived.Test.Qxb6606313aAdd
namespace Go.Proofs.Qxb6606313a
open Go.RowKit Go.Deep
set_option linter.unusedVariables false

/-- a slice of strings that can be read: its elements 'l' -/
def VS (w : World) (a : Option Addr) (n cap : Nat) (l : List ByteArray) : Prop :=
  l.length = n ∧ n ≤ cap ∧ cap ≤ maxLen ∧ (0 < n → ∃ b off, a = some ⟨b, off, none⟩ ∧ b < w.heap.size ∧ ∀ i s, l[i]? = some s → w.cell? ⟨b, off + i, none⟩ = some (.string s))

theorem VS.below {w w' : World} {a : Option Addr} {n cap : Nat} {l : List ByteArray} (h : VS w a n cap l) (hb : Below w.heap.size w w') : VS w' a n cap l := by
  obtain ⟨h1, h2, h3, h4⟩ := h
  refine ⟨h1, h2, h3, fun hn => ?_⟩
  obtain ⟨b, off, rfl, hlt, hc⟩ := h4 hn
  exact ⟨b, off, rfl, Nat.lt_of_lt_of_le hlt hb.size, fun i s hs => (hb.cell (p := ⟨b, off + i, none⟩) hlt).trans (hc i s hs)⟩
theorem VS.none (w : World) (a : Option Addr) (cap : Nat) (hc : cap ≤ maxLen) : VS w a 0 cap [] := ⟨rfl, Nat.zero_le _, hc, fun h => absurd h (by omega)⟩

/-! ### the guards: they answer a bool, or a number, and turn nothing -/
def BPost (w : World) (e : Ending) (w' : World) : Prop := ∃ b, e = .returned (.bool b) ∧ w' = w
def NPost (w : World) (e : Ending) (w' : World) : Prop := ∃ r, e = .returned (.int .i64 r) ∧ w' = w

set_option maxHeartbeats 1000000 in
theorem zz15 (a : Option Addr) (n c : Nat) (l : List ByteArray) (w : World) (hv : VS w a n c l) (hl : ∀ s ∈ l, s.size ≤ maxLen) : Calls Try.prog 15 #[.slice a n c] w (BPost w) := by
  obtain ⟨v1, v2, v3, v4⟩ := hv
  unfold maxLen at v3
  by_cases h1 : n ≤ 1048576
  case neg =>
    go_enter Try.func15, Try.ntmps15
    go_wp2
    go_ret
    exact ⟨false, rfl, rfl⟩
  have HL := hide hl
  clear hl
  go_enter Try.func15, Try.ntmps15
  go_wp2
  go_loop [3, 4] (fun t i => ∃ k T : Nat, k ≤ n ∧ i = .int .i64 k ∧ t = .int .i64 T ∧ T ≤ 1048576) (fun _ i => n - (intOf i).toNat)
  case atStart => exact ⟨0, n, Nat.zero_le _, rfl, by go_num, h1⟩
  case round =>
    obtain ⟨k, T, hk, rfl, rfl, hT⟩ := hrel
    by_cases hlt : k < n
    · obtain ⟨b, off, hx, hblt, hc⟩ := v4 (by omega)
      subst hx
      have hkl : k < l.length := by omega
      have hck := hc k l[k] (by simp [hkl])
      have hsz := HL.out l[k] (by simp)
      unfold maxLen at hsz
      obtain ⟨s, hs⟩ : ∃ s, l[k] = s := ⟨_, rfl⟩
      rw [hs] at hck hsz
      clear hs hc v4
      by_cases hs1 : s.size ≤ 1048576
      · by_cases hs2 : T + s.size ≤ 1048576
        · go_wp2
          go_round
          case rel => exact ⟨k + 1, T + s.size, by omega, by go_num, by go_num, hs2⟩
          case measure => simp [intOf]; omega
        · go_wp2
          go_ret
          exact ⟨false, rfl, rfl⟩
      · go_wp2
        go_ret
        exact ⟨false, rfl, rfl⟩
    · clear v4
      go_wp2
      go_ret
      exact ⟨true, rfl, rfl⟩

set_option maxHeartbeats 1000000 in
set_option maxRecDepth 100000 in
theorem sb7 (a : Option Addr) (n c : Nat) (l : List ByteArray) (w : World) (hv : VS w a n c l) : Calls Try.prog 7 #[.slice a n c] w (NPost w) := by
  obtain ⟨v1, v2, v3, v4⟩ := hv
  unfold maxLen at v3
  go_enter Try.func7, Try.ntmps7
  go_wp2
  go_loop [3, 4] (fun t i => ∃ k : Nat, ∃ T : Int, k ≤ n ∧ i = .int .i64 k ∧ t = .int .i64 T) (fun _ i => n - (intOf i).toNat)
  case atStart => exact ⟨0, _, Nat.zero_le _, rfl, rfl⟩
  case round =>
    obtain ⟨k, T, hk, rfl, rfl⟩ := hrel
    by_cases hlt : k < n
    · obtain ⟨b, off, hx, hblt, hc⟩ := v4 (by omega)
      subst hx
      have hkl : k < l.length := by omega
      have hck := hc k l[k] (by simp [hkl])
      obtain ⟨s, hs⟩ : ∃ s, l[k] = s := ⟨_, rfl⟩
      rw [hs] at hck
      clear hs hc v4
      go_wp2
      · go_ret
        exact ⟨_, rfl, rfl⟩
      · go_round
        case rel => exact ⟨k + 1, _, by omega, by go_num, rfl⟩
        case measure => simp [intOf]; omega
    · clear v4
      go_wp2
      go_ret
      exact ⟨_, rfl, rfl⟩

/-! ### zzIndex -/
def IPost (l : List ByteArray) (key : ByteArray) (w : World) (e : Ending) (w' : World) : Prop :=
  ∃ r : Int, e = .returned (.int .i64 r) ∧ w' = w ∧ ((∃ j : Nat, r = j ∧ l[j]? = some key) ∨ (r = -1 ∧ key ∉ l))

set_option maxHeartbeats 1000000 in
theorem idx9 (a : Option Addr) (n c : Nat) (l : List ByteArray) (key : ByteArray) (w : World) (hv : VS w a n c l) : Calls Try.prog 9 #[.slice a n c, .string key] w (IPost l key w) := by
  obtain ⟨v1, v2, v3, v4⟩ := hv
  unfold maxLen at v3
  go_enter Try.func9, Try.ntmps9
  go_wp2
  go_loop [5] (fun i => ∃ k : Nat, k ≤ n ∧ i = .int .i64 k ∧ ∀ x ∈ l.take k, x ≠ key) (fun i => n - (intOf i).toNat)
  case atStart => exact ⟨0, Nat.zero_le _, rfl, by simp⟩
  case round =>
    obtain ⟨k, hk, rfl, hno⟩ := hrel
    have HN := hide hno
    clear hno
    by_cases hlt : k < n
    · obtain ⟨b, off, hx, hblt, hc⟩ := v4 (by omega)
      subst hx
      have hkl : k < l.length := by omega
      have hck := hc k l[k] (by simp [hkl])
      have HT : Hid (l.take (k + 1) = l.take k ++ [l[k]]) := List.take_succ_eq_append_getElem hkl
      have HG : Hid (l[k]? = some l[k]) := by simp [Hid, hkl]
      obtain ⟨s, hs⟩ : ∃ s, l[k] = s := ⟨_, rfl⟩
      rw [hs] at hck HT HG
      clear hs hc v4
      by_cases e : s = key
      · subst e
        go_wp2
        go_ret
        exact ⟨k, rfl, rfl, .inl ⟨k, rfl, HG.out⟩⟩
      · have he : (s.toList == key.toList) = false := by rw [beq_eq_false_iff_ne]; exact fun h => e (ba_ext h)
        have HE := hide e
        clear e
        go_wp2
        go_round
        case rel =>
          refine ⟨k + 1, by omega, by go_num, ?_⟩
          rw [HT.out]
          intro x hx
          rcases List.mem_append.1 hx with hx | hx
          · exact HN.out x hx
          · simp at hx; subst hx; exact HE.out
        case measure => simp [intOf]; omega
    · clear v4
      go_wp2
      go_ret
      refine ⟨-1, rfl, rfl, .inr ⟨rfl, fun hm => ?_⟩⟩
      exact HN.out key (by rw [List.take_of_length_le (by omega)]; exact hm) rfl

/-! ### the new set; its list of blocks -/
set_option maxHeartbeats 400000 in
theorem new8 (w : World) : Calls Try.prog 8 #[] w fun e w' => e = .returned (.pointer (some ⟨w.heap.size, 0, none⟩)) ∧ w' = w.alloc (.cells #[.slice none 0 0] 41) := by
  go_enter Try.func8, Try.ntmps8
  go_wp2
  go_ret
  exact ⟨rfl, rfl⟩

/-- the list of blocks, as a value that can be read -/
def BV (w : World) (a : Option Addr) (n c : Nat) (L : List Blk) : Prop :=
  L.length = n ∧ n ≤ c ∧ c ≤ maxLen ∧ (∀ p ∈ L, p.ok w) ∧ (0 < n → ∃ G, a = some ⟨G, 0, none⟩ ∧ ∀ t p, L[t]? = some p → w.cell? ⟨G, t, none⟩ = some p.val)

theorem St.view {w : World} {bs : Nat} {F : List Nat} {K : List (List ByteArray)} (h : St w bs F K) : ∃ a n c L, keysOf L = K ∧ BV w a n c L ∧ w.cell? ⟨bs, 0, none⟩ = some (.slice a n c) := by
  rcases h with ⟨rfl, rfl, a, c, h, hc⟩ | ⟨hne, G, ys, L, rfl, hR, rfl⟩
  · exact ⟨a, 0, c, [], rfl, ⟨rfl, Nat.zero_le _, hc, by simp, fun h => absurd h (by omega)⟩, by rw [cell_of_row w bs 0 _ _ _ h]; rfl⟩
  · exact ⟨_, _, _, L, rfl, ⟨rfl, hR.yl, hR.ym, hR.ok, fun _ => ⟨G, rfl, fun t p hp => hR.cellRow t p hp⟩⟩, hR.cellPtr⟩

set_option maxHeartbeats 400000 in
theorem blocks14 (bs : Nat) (v : Value) (w : World) (h : w.cell? ⟨bs, 0, none⟩ = some v) : Calls Try.prog 14 #[.pointer (some ⟨bs, 0, none⟩)] w fun e w' => e = .returned v ∧ w' = w := by
  go_enter Try.func14, Try.ntmps14
  go_wp2
  go_ret
  exact ⟨rfl, rfl⟩

theorem flat_take_le (K : List (List ByteArray)) (k : Nat) : (K.take k).flatten.length ≤ K.flatten.length := by
  have h := congrArg (fun l : List (List ByteArray) => l.flatten.length) (List.take_append_drop k K)
  simp only [List.flatten_append, List.length_append] at h
  omega

set_option maxHeartbeats 1000000 in
theorem count18 (a : Option Addr) (n c : Nat) (L : List Blk) (w : World) (hv : BV w a n c L) (hb : (keysOf L).flatten.length ≤ 1000000) :
    Calls Try.prog 18 #[.slice a n c] w fun e w' => e = .returned (.int .i64 (keysOf L).flatten.length) ∧ w' = w := by
  obtain ⟨v1, v2, v3, v4, v5⟩ := hv
  unfold maxLen at v3
  have HV := hide v4
  clear v4
  go_enter Try.func18, Try.ntmps18
  go_wp2
  go_loop [3, 4] (fun t i => ∃ k T : Nat, k ≤ n ∧ i = .int .i64 k ∧ t = .int .i64 T ∧ T = ((keysOf L).take k).flatten.length) (fun _ i => n - (intOf i).toNat)
  case atStart => exact ⟨0, 0, Nat.zero_le _, rfl, rfl, by simp⟩
  case round =>
    obtain ⟨k, T, hk, rfl, rfl, hT⟩ := hrel
    have hTb : T ≤ 1000000 := by
      have := flat_take_le (keysOf L) k
      omega
    have HT := hide hT
    clear hT
    by_cases hlt : k < n
    · obtain ⟨G, hx, hc⟩ := v5 (by omega)
      subst hx
      have hkl : k < L.length := by omega
      have hck := hc k L[k] (by simp [hkl])
      have hpo := HV.out L[k] (by simp)
      have HT2 : Hid (((keysOf L).take (k + 1)).flatten.length = ((keysOf L).take k).flatten.length + L[k].k.length) := by
        unfold Hid
        rw [List.take_succ_eq_append_getElem (by rw [keys_len]; exact hkl), List.flatten_append, List.length_append]
        simp [keysOf]
      have hle : L[k].k.length ≤ 1000000 := by
        have := flat_take_le (keysOf L) (k + 1)
        have := HT2.out
        omega
      obtain ⟨p, hp⟩ : ∃ p, L[k] = p := ⟨_, rfl⟩
      rw [hp] at hck hpo HT2 hle
      unfold Blk.val at hck
      clear hp hc v5 hpo
      go_wp2
      go_round
      case rel => exact ⟨k + 1, T + p.k.length, by omega, by go_num, by go_num, by rw [HT2.out, HT.out]⟩
      case measure => simp [intOf]; omega
    · have hf : T = (keysOf L).flatten.length := by rw [HT.out, List.take_of_length_le (by rw [keys_len]; omega)]
      subst hf
      clear v5
      go_wp2
      go_ret
      exact ⟨rfl, rfl⟩

set_option maxHeartbeats 1000000 in
theorem half17 (a : Option Addr) (n c : Nat) (L : List Blk) (w : World) (hv : BV w a n c L) (hf : HF (keysOf L)) :
    Calls Try.prog 17 #[.slice a n c] w fun e w' => e = .returned (.bool true) ∧ w' = w := by
  obtain ⟨v1, v2, v3, v4, v5⟩ := hv
  unfold maxLen at v3
  have HV := hide v4
  have HF' := hide hf
  clear v4 hf
  by_cases h2 : n < 2
  · clear v5
    go_enter Try.func17, Try.ntmps17
    go_wp2
    go_ret
    exact ⟨rfl, rfl⟩
  · go_enter Try.func17, Try.ntmps17
    go_wp2
    go_loop [3] (fun i => ∃ k : Nat, k ≤ n ∧ i = .int .i64 k) (fun i => n - (intOf i).toNat)
    case atStart => exact ⟨0, Nat.zero_le _, rfl⟩
    case round =>
      obtain ⟨k, hk, rfl⟩ := hrel
      by_cases hlt : k < n
      · obtain ⟨G, hx, hc⟩ := v5 (by omega)
        subst hx
        have hkl : k < L.length := by omega
        have hck := hc k L[k] (by simp [hkl])
        have h256 := HF'.out (by rw [keys_len]; omega) L[k].k (List.mem_map_of_mem (List.getElem_mem hkl))
        obtain ⟨p, hp⟩ : ∃ p, L[k] = p := ⟨_, rfl⟩
        rw [hp] at hck h256
        unfold Blk.val at hck
        have d : decide ((p.k.length : Int) < 256) = false := by simp; omega
        clear hp hc v5 h256
        go_wp2
        go_round
        case rel => exact ⟨k + 1, by omega, by go_num⟩
        case measure => simp [intOf]; omega
      · clear v5
        go_wp2
        go_ret
        exact ⟨rfl, rfl⟩

/-! ### zzBlocksOrdered -/
set_option maxHeartbeats 1000000 in
set_option maxRecDepth 100000 in
theorem ord16 (a : Option Addr) (n c : Nat) (L : List Blk) (w : World) (hv : BV w a n c L) (hK : Inv (keysOf L)) :
    Calls Try.prog 16 #[.slice a n c] w fun e w' => e = .returned (.bool true) ∧ w' = w := by
  obtain ⟨v1, v2, v3, v4, v5⟩ := hv
  unfold maxLen at v3
  have HV := hide v4
  have HK := hide hK
  clear v4 hK
  go_enter Try.func16, Try.ntmps16
  go_wp2
  go_loop [3, 4, 5] (fun h s i => ∃ (k : Nat) (hv : Bool) (pv : ByteArray), k ≤ n ∧ i = .int .i64 k ∧ h = .bool hv ∧ s = .string pv ∧ (hv = true → ∀ t, k ≤ t → ∀ p, L[t]? = some p → ∀ x ∈ p.k, lts pv x = true)) (fun _ _ i => n - (intOf i).toNat)
  case atStart => exact ⟨0, false, ⟨#[]⟩, Nat.zero_le _, rfl, rfl, rfl, by simp⟩
  case round =>
    obtain ⟨k, hv, pv, hk, rfl, rfl, rfl, hlt0⟩ := hrel
    have H0 := hide hlt0
    clear hlt0
    by_cases hlt : k < n
    · obtain ⟨G, hx, hc⟩ := v5 (by omega)
      subst hx
      have hkl : k < L.length := by omega
      have hck := hc k L[k] (by simp [hkl])
      have hpo := hide (HV.out L[k] (by simp))
      have hkm : L[k].k ∈ keysOf L := List.mem_map_of_mem (List.getElem_mem hkl)
      have hne := List.length_pos_iff.2 (HK.out.ne _ hkm)
      have hle := HK.out.le _ hkm
      have HG : Hid (L[k]? = some L[k]) := by simp [Hid, hkl]
      obtain ⟨p, hp⟩ : ∃ p, L[k] = p := ⟨_, rfl⟩
      rw [hp] at hck hpo hkm hne hle HG
      unfold Blk.val at hck
      have HKM := hide hkm
      have q1 : decide ((p.k.length : Int) < 1) = false := by simp; omega
      have q2 : decide ((512 : Int) < (p.k.length : Int)) = false := by simp; omega
      clear hp hc v5 hkm
      go_wp2
      go_loop [3, 4, 7] (fun h s i => ∃ (j : Nat) (hv : Bool) (pv : ByteArray), j ≤ p.k.length ∧ i = .int .i64 j ∧ h = .bool hv ∧ s = .string pv ∧ (hv = true → (∀ x ∈ p.k.drop j, lts pv x = true) ∧ ∀ t, k < t → ∀ q, L[t]? = some q → ∀ x ∈ q.k, lts pv x = true)) (fun _ _ i => p.k.length - (intOf i).toNat)
      case atStart => exact ⟨0, hv, pv, Nat.zero_le _, rfl, rfl, rfl, fun h => ⟨fun x hx => H0.out h k (Nat.le_refl _) p HG.out x (by simpa using hx), fun t ht q hq x hx => H0.out h t (by omega) q hq x hx⟩⟩
      case round =>
        clear q1 q2
        obtain ⟨j, h2, pv2, hj, rfl, rfl, rfl, hj0⟩ := hrel
        have J0 := hide hj0
        clear hj0
        by_cases hjl : j < p.k.length
        · have hcj := Blk.cell hpo.out j p.k[j] (by simp [hjl])
          have hl1 : h2 = true → lts pv2 p.k[j] = true := fun h => (J0.out h).1 _ (by rw [List.drop_eq_getElem_cons hjl]; exact List.mem_cons_self ..)
          have N1 : Hid ((∀ x ∈ p.k.drop (j + 1), lts p.k[j] x = true) ∧ ∀ t, k < t → ∀ q, L[t]? = some q → ∀ x ∈ q.k, lts p.k[j] x = true) := by
            refine ⟨fun x hx => ?_, fun t ht q hq x hx => HK.out.cross (keys_get HG.out) (keys_get hq) ht (List.getElem_mem hjl) hx⟩
            obtain ⟨u, hu, rfl⟩ := List.mem_iff_getElem.1 hx
            rw [List.getElem_drop]
            rw [List.length_drop] at hu
            exact List.pairwise_iff_getElem.1 (HK.out.inner HKM.out) j (j + 1 + u) hjl (by omega) (by omega)
          obtain ⟨s, hs⟩ : ∃ s, p.k[j] = s := ⟨_, rfl⟩
          rw [hs] at hcj hl1 N1
          clear hs
          cases h2 with
          | false =>
            clear hl1
            go_wp2
            go_round
            case rel => exact ⟨j + 1, true, s, by omega, by go_num, rfl, rfl, fun _ => N1.out⟩
            case measure => simp [intOf]; omega
          | true =>
            have hl2 : Op.bytesLess pv2.toList s.toList = true := hl1 rfl
            clear hl1
            go_wp2
            go_round
            case rel => exact ⟨j + 1, true, s, by omega, by go_num, rfl, rfl, fun _ => N1.out⟩
            case measure => simp [intOf]; omega
        · go_wp2
          go_round
          case rel => exact ⟨k + 1, h2, pv2, by omega, by go_num, rfl, rfl, fun h t ht q hq x hx => (J0.out h).2 t (by omega) q hq x hx⟩
          case measure => simp [intOf]; omega
    · clear v5
      go_wp2
      go_ret
      exact ⟨rfl, rfl⟩
end Go.Proofs.Qxb6606313a

import Derived.Test.YtcfbkkcamiephaaGreatDoorB1
import Derived.Lib.OthersKept
namespace Go.Proofs.YtcfbkkcamiephaaGreatDoor
open Go.RowKit

/-! ### zzIndexAny -/
def idxA (cs : List UInt8) : List UInt8 → Nat
  | [] => 0
  | x :: r => if x ∈ cs then 0 else idxA cs r + 1
theorem idxA_le (cs l : List UInt8) : idxA cs l ≤ l.length := by
  induction l with
  | nil => simp [idxA]
  | cons x r ih => simp only [idxA]; split <;> simp; omega
theorem idxA_at (cs l : List UInt8) (h : idxA cs l < l.length) : l[idxA cs l] ∈ cs := by
  induction l with
  | nil => simp [idxA] at h
  | cons x r ih =>
    by_cases hx : x ∈ cs
    · simp [idxA, hx]
    · simp [idxA, hx] at h ⊢
      exact ih h
theorem idxA_before (cs l : List UInt8) (k : Nat) (h : k < idxA cs l) (hk : k < l.length) : ¬ l[k] ∈ cs := by
  induction l generalizing k with
  | nil => simp at hk
  | cons x r ih =>
    by_cases hx : x ∈ cs
    · simp [idxA, hx] at h
    · cases k with
      | zero => simpa using hx
      | succ k =>
        simp [idxA, hx] at h
        simpa using ih k h (by simpa using hk)
def idxAI (cs l : List UInt8) : Int := if idxA cs l < l.length then (idxA cs l : Int) else -1
def contB (s : ByteArray) (k : Nat) : Bool := decide (k < s.size) && (s.get! k).toNat / 64 == 2
theorem decode_width (s : ByteArray) (pos : Nat) : (Utf8.decode s pos).2 = 1 ∨ ((Utf8.decode s pos).2 = 2 ∧ contB s (pos + 1) = true) ∨ ((Utf8.decode s pos).2 = 3 ∧ contB s (pos + 1) = true ∧ contB s (pos + 2) = true) ∨
    ((Utf8.decode s pos).2 = 4 ∧ contB s (pos + 1) = true ∧ contB s (pos + 2) = true ∧ contB s (pos + 3) = true) := by
  simp only [Utf8.decode, contB]
  repeat' split
  all_goals simp_all
theorem decode_bytes (s : ByteArray) (pos : Nat) (h : pos < s.size) (ha : 128 ≤ (s[pos]'h).toNat) (j : Nat) (h1 : pos ≤ j) (h2 : j < pos + (Utf8.decode s pos).2) : j < s.size ∧ 128 ≤ (s.get! j).toNat := by
  have g0 : s.get! pos = s[pos]'h := get_at s pos h
  have key : ∀ k, contB s k = true → k < s.size ∧ 128 ≤ (s.get! k).toNat := by
    intro k hk
    simp [contB] at hk
    omega
  have h0 : pos < s.size ∧ 128 ≤ (s.get! pos).toNat := ⟨h, by rw [g0]; exact ha⟩
  rcases decode_width s pos with hw | ⟨hw, c1⟩ | ⟨hw, c1, c2⟩ | ⟨hw, c1, c2, c3⟩
  all_goals rw [hw] at h2
  · have : j = pos := by omega
    subst this; exact h0
  · rcases (show j = pos ∨ j = pos + 1 by omega) with rfl | rfl
    · exact h0
    · exact key _ c1
  · rcases (show j = pos ∨ j = pos + 1 ∨ j = pos + 2 by omega) with rfl | rfl | rfl
    · exact h0
    · exact key _ c1
    · exact key _ c2
  · rcases (show j = pos ∨ j = pos + 1 ∨ j = pos + 2 ∨ j = pos + 3 by omega) with rfl | rfl | rfl | rfl
    · exact h0
    · exact key _ c1
    · exact key _ c2
    · exact key _ c3
theorem get_list (l : List UInt8) (j : Nat) (h : j < l.length) : (mkS l).get! j = l[j] := by
  have : j < (mkS l).size := by rw [size_mkS]; exact h
  rw [show (mkS l).get! j = (mkS l)[j]'this from get_at (mkS l) j this]
  rfl
/-- no byte that ends a name lies in the rune at pos -/
theorem rune_clear (cs l : List UInt8) (hc : ∀ c ∈ cs, c.toNat < 128) (pos n : Nat) (hn : n = idxA cs l) (hp : pos ≤ n) (h : pos < l.length) (ha : 128 ≤ (l[pos]).toNat) : pos + (Utf8.decode (mkS l) pos).2 ≤ n := by
  subst hn
  refine Nat.le_of_not_lt fun hlt => ?_
  have hs : pos < (mkS l).size := by rw [size_mkS]; exact h
  obtain ⟨hb1, hb2⟩ := decode_bytes (mkS l) pos hs ha (idxA cs l) hp hlt
  rw [size_mkS] at hb1
  have := hc _ (idxA_at cs l hb1)
  rw [get_list l _ hb1] at hb2
  omega

set_option maxRecDepth 100000 in
set_option maxHeartbeats 1600000 in
theorem zzIndexAny_any (l cs : List UInt8) (w : World) (_hl : l.length ≤ 1000000000) (hcs : cs.length ≤ 100) (hc : ∀ c ∈ cs, c.toNat < 128) :
    Calls Tryz.prog 151 #[.string (mkS l), .string (mkS cs)] w fun e w' => e = .returned (.int .i64 (idxAI cs l)) ∧ Below w.heap.size w w' := by
  have zl := size_mkS l
  have zc := size_mkS cs
  have hn := idxA_le cs l
  generalize hi : idxA cs l = n at hn
  have HI := Lib.hid hi; clear hi
  have HC := Lib.hid hc; clear hc
  go_enter Tryz.func151, Tryz.ntmps151
  go_wp2
  go_loopw [5, 6] (fun _ _ wr => ∃ pos : Nat, pos ≤ n ∧ wr.heap[w.heap.size]? = some (.stringIter (mkS l) pos) ∧ Below w.heap.size w wr) (fun _ _ wr => l.length + 1 - wr.iterPos w.heap.size)
  case atStart => exact ⟨0, by omega, World.iter_heap _ _ _, (Below.refl _ _).alloc (Nat.le_refl _) _⟩
  case round =>
    obtain ⟨pos, hp, hk, hb⟩ := hrel
    obtain ⟨wo, rfl⟩ : ∃ wo : World, wo = wr := ⟨_, rfl⟩
    have hlt0 : w.heap.size < wo.heap.size := (Array.getElem?_eq_some_iff.1 hk).1
    by_cases hlt : pos < l.length
    · have hnx := fun ty => Lib.run_next_any_at (P := Tryz.prog) wo w.heap.size (mkS l) pos ty hk (by rw [zl]; exact hlt)
      have hdec : (l[pos].toNat < 128 ∧ (Utf8.decode (mkS l) pos) = (l[pos].toNat, 1)) ∨ (128 ≤ l[pos].toNat ∧ 128 ≤ (Utf8.decode (mkS l) pos).1 ∧ (pos ≤ n → pos + (Utf8.decode (mkS l) pos).2 ≤ n)) := by
        by_cases ha : l[pos].toNat < 128
        · exact .inl ⟨ha, decode_ascii (mkS l) pos (by rw [zl]; exact hlt) ha⟩
        · exact .inr ⟨by omega, (decode_high (mkS l) pos (by rw [zl]; exact hlt) (by show 128 ≤ l[pos].toNat; omega)).1, fun _ => rune_clear cs l HC.out pos n HI.out.symm hp hlt (by omega)⟩
      have hw1 : 1 ≤ (Utf8.decode (mkS l) pos).2 := by
        rcases decode_width (mkS l) pos with h | ⟨h, _⟩ | ⟨h, _⟩ | ⟨h, _⟩ <;> omega
      generalize hr : Utf8.decode (mkS l) pos = rw at hnx hdec hw1
      clear hr
      obtain ⟨r, wd⟩ := rw
      simp only [Prod.mk.injEq] at hdec hnx hw1
      have hk2 := Lib.iterAt_heap wo w.heap.size (mkS l) pos (pos + wd) hk
      have hb2 := Lib.below_iterAt hb (Nat.le_refl _) (mkS l) (pos + wd)
      generalize hW : wo.iterAt w.heap.size (mkS l) (pos + wd) = W at hnx hk2 hb2
      have HW := Lib.hid hW; clear hW
      have hWlt : w.heap.size < W.heap.size := (Array.getElem?_eq_some_iff.1 hk2).1
      have HD := Lib.hid hdec; clear hdec
      have hcase : (pos < n ∧ Hid (∀ (j : Nat) (h : j < cs.length), r ≠ cs[j].toNat) ∧ pos + wd ≤ n) ∨ (pos = n ∧ ∃ j0, ∃ h : j0 < cs.length, Hid (r = cs[j0].toNat)) := by
        rcases Nat.lt_or_eq_of_le hp with hlt2 | heq
        · refine .inl ⟨hlt2, ?_, ?_⟩
          · intro j h he
            rcases HD.out with ⟨h1, h2, _⟩ | ⟨h1, h2, _⟩
            · have := idxA_before cs l pos (by rw [HI.out]; exact hlt2) hlt
              apply this
              have : l[pos] = cs[j] := UInt8.toNat_inj.1 (by omega)
              rw [this]; exact List.getElem_mem _
            · have := HC.out _ (List.getElem_mem h); omega
          · rcases HD.out with ⟨h1, h2, h3⟩ | ⟨h1, h2, h3⟩
            · omega
            · exact h3 hp
        · refine .inr ⟨heq, ?_⟩
          subst heq
          have hm := idxA_at cs l (by rw [HI.out]; exact hlt)
          simp only [HI.out] at hm
          obtain ⟨j0, hj0, he⟩ := List.getElem_of_mem hm
          refine ⟨j0, hj0, ?_⟩
          rcases HD.out with ⟨h1, h2, _⟩ | ⟨h1, h2, _⟩
          · unfold Hid; rw [he]; exact h2
          · have := HC.out _ hm; omega
      rcases hcase with ⟨hlt2, hno, hwd⟩ | ⟨heq, j0, hj0, hyes⟩
      · go_wp2
        go_loopw [8] (fun _ W2 => ∃ j : Nat, j ≤ cs.length ∧ W2.heap[W.heap.size]? = some (.stringIter (mkS cs) j) ∧ W2.heap[w.heap.size]? = some (.stringIter (mkS l) (pos + wd)) ∧ Below w.heap.size w W2) (fun _ W2 => cs.length + 1 - W2.iterPos W.heap.size)
        case atStart =>
          refine ⟨0, by omega, World.iter_heap _ _ _, ?_, hb2.alloc (by omega) _⟩
          rw [show (W.iter (mkS cs) 0).heap[w.heap.size]? = W.heap[w.heap.size]? from Below.heap_alloc W _ _ hWlt]; exact hk2
        case round =>
          obtain ⟨j, hj, hkj, hkl, hbj⟩ := hrel
          have hjs : W.heap.size < wr.heap.size := (Array.getElem?_eq_some_iff.1 hkj).1
          by_cases hjl : j < cs.length
          · have hnx2 := fun ty => Lib.run_next_ascii_at (P := Tryz.prog) wr W.heap.size (mkS cs) j ty hkj (by rw [zc]; exact hjl) (HC.out _ (List.getElem_mem hjl))
            have hx2 : (mkS cs)[j]'(by rw [zc]; exact hjl) = cs[j] := rfl
            rw [hx2] at hnx2
            have hne : ((r : Int) == (cs[j].toNat : Int)) = false := beq_eq_false_iff_ne.2 (by have := hno.out j hjl; omega)
            have hA := Lib.iterAt_heap wr W.heap.size (mkS cs) j (j + 1) hkj
            have hB := Lib.iterAt_other wr W.heap.size w.heap.size (mkS cs) (j + 1) (by omega)
            have hC := Lib.below_iterAt hbj (show w.heap.size ≤ W.heap.size by omega) (mkS cs) (j + 1)
            clear hnx
            go_wp2
            go_roundw
            case rel => exact ⟨j + 1, by omega, hA, by rw [hB]; exact hkl, hC⟩
            case measure => simp [World.iterPos, hA, hkj]; omega
          · have hnx2 := fun ty => Lib.run_next_end_at (P := Tryz.prog) wr W.heap.size (mkS cs) j ty hkj (by rw [zc]; exact hjl)
            clear hnx
            go_wp2
            go_roundw
            case rel => exact ⟨pos + wd, by omega, hkl, hbj⟩
            case measure => simp [World.iterPos, hkl, hk]; omega
      · go_wp2
        go_loopw [8] (fun _ W2 => ∃ j : Nat, j ≤ j0 ∧ W2.heap[W.heap.size]? = some (.stringIter (mkS cs) j) ∧ Below w.heap.size w W2) (fun _ W2 => cs.length + 1 - W2.iterPos W.heap.size)
        case atStart => exact ⟨0, by omega, World.iter_heap _ _ _, hb2.alloc (by omega) _⟩
        case round =>
          obtain ⟨j, hj, hkj, hbj⟩ := hrel
          have hjs : W.heap.size < wr.heap.size := (Array.getElem?_eq_some_iff.1 hkj).1
          have hjl : j < cs.length := by omega
          have hnx2 := fun ty => Lib.run_next_ascii_at (P := Tryz.prog) wr W.heap.size (mkS cs) j ty hkj (by rw [zc]; exact hjl) (HC.out _ (List.getElem_mem hjl))
          have hx2 : (mkS cs)[j]'(by rw [zc]; exact hjl) = cs[j] := rfl
          rw [hx2] at hnx2
          have hA := Lib.iterAt_heap wr W.heap.size (mkS cs) j (j + 1) hkj
          have hC := Lib.below_iterAt hbj (show w.heap.size ≤ W.heap.size by omega) (mkS cs) (j + 1)
          clear hnx
          by_cases hne : (r : Int) = (cs[j].toNat : Int)
          · have hb1 : ((r : Int) == (cs[j].toNat : Int)) = true := beq_iff_eq.2 hne
            have HNE := Lib.hid hne; clear hne
            have HQ := Lib.hid heq; clear heq
            go_wp2
            go_ret
            exact ⟨ret_int (by unfold idxAI; rw [HI.out, ← HQ.out, if_pos hlt]), hC⟩
          · have hb1 : ((r : Int) == (cs[j].toNat : Int)) = false := beq_eq_false_iff_ne.2 hne
            have hjj : j < j0 := by
              rcases Nat.lt_or_eq_of_le hj with h | h
              · exact h
              · subst h; exact absurd hyes.out (by intro h; exact hne (by exact_mod_cast h))
            have HQ := Lib.hid heq; clear heq
            clear hne
            go_wp2
            go_roundw
            case rel => exact ⟨j + 1, by omega, hA, hC⟩
            case measure => simp [World.iterPos, hA, hkj]; omega
    · have hnx := fun ty => Lib.run_next_end_at (P := Tryz.prog) wo w.heap.size (mkS l) pos ty hk (by rw [zl]; exact hlt)
      go_wp2
      go_ret
      exact ⟨ret_int (by unfold idxAI; rw [HI.out, if_neg (by omega)]), hb⟩

import Derived.Test.YtcfbkkcamiephaaGreatDoorA1
import Derived.WalkSpells
import Derived.WalkLawsBesides
import Derived.Lib.Strings
import Derived.Maps.AppendAt
namespace Go.Proofs.YtcfbkkcamiephaaGreatDoor
open Go.RowKit

/-! ### Texts: plain words -/
theorem ext1 (s : ByteArray) (k : Nat) (c : UInt8) : ((s.extract k (k + 1)).toList == [c]) = (s.data.toList[k]? == some c) := by
  rw [Lib.extract_toList, show k + 1 - k = 1 by omega]
  cases h : s.data.toList[k]? with
  | none =>
    rw [List.drop_eq_nil_of_le (by simpa using h)]; rfl
  | some x =>
    obtain ⟨hk, hx⟩ := List.getElem?_eq_some_iff.1 h
    rw [List.drop_eq_getElem_cons hk, hx]
    rw [Bool.eq_iff_iff]; simp
theorem size_len (s : ByteArray) : s.size = s.data.toList.length := Lib.size_eq s

/-- where a byte stands first, or the length -/
def idx (c : UInt8) : List UInt8 → Nat
  | [] => 0
  | x :: r => if x = c then 0 else idx c r + 1
theorem idx_le (c : UInt8) (l : List UInt8) : idx c l ≤ l.length := by
  induction l with
  | nil => simp [idx]
  | cons x r ih => simp only [idx]; split <;> simp; omega
theorem idx_at (c : UInt8) (l : List UInt8) (h : idx c l < l.length) : l[idx c l]? = some c := by
  induction l with
  | nil => simp [idx] at h
  | cons x r ih =>
    simp only [idx] at h ⊢
    split
    · rename_i hx; simp [hx]
    · rename_i hx; rw [if_neg hx] at h; simp at h ⊢; exact ih h
theorem idx_before (c : UInt8) (l : List UInt8) (k : Nat) (h : k < idx c l) : (l[k]? == some c) = false := by
  induction l generalizing k with
  | nil => simp [idx] at h
  | cons x r ih =>
    simp only [idx] at h
    split at h
    · omega
    · rename_i hx
      cases k with
      | zero => simpa using hx
      | succ k => simp; simpa using ih k (by omega)
/-- zzIndex's answer -/
def idxI (c : UInt8) (l : List UInt8) : Int := if idx c l < l.length then (idx c l : Int) else -1

set_option maxRecDepth 100000 in
set_option maxHeartbeats 400000 in
theorem zzIndex_any (s : ByteArray) (c : UInt8) (w : World) (hs : s.size ≤ 1000000000) :
    Calls Tryz.prog 141 #[.string s, .string ⟨#[c]⟩] w fun e w' => e = .returned (.int .i64 (idxI c s.data.toList)) ∧ w = w' := by
  have hl := idx_le c s.data.toList
  rw [← size_len] at hl
  generalize hi : idx c s.data.toList = n at hl
  have HI := Lib.hid hi
  clear hi
  go_enter Tryz.func141, Tryz.ntmps141
  go_wp2
  go_loop [5] (fun i => ∃ k : Nat, k ≤ n ∧ i = .int .i64 k) (fun i => s.size + 1 - (intOf i).toNat)
  case atStart => exact ⟨0, by omega, rfl⟩
  case round =>
    obtain ⟨k, hk, rfl⟩ := hrel
    by_cases hlt : k < n
    · have e : ((s.extract k (k + 1)).toList == [c]) = false := by
        rw [ext1]; exact idx_before _ _ _ (by rw [HI.out]; exact hlt)
      go_wp2
      go_round
      case rel => exact ⟨k + 1, by omega, by go_num⟩
      case measure => simp [intOf]; omega
    · obtain rfl : k = n := by omega
      by_cases hn : k < s.size
      · have e : ((s.extract k (k + 1)).toList == [c]) = true := by
          rw [ext1]; have := idx_at c s.data.toList (by rw [HI.out, ← size_len]; exact hn); rw [HI.out] at this; rw [this]; simp
        go_wp2
        go_ret
        exact ⟨ret_int (by unfold idxI; rw [HI.out, ← size_len, if_pos hn]), rfl⟩
      · go_wp2
        go_ret
        exact ⟨ret_int (by unfold idxI; rw [HI.out, ← size_len, if_neg hn]), rfl⟩

/-! ### zzSplit -/
/-- a text's pieces between bytes -/
def splitL (c : UInt8) : List UInt8 → List (List UInt8)
  | [] => [[]]
  | x :: r => if x = c then [] :: splitL c r else match splitL c r with
    | [] => [[x]]
    | h :: t => (x :: h) :: t
theorem splitL_idx (c : UInt8) (l : List UInt8) (h : idx c l < l.length) : splitL c l = l.take (idx c l) :: splitL c (l.drop (idx c l + 1)) := by
  induction l with
  | nil => simp [idx] at h
  | cons x r ih =>
    simp only [idx] at h ⊢
    by_cases hx : x = c
    · rw [if_pos hx]; simp [splitL, hx]
    · rw [if_neg hx] at h ⊢
      simp only [splitL, if_neg hx]
      rw [ih (by simpa using h)]
      simp
theorem splitL_none (c : UInt8) (l : List UInt8) (h : ¬ idx c l < l.length) : splitL c l = [l] := by
  induction l with
  | nil => rfl
  | cons x r ih =>
    simp only [idx] at h
    by_cases hx : x = c
    · rw [if_pos hx] at h; simp at h
    · rw [if_neg hx] at h
      simp only [splitL, if_neg hx]
      rw [ih (by simpa using h)]
theorem splitL_ne (c : UInt8) (l : List UInt8) : splitL c l ≠ [] := by
  by_cases h : idx c l < l.length
  · rw [splitL_idx c l h]; simp
  · rw [splitL_none c l h]; simp

/-- a row of texts in memory -/
structure StrRow (w : World) (g c : Nat) (xs : List ByteArray) : Prop where
  lt : g < w.heap.size
  cap : xs.length ≤ c
  len : xs.length ≤ 1000000001
  cell : ∀ i x, xs[i]? = some x → w.cell? ⟨g, i, none⟩ = some (.string x)
theorem StrRow.below {w w' : World} {g c : Nat} {xs : List ByteArray} (h : StrRow w g c xs) (hb : Below w.heap.size w w') : StrRow w' g c xs :=
  ⟨Nat.lt_of_lt_of_le h.lt hb.size, h.cap, h.len, fun i x hx => by rw [hb.cell (p := ⟨g, i, none⟩) h.lt]; exact h.cell i x hx⟩
def mkS (l : List UInt8) : ByteArray := ⟨l.toArray⟩
theorem mkS_data (l : List UInt8) : (mkS l).data.toList = l := rfl
theorem mkS_eq (s : ByteArray) : mkS s.data.toList = s := by cases s; simp [mkS]
theorem size_mkS (l : List UInt8) : (mkS l).size = l.length := by rw [size_len]; rfl
theorem extract_mkS (s : ByteArray) (a b : Nat) : s.extract a b = mkS ((s.data.toList.drop a).take (b - a)) := by
  rw [← mkS_eq (s.extract a b), Lib.extract_data]
def SplitPost (w : World) (xs : List ByteArray) (e : Ending) (w' : World) : Prop :=
  ∃ g c, e = .returned (.slice (some ⟨g, 0, none⟩) xs.length c) ∧ w.heap.size ≤ g ∧ StrRow w' g c xs ∧ Below w.heap.size w w'
theorem own_strRow {w : World} {base : Nat} {v : Value} {n : Nat} {xs : List ByteArray} (h : w.ownsRow base 9 1 v n (xs.map Value.string)) (hn : 0 < n) (hl : n ≤ 1000000001) :
    ∃ g c, v = .slice (some ⟨g, 0, none⟩) n c ∧ base ≤ g ∧ StrRow w g c xs := by
  rcases h.2 with ⟨_, h0⟩ | ⟨g, cap, cur, hv, hb, hh, hc, hm, hs, ht⟩
  · omega
  · have hlen : xs.length = n := by have := h.1; simpa using this
    refine ⟨g, cap, hv, hb, (Array.getElem?_eq_some_iff.1 hh).1, by omega, by omega, fun i x hx => ?_⟩
    have := h.cells (g := g) (by rw [hv]; rfl) i (.string x) (by rw [List.getElem?_map, hx]; rfl)
    rw [← this]
    congr 1
    unfold Addr.add
    split <;> simp_all
/-- 'append(v, y)' of one element of one cell onto a row of the call's own: the goal as the walk leaves it behind 'at_builtin'. -/
theorem app1 {P : Program} {ops : Array Oper} {rest : List Oper} {o : Oper} {a : Act} {Q : Exit → Act → World → Prop} {w0 W : World} {y : Value} {e : TypeId}
    (base : Nat) (s x : Operand) (t : TypeId) (z : Value) (bytes : Nat) (ht : P.underlying t = some (.slice e))
    (hinfo : (P.info? e).map (fun i => (i.zero, i.size, i.bytes)) = some (some z, 1, bytes)) (hz : z.cells.size = 1) (h1 : y.oneCell' = true)
    {v : Value} {n : Nat} {xs : List Value} (HO : W.ownsRow base e 1 v n xs) (HB : Below base w0 W) (hbase : base ≤ W.heap.size) (hlen : n ≤ 1000000000000) (hb : bytes ≤ 100)
    (hgd : o.guard = none) (ho : o.op = .call { callee := .builtin .append, args := #[s, x], argTypes := #[t, t] })
    (hs : a.eval s = v) (hx : a.eval x = .slice (some ⟨W.heap.size, 0, none⟩) 1 1)
    (h : ∀ v1 w1, w1.ownsRow base e 1 v1 (n + 1) (xs ++ [y]) → Below base w0 w1 → W.heap.size ≤ w1.heap.size → wpList P ops Q rest (a.put o.dst v1) w1) :
    wpList P ops Q (o :: rest) a (W.alloc (.cells #[y] e)) := by
  obtain ⟨i0, hi, hz0, hz1, hz2⟩ := info_parts hinfo
  have hbb : (n + 1) * bytes ≤ 140737488355328 := Nat.le_trans (Nat.mul_le_mul (show n + 1 ≤ 1000000000001 by omega) hb) (by omega)
  refine wpList_append_own (W.alloc (.cells #[y] e)) hgd s x t ho base e i0 z 1 bytes ht hi hz0 hz1 hz2 hz (by omega) v n xs hs (HO.alloc _) ⟨W.heap.size, 0, none⟩ 1 1 [y] hx rfl
    (cell_one_new W y e) (by simpa using h1) (by simp only [maxLen]; omega) hbb (by simp; omega) ?_
  intro v1 w1 hown hg _
  refine h v1 w1 hown ((HB.alloc hbase _).grown hg (by simp; omega) (fun k hk => (HO.lt k hk).1)) ?_
  have := hg.size
  simp at this
  omega
def strLen : Value → Nat | .string s => s.size | _ => 0
theorem Tryz.info9 : (Tryz.prog.info? 9).map (fun i => (i.zero, i.size, i.bytes)) = some (some (.string ByteArray.empty), 1, 16) := by kernel_rfl

theorem extract_tail (s : ByteArray) (n : Nat) : (s.extract n s.size).data.toList = s.data.toList.drop n := by
  rw [Lib.extract_data, size_len, List.take_of_length_le]
  simp
theorem extract_head (s : ByteArray) (n : Nat) : (s.extract 0 n).data.toList = s.data.toList.take n := by
  rw [Lib.extract_data]; simp
theorem split_step {c : UInt8} {s s' : ByteArray} {xs : List ByteArray} {n : Nat} (h : (splitL c s.data.toList).map mkS = xs ++ (splitL c s'.data.toList).map mkS)
    (h2 : splitL c s'.data.toList = s'.data.toList.take n :: splitL c (s'.data.toList.drop (n + 1))) :
    Hid ((splitL c s.data.toList).map mkS = (xs ++ [s'.extract 0 n]) ++ (splitL c (s'.extract (n + 1) s'.size).data.toList).map mkS) := by
  unfold Hid
  rw [h, h2, extract_tail, List.map_cons, ← extract_head, mkS_eq, List.append_assoc]
  rfl
set_option maxRecDepth 100000 in
set_option maxHeartbeats 1600000 in
theorem zzSplit_any (s : ByteArray) (c : UInt8) (w : World) (hs : s.size ≤ 1000000000) :
    Calls Tryz.prog 107 #[.string s, .string ⟨#[c]⟩] w (SplitPost w ((splitL c s.data.toList).map mkS)) := by
  obtain ⟨i0, hi, hz0, hz1, hz2⟩ := info_parts Tryz.info9
  go_enter Tryz.func107, Tryz.ntmps107
  go_wp2
  go_loopw [0, 5] (fun sv v wr => ∃ (s' : ByteArray) (xs : List ByteArray), sv = .string s' ∧ wr.ownsRow w.heap.size 9 1 v xs.length (xs.map Value.string) ∧ Below w.heap.size w wr ∧ Hid ((splitL c s.data.toList).map mkS = xs ++ (splitL c s'.data.toList).map mkS) ∧ xs.length + s'.size ≤ s.size) (fun sv _ _ => strLen sv)
  case atStart => exact ⟨s, [], rfl, World.ownsRow_nil _ _ _ _, Below.refl _ _, by unfold Hid; simp, by simp⟩
  case round =>
    obtain ⟨s', xs, rfl, hown, hb, HS, hl⟩ := hrel
    have hsz := hb.size
    have hii : s'.size = s'.data.toList.length := size_len s'
    by_cases hlt : idx c s'.data.toList < s'.data.toList.length
    · have hsp := splitL_idx c s'.data.toList hlt
      have hI : idxI c s'.data.toList = (idx c s'.data.toList : Int) := if_pos hlt
      generalize idx c s'.data.toList = n at *
      have HI := Lib.hid hI
      have HSP := Lib.hid hsp
      clear hI hsp
      rw [← hii] at hlt
      have HII := Lib.hid hii
      clear hii
      go_wp2_with (first
        | (go_at_call 141; refine (zzIndex_any s' c _ (by omega)).mono ?_; rintro e w' ⟨rfl, rfl⟩; rw [HI.out])
        | (at_builtin; go_must (refine app1 w.heap.size _ _ 56 (.string ByteArray.empty) 16 Tryz.underlying56 Tryz.info9 rfl rfl hown hb hsz (by omega) (by omega) rfl rfl rfl rfl ?_); intro v' w3 hown' hb3 hsz3))
      go_roundw
      case rel =>
        exact ⟨s'.extract (n + 1) s'.size, xs ++ [s'.extract 0 n], rfl, by rw [List.map_append, List.length_append]; exact hown', hb3, split_step HS.out HSP.out, by simp; omega⟩
      case measure => simp [strLen]; omega
    · have hsp := splitL_none c s'.data.toList hlt
      have hI : idxI c s'.data.toList = -1 := if_neg hlt
      have HI := Lib.hid hI
      have HSP := Lib.hid hsp
      clear hI hsp hii hlt
      go_wp2_with (first
        | (go_at_call 141; refine (zzIndex_any s' c _ (by omega)).mono ?_; rintro e w' ⟨rfl, rfl⟩; rw [HI.out])
        | (at_builtin; go_must (refine app1 w.heap.size _ _ 56 (.string ByteArray.empty) 16 Tryz.underlying56 Tryz.info9 rfl rfl hown hb hsz (by omega) (by omega) rfl rfl rfl rfl ?_); intro v' w3 hown' hb3 hsz3))
      obtain ⟨g, cc, rfl, hg, hrow⟩ := own_strRow (xs := xs ++ [s']) (by rw [List.map_append]; exact hown') (by omega) (by omega)
      go_ret
      refine ⟨g, cc, ?_, hg, ?_, hb3⟩
      · rw [HS.out, HSP.out]; simp
      · rw [HS.out, HSP.out]; simpa [mkS_eq] using hrow

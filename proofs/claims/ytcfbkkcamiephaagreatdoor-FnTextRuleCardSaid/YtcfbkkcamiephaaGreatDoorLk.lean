import Derived.Test.YtcfbkkcamiephaaGreatDoorF10
import Derived.Deep.RegionHeld3
import Derived.Deep.AppendLies
namespace Go.Proofs.YtcfbkkcamiephaaGreatDoor.Lk
open Go.RowKit
/-- The store of a whole row, kept from the walk's unfolding. -/
def lockStore (a : Addr) (l : List Value) : Sem Unit := storeCells a l 0
theorem lock_eq (a : Addr) (l : List Value) : storeCells a l 0 = lockStore a l := rfl
theorem lock_one {w : World} {a : Addr} {y : Value} (p : Option Addr) (n c : Nat) (hc : w.cell? a = some y) (hf : w.frozen? a = false) : (lockStore a [.slice p n c]).run Tryz.prog w = .ok () (w.setCell a (.slice p n c)) := by
  obtain ⟨b, o, hh⟩ := a
  simp [lockStore, storeCells, go_sem, stored, Addr.add, hc, hf]
theorem lock_two {w : World} {b o : Nat} {y z : Value} (k k' : IntKind) (x x' : Int) (hc : w.cell? ⟨b, o, none⟩ = some y) (hc' : w.cell? ⟨b, o + 1, none⟩ = some z) (hf : w.frozen? ⟨b, o, none⟩ = false) (hf' : w.frozen? ⟨b, o + 1, none⟩ = false) :
    (lockStore ⟨b, o, none⟩ [.int k x, .int k' x']).run Tryz.prog w = .ok () ((w.setCell ⟨b, o, none⟩ (.int k x)).setCell ⟨b, o + 1, none⟩ (.int k' x')) := by
  simp [lockStore, storeCells, go_sem, stored, Addr.add, hc, hf, hc', hf']
theorem own_below {W w' : World} {base : Nat} {e : TypeId} {size : Nat} {v : Value} {n : Nat} {xs : List Value} (h : W.ownsRow base e size v n xs) (hb : Below W.heap.size W w') : w'.ownsRow base e size v n xs := by
  refine World.ownsRow.kept (row := none) h ⟨hb.os, hb.tape, hb.output, hb.size, fun i hi _ => hb.block i hi⟩ ?_
  by_cases hh : v.ownBlock = none
  · exact .inl hh
  · exact .inr hh
/-- A step of a drawn region: 'append(v, T{x, y})' onto a row of the call's own. -/
theorem step_app2 {P : Program} {ops : Array Oper} {o : Oper} {a : Act} {K : Act → World → Prop} {Q : Exit → Act → World → Prop} {E : Prop} {w0 W : World} {x y : Int} {e : TypeId}
    (base : Nat) (s z : Operand) (t : TypeId) (zv : Value) (bytes : Nat) (ht : P.underlying t = some (.slice e))
    (hinfo : (P.info? e).map (fun i => (i.zero, i.size, i.bytes)) = some (some zv, 2, bytes)) (hz : zv.cells.size = 2)
    {v : Value} {n : Nat} {xs : List Value} (HO : W.ownsRow base e 2 v n xs) (HB : Below base w0 W) (hbase : base ≤ W.heap.size) (hlen : n ≤ 1000000000000) (hb : bytes ≤ 100)
    (hgd : o.guard = none) (ho : o.op = .call { callee := .builtin .append, args := #[s, z], argTypes := #[t, t] })
    (hs : a.eval s = v) {H : Nat} (hx : a.eval z = .slice (some ⟨H, 0, none⟩) 1 1) (hH : W.heap.size = H)
    (h : ∀ v1 w1, w1.ownsRow base e 2 v1 (n + 1) (xs ++ [.int .i64 x, .int .i64 y]) → Below base w0 w1 → W.heap.size ≤ w1.heap.size → K (a.put o.dst v1) w1) :
    if Region.wanted o (yielded ops a.tmps) = true then Oper.wp P o a (W.alloc (.cells #[.int .i64 x, .int .i64 y] e)) K Q else E := by
  subst hH
  obtain ⟨i0, hi, hz0, hz1, hz2⟩ := info_parts hinfo
  have hbb : (n + 1) * bytes ≤ 140737488355328 := Nat.le_trans (Nat.mul_le_mul (show n + 1 ≤ 1000000000001 by omega) hb) (by omega)
  refine step_append_lies (w := W.alloc (.cells #[.int .i64 x, .int .i64 y] e)) hgd s z t ho base e i0 zv 2 bytes ht hi hz0 hz1 hz2 hz (by omega) v n xs hs (HO.alloc _) ⟨W.heap.size, 0, none⟩ 1 1 [.int .i64 x, .int .i64 y] hx rfl
    (World.news_of_block (cs := #[.int .i64 x, .int .i64 y]) (t := e) (fr := (0, 0)) (heap_alloc_new W _)) (by simp [Value.oneCell']) (by omega) (by simp only [maxLen]; omega) hbb (by simp; omega) (W.heap.size + 1) (by simp) ?_
  intro g cap w1 hown hg _ _
  refine h _ w1 hown ((HB.alloc hbase _).grown hg (by simp; omega) (fun k hk => (HO.lt k hk).1)) ?_
  have := hg.size
  simp at this
  omega
end Go.Proofs.YtcfbkkcamiephaaGreatDoor.Lk
namespace Go.Proofs.YtcfbkkcamiephaaGreatDoor
open Go.RowKit

/-! ### SameRule's lists -/
theorem IntsV.form2 {w : World} {v : Value} {xs : List Int} (h : IntsV w v xs) : ∃ a c, v = .slice a xs.length c ∧ (xs = [] ∨ ∃ g gq, a = some ⟨g, gq, none⟩ ∧ IntRowQ w g gq xs) := by
  rcases h with ⟨h0, h⟩ | ⟨g, gq, c, h, _, h2⟩
  · subst h0; exact ⟨_, _, h, .inl rfl⟩
  · exact ⟨_, _, h, .inr ⟨g, gq, rfl, h2⟩⟩
theorem cell_drewN (w : World) (q : Nat) (a : Addr) : (w.drewN q).cell? a = w.cell? a := by simp
set_option maxRecDepth 100000 in
set_option maxHeartbeats 1600000 in
theorem sameInts_any (xs : List Int) (v v' : Value) (w : World) (hv : IntsV w v xs) (hv' : IntsV w v' xs) (hl : xs.length ≤ 1000000000) :
    Calls Tryz.prog 61 #[v, v'] w fun e w' => e = .returned (.bool true) ∧ ∃ q, w' = w.drewN q := by
  obtain ⟨a, c, rfl, hr⟩ := hv.form2
  obtain ⟨a', c', rfl, hr'⟩ := hv'.form2
  have HR := Lib.hid hr
  have HR' := Lib.hid hr'
  clear hr hr' hv hv'
  go_enter Tryz.func61, Tryz.ntmps61
  go_wp2
  go_loopw [13] (fun i wr => ∃ k q : Nat, k ≤ xs.length ∧ i = .int .i64 k ∧ wr = w.drewN q) (fun i _ => xs.length - (intOf i).toNat)
  case atStart => exact ⟨0, 0, by omega, rfl, rfl⟩
  case round =>
    obtain ⟨k, q, hk, rfl, rfl⟩ := hrel
    by_cases hlt : k < xs.length
    · obtain ⟨g, gq, rfl, hg⟩ : ∃ g gq, a = some ⟨g, gq, none⟩ ∧ IntRowQ w g gq xs := by
        rcases HR.out with h | h
        · rw [h] at hlt; simp at hlt
        · exact h
      obtain ⟨g', gq', rfl, hg'⟩ : ∃ g gq, a' = some ⟨g, gq, none⟩ ∧ IntRowQ w g gq xs := by
        rcases HR'.out with h | h
        · rw [h] at hlt; simp at hlt
        · exact h
      have hc := hg.cell k xs[k] (by simp [hlt])
      have hc' := hg'.cell k xs[k] (by simp [hlt])
      generalize xs[k] = x at hc hc'
      have hk0 : (0 : Int) ≤ (k : Int) := Int.natCast_nonneg _
      have hk1 : (k : Int) < (xs.length : Int) := by omega
      clear hg hg'
      go_wp2
      go_quiet (fail)
      go_wp2
      go_roundw
      case rel => exact ⟨k + 1, _, by omega, by go_num, rfl⟩
      case measure => simp [intOf]; omega
    · obtain rfl : k = xs.length := by omega
      go_wp2
      go_ret
      exact ⟨rfl, q, rfl⟩
end Go.Proofs.YtcfbkkcamiephaaGreatDoor

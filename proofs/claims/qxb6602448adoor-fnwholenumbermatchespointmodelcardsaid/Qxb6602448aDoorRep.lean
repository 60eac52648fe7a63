/-
  Seat b6602448aD: bytes.Repeat (19) of the one byte '0', at most twenty times.
-/
import Derived.Test.Qxb6602448aDoorSl
import Derived.Test.Qxb6602448aDoorShelf2
import Derived.Laws.CopyOwn
import Derived.Lib.MakeNoZero
namespace Go.Proofs.Qxb6602448aDoor
open Go.RowKit

set_option maxHeartbeats 1000000 in
theorem rep0 (u : Value) (w : World) : Calls Tryd.prog 19 #[u, .int .i64 0] w fun e w' => ∃ v, e = .returned v ∧ Piece w' v [] ∧ Below w.heap.size w w' := by
  go_enter Tryd.func19, Tryd.ntmps19
  go_wp2
  go_ret
  exact ⟨_, rfl, Piece.nil _ 0 (by omega) _, (Below.refl _ _).alloc (Nat.le_refl _) _⟩

/-- The buffer: its first k bytes are '0'. -/
def Fill (w : World) (g n k : Nat) : Prop := ∃ cur : List Value, w.heap[g]? = some (.cells cur.toArray 5 (0, 0)) ∧ n ≤ cur.length ∧ ∀ j, j < k → cur[j]? = some (.int .u8 48)

set_option maxHeartbeats 1000000 in
theorem rep (b off c n : Nat) (w : World) (hn1 : 1 ≤ n) (hn : n ≤ 20) (hr : Row w b off [48]) : Calls Tryd.prog 19 #[.slice (some ⟨b, off, none⟩) 1 c, .int .i64 n] w fun e w' => ∃ v, e = .returned v ∧ Piece w' v (List.replicate n 48) ∧ Below w.heap.size w w' := by
  have HR : Hid (Row w b off [48]) := hr
  clear hr
  have HM : Hid (∀ W, Calls Tryd.prog 26 #[.int .u64 1, .int .u64 n] W fun e w' => e = .returned (.tuple #[.int .u64 0, .int .u64 n]) ∧ w' = W) := fun W => by
    have := Tryd.bits_Mul 1 n (by omega) (by omega) W
    rw [Nat.one_mul, Nat.div_eq_of_lt (by omega), Nat.mod_eq_of_lt (by omega)] at this
    exact this
  obtain ⟨cs, hrunM, hle, hmx⟩ := Lib.run_makeNoZero (P := Tryd.prog) w #[3] 22 5 Tryd.underlying22 n (by omega)
  have hcall : (callFunc 27 #[.int .i64 (n : Int)]).run Tryd.prog w = .ok (.value (.slice (some ⟨w.heap.size, 0, none⟩) n cs.size)) ((w.alloc (.cells cs 5)).drewN 2) := by
    rw [run_callFunc_extern Tryd.func27 (by kernel_rfl) (by kernel_rfl) (by kernel_rfl) (e := Extern.BytealgMakeNoZero.makeNoZero #[3] #[22]) (by kernel_rfl), hrunM]
    rfl
  clear hrunM
  go_enter Tryd.func19, Tryd.ntmps19
  go_wp2_with fail
  refine (HM.out _).mono ?_
  rintro e w1 ⟨rfl, hw1⟩
  rw [hw1]
  clear hw1
  have hsrc : ((w.alloc (.cells cs 5)).drewN 2).cell? ⟨b, off, none⟩ = some (.int .u8 48) := by
    have h0 := HR.out 0 (by simp)
    rw [Nat.add_zero] at h0
    have hb : Below w.heap.size w ((w.alloc (.cells cs 5)).drewN 2) := ((Below.refl _ _).alloc (Nat.le_refl _) _).trans ⟨rfl, rfl, rfl, Nat.le_refl _, fun _ _ => rfl⟩
    rw [hb.cell (p := ⟨b, off, none⟩) (World.block_lt_of_cell? _ _ h0), h0]
    rfl
  have HB0 : Hid (Below w.heap.size w ((w.alloc (.cells cs 5)).drewN 2)) := ((Below.refl _ _).alloc (Nat.le_refl _) _).trans ⟨rfl, rfl, rfl, Nat.le_refl _, fun _ _ => rfl⟩
  have HG0 : Hid (((w.alloc (.cells cs 5)).drewN 2).heap[w.heap.size]? = some (.cells cs.toList.toArray 5 (0, 0))) := by
    show (w.alloc (.cells cs 5)).heap[w.heap.size]? = _
    rw [heap_alloc_new]
  have HSrc : Hid (((w.alloc (.cells cs 5)).drewN 2).cell? ⟨b, off, none⟩ = some (.int .u8 48)) := hsrc
  clear hsrc
  go_upto_region 17 with fail
  go_wp2_with (refine wpList_copy_splice rfl (.tmp 58) (.tmp 59) 22 22 rfl 5 Tryd.underlying22 (by rw [info5']; rfl) _ _ _ _ _ _ rfl rfl w.heap.size 0 cs.toList 5 HG0.out [.int .u8 48] ?hn ?hpos ?hfit ?h1 w.heap.size w HB0.out (Nat.le_refl _) ?_)
  case hn => show 1 = min 1 n; omega
  case hpos =>
    intro j v hj
    match j, hj with
    | 0, hj => simp at hj; subst hj; exact HSrc.out
  case hfit => simp; omega
  case h1 => intro v hv; simp at hv; subst hv; rfl
  intro w2 hg2 hb2
  have HF : Hid (Fill w2 w.heap.size n 1) := ⟨_, hg2.out, by rw [length_splice _ _ _ (by simp; omega)]; simpa using hle, fun j hj => by
    obtain rfl : j = 0 := by omega
    simp [splice]⟩
  clear hg2 HG0 HSrc HB0 hcall HR HM hmx hle
  go_wp2_with fail
  go_loopw [10] (fun bp wr => ∃ k : Nat, 1 ≤ k ∧ k ≤ n ∧ bp = .int .i64 k ∧ Hid (Fill wr w.heap.size n k) ∧ Below w.heap.size w wr) (fun bp _ => n - (intOf bp).toNat)
  case atStart => exact ⟨1, Nat.le_refl _, hn1, rfl, HF, hb2⟩
  case round =>
    obtain ⟨k, hk1, hk, rfl, hH, hb⟩ := hrel
    clear HF hb2
    by_cases hlt : k < n
    · obtain ⟨cur, hg, hl, hz⟩ := hH.out
      have HG : Hid (wr.heap[w.heap.size]? = some (.cells cur.toArray 5 (0, 0))) := hg
      have HZ : Hid (∀ j, j < k → cur[j]? = some (.int .u8 48)) := hz
      clear hg hz hH
      obtain ⟨m, hm⟩ : ∃ m, m = min k (n - k) := ⟨_, rfl⟩
      have hm1 : m ≤ k := by omega
      have hm2 : k + m ≤ n := by omega
      have hm0 : 1 ≤ m := by omega
      obtain ⟨xs, hxs⟩ : ∃ xs, xs = cur.take m := ⟨_, rfl⟩
      have HXl : Hid (xs.length = m) := by show _ = _; rw [hxs, List.length_take]; omega
      have HXm : Hid (xs.length = Nat.min k (n - k)) := by show _ = _; rw [HXl.out]; exact hm
      have HXf : Hid (k + xs.length ≤ cur.length) := by show _ ≤ _; rw [HXl.out]; omega
      have HX1 : Hid (∀ v ∈ xs, v.oneCell' = true) := fun v hv => by
        rw [hxs] at hv
        obtain ⟨j, hj⟩ := List.getElem?_of_mem hv
        rw [List.getElem?_take] at hj
        split at hj
        · rw [HZ.out j (by omega)] at hj; cases hj; rfl
        · cases hj
      have HXc : Hid (∀ j v, xs[j]? = some v → wr.cell? ((⟨w.heap.size, 0, none⟩ : Addr).add j) = some v) := fun j v hj => by
        rw [Addr.add_lit, Nat.zero_add]
        rw [hxs, List.getElem?_take] at hj
        split at hj
        · simp [World.cell?, HG.out, hj]
        · cases hj
      have HXz : Hid (∀ j, j < m → xs[j]? = some (.int .u8 48)) := fun j hj => by rw [hxs, List.getElem?_take, if_pos hj]; exact HZ.out j (by omega)
      clear hxs
      have hmin : min (k : Int) n = k := by omega
      have hxb : k + xs.length ≤ n := by rw [HXl.out]; exact hm2
      have hx1 : 1 ≤ xs.length := by rw [HXl.out]; exact hm0
      have HMm : Hid (m = min k (n - k)) := hm
      have hwr : IntKind.i64.wrap ((k : Int) + (xs.length : Int)) = (k : Int) + xs.length := by rw [IntKind.wrap_i64]; omega
      clear hm
      have HGd : Hid (wr.drew.heap[w.heap.size]? = some (.cells cur.toArray 5 (0, 0))) := HG.out
      have HBd : Hid (Below w.heap.size w wr.drew) := hb.trans ⟨rfl, rfl, rfl, Nat.le_refl _, fun _ _ => rfl⟩
      have HXp : Hid (0 < xs.length → (if n = k then some (⟨w.heap.size, 0, none⟩ : Addr) else some ⟨w.heap.size, k, none⟩) = some ⟨w.heap.size, k, none⟩ ∧ ∃ ad, some (⟨w.heap.size, 0, none⟩ : Addr) = some ad ∧ ∀ j v, xs[j]? = some v → wr.drew.cell? (ad.add j) = some v) := fun _ => ⟨if_neg (by omega), _, rfl, HXc.out⟩
      have hs5 : (Tryd.prog.info? 5).map (·.size) = some 1 := by rw [info5']; rfl
      go_wp2_with fail
      go_region_law (refine step_copy_splice rfl (.tmp 70) (.tmp 73) 22 22 rfl 5 Tryd.underlying22 hs5 (if n = k then some ⟨w.heap.size, 0, none⟩ else some ⟨w.heap.size, k, none⟩) (some ⟨w.heap.size, 0, none⟩) (n - k) (n - k) k n (by go_simp) (by go_simp) w.heap.size k cur 5 HGd.out xs HXm.out HXp.out HXf.out HX1.out w.heap.size w HBd.out (Nat.le_refl _) ?_; intro w4 hg4 hb4)
      have HF4 : Hid (Fill w4 w.heap.size n (k + xs.length)) := ⟨_, hg4.out, by rw [length_splice _ _ _ HXf.out]; exact hl, fun j hj => by
        unfold splice
        by_cases hj1 : j < k
        · rw [List.getElem?_append_left (by rw [List.length_take]; omega), List.getElem?_take, if_pos hj1]
          exact HZ.out j hj1
        · rw [List.getElem?_append_right (by rw [List.length_take]; omega), List.length_take, Nat.min_eq_left (by omega), List.getElem?_append_left (by omega)]
          exact HXz.out (j - k) (by rw [HXl.out] at hj; omega)⟩
      clear hg4 HG HZ HGd HBd HXp HXc HXm HXf HX1 HXz hmin
      go_wp2_with fail
      go_roundw
      case rel => exact ⟨k + xs.length, by omega, by omega, by go_num, HF4⟩
      case measure => simp [intOf]; omega
    · obtain rfl : k = n := by omega
      go_wp2_with fail
      go_ret
      refine ⟨_, rfl, ?_, hb⟩
      obtain ⟨cur, hg, hl, hz⟩ := hH.out
      have hlen : (List.replicate k (48 : UInt8)).length = k := List.length_replicate
      have := Piece.mk' (w := wr) (b := w.heap.size) (off := 0) (c := k) (l := List.replicate k 48) (fun j hj => by
        rw [hlen] at hj
        have e := hz j hj
        rw [Nat.zero_add]
        simp [World.cell?, hg, e, val, hj]) (by rw [hlen]; exact Nat.le_refl _) (by omega)
      rw [hlen] at this
      exact this
end Go.Proofs.Qxb6602448aDoor

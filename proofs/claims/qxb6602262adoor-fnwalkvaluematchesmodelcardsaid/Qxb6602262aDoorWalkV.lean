/-
  Seat b6602262aD: walkValue (10), ZZwalkValue (7).
-/
import Derived.Test.Qxb6602262aDoorAny2
import Derived.Test.Qxb6602262aDoorStr2
namespace Go.Proofs.Qxb6602262aDoor
open Go.RowKit

theorem ib : IB := by
  intro a n c l w hl hc
  have e : Lib.bytesOf (l.map fun x => ((x.toNat : Nat) : Int)) = l := by
    show List.map _ (List.map _ l) = l
    rw [List.map_map]
    exact (List.map_congr_left (g := fun x => x) (fun x _ => by simp)).trans (List.map_id' l)
  have c0 := Tryd.bytes_IndexByte_at a n c (l.map fun x => ((x.toNat : Nat) : Int)) 34 w (by simpa using hl) (fun i hi => by
    rw [hc i hi]
    simp [List.getD, hl, hi])
  rw [e] at c0
  exact c0

def stops : ByteArray := ⟨#[44, 125, 93, 32, 9, 10, 13]⟩
theorem stops_ascii : Ascii stops := by
  intro j b h
  have : b ∈ stops.data.toList := List.mem_of_getElem? h
  have hl : stops.data.toList = [44, 125, 93, 32, 9, 10, 13] := rfl
  rw [hl] at this
  simp at this
  rcases this with h | h | h | h | h | h | h <;> subst h <;> decide

theorem stops_contains (x : UInt8) : stops.data.toList.contains x = isStop x := by
  show ([44, 125, 93, 32, 9, 10, 13] : List UInt8).contains x = _
  simp only [List.contains_cons, List.contains_nil, isStop, Bool.or_false, Bool.or_assoc]

theorem indexAny_bare : ∀ (l : List UInt8) (pos : Nat), (Lib.indexAny l stops.data.toList = -1 ∧ bare l pos = pos + l.length) ∨ ∃ o : Nat, Lib.indexAny l stops.data.toList = o ∧ bare l pos = pos + o
  | [], pos => .inl ⟨rfl, rfl⟩
  | c :: cs, pos => by
    have hc := stops_contains c
    rw [bare]
    cases hs : isStop c with
    | true =>
      rw [hs] at hc
      exact .inr ⟨0, Lib.indexAny_hit (i := 0) (x := c) (Lib.NoAny.zero _ _) rfl hc, by simp⟩
    | false =>
      rw [hs] at hc
      have e : Lib.indexAny (c :: cs) stops.data.toList = if Lib.indexAny cs stops.data.toList == -1 then -1 else Lib.indexAny cs stops.data.toList + 1 := by
        rw [Lib.indexAny, hc]; rfl
      rcases indexAny_bare cs (pos + 1) with ⟨h1, h2⟩ | ⟨o, h1, h2⟩
      · left
        rw [e, h1]
        exact ⟨rfl, by simp [h2]; omega⟩
      · right
        refine ⟨o + 1, ?_, by simp [h2]; omega⟩
        rw [e, h1, if_neg (by simp)]
        rfl

theorem ret_pair {k l : IntKind} {a b c d : Int} (h : a = b) (h' : c = d) : Ending.returned (.tuple #[.int k a, .int l c]) = .returned (.tuple #[.int k b, .int l d]) := by rw [h, h']

set_option maxHeartbeats 400000 in
theorem walkV_past (c n : Nat) (i : Int) (w : World) (hi : (n : Int) ≤ i) (a : Option Addr) :
    Calls Tryd.prog 10 #[.slice a n c, .int .i64 i] w fun e w' => e = .returned (.tuple #[.int .i64 n, .int .i64 0]) ∧ w' = w := by
  go_enter Tryd.func10, Tryd.ntmps10
  go_wp2
  go_ret2
  exact ⟨rfl, rfl⟩

set_option maxHeartbeats 400000 in
theorem walkV_str (b c i : Nat) (bs : List UInt8) (w : World) (hn : bs.length ≤ 65536) (hcap : bs.length ≤ c) (hi : i < bs.length) (hq : bs.getD i 0 = 34) (hc : Holds w b bs) :
    Calls Tryd.prog 10 #[.slice (some ⟨b, 0, none⟩) bs.length c, .int .i64 i] w fun e w' => e = .returned (.tuple #[.int .i64 (strEnd bs i : Nat), .int .i64 0]) ∧ w' = w := by
  have cS : Hid (Calls Tryd.prog 14 #[.slice (some ⟨b, 0, none⟩) bs.length c, .int .i64 i] w fun e w' => e = .returned (.int .i64 (strEnd bs i : Nat)) ∧ w' = w) := strE ib b c i bs w hn hcap hi hq hc
  have hcell := hc i hi
  rw [hq] at hcell
  clear hc hq
  go_enter Tryd.func10, Tryd.ntmps10
  go_wp2_with fail
  refine cS.out.mono ?_
  rintro e w1 ⟨rfl, hw1⟩
  subst hw1
  go_wp2
  go_ret2
  exact ⟨rfl, rfl⟩

set_option maxHeartbeats 400000 in
theorem walkV_bare (b c i : Nat) (bs : List UInt8) (w : World) (hn : bs.length ≤ 65536) (hcap : bs.length ≤ c) (hcm : c ≤ 9223372036854775807) (hi : i < bs.length) (h1 : bs.getD i 0 ≠ 34) (h2 : bs.getD i 0 ≠ 123) (h3 : bs.getD i 0 ≠ 91) (hc : Holds w b bs) (hv : Vars w) :
    Calls Tryd.prog 10 #[.slice (some ⟨b, 0, none⟩) bs.length c, .int .i64 i] w fun e w' => e = .returned (.tuple #[.int .i64 (bare (bs.drop i) i : Nat), .int .i64 0]) ∧ Below w.heap.size w w' := by
  have cA : Hid (Calls Tryd.prog 15 #[.slice (some ⟨b, i, none⟩) (bs.length - i) (c - i), .string stops] w fun e w' => e = .returned (.int .i64 (Lib.indexAny (bs.drop i) stops.data.toList)) ∧ Below w.heap.size w w') := by
    have := any_all stops b i (c - i) (bs.drop i) w (by decide) (by decide) stops_ascii (by simp; omega) (by simp; omega) (by simp; omega) (by omega) (fun k hk => by
      rw [List.length_drop] at hk
      rw [hc (i + k) (by omega)]
      simp [val, List.getD]) hv
    rw [List.length_drop] at this
    exact this
  have hcell := hc i hi
  have t1 := tst_no h1 34 rfl
  have t2 := tst_no h2 123 rfl
  have t3 := tst_no h3 91 rfl
  have hl : (bs.drop i).length = bs.length - i := List.length_drop
  have hB := indexAny_bare (bs.drop i) i
  have hbd := (bare_bd (bs.drop i) i).2
  rw [hl] at hB hbd
  clear hc h1 h2 h3 hv hl
  generalize bs.getD i 0 = x at *
  generalize bare (bs.drop i) i = r at *
  generalize Lib.indexAny (bs.drop i) stops.data.toList = o at *
  rcases hB with ⟨rfl, hr⟩ | ⟨o', rfl, hr⟩
  · have HR : Hid _ := hr
    clear hr
    go_enter Tryd.func10, Tryd.ntmps10
    go_wp2_with fail
    refine cA.out.mono ?_
    rintro e w1 ⟨rfl, hb⟩
    go_wp2
    go_ret2
    exact ⟨ret_pair (by rw [HR.out]; omega) rfl, hb⟩
  · have HR : Hid _ := hr
    have hle : i + o' ≤ bs.length := by omega
    clear hr hbd
    go_enter Tryd.func10, Tryd.ntmps10
    go_wp2_with fail
    refine cA.out.mono ?_
    rintro e w1 ⟨rfl, hb⟩
    go_wp2
    go_ret2
    exact ⟨ret_pair (by rw [HR.out]; omega) rfl, hb⟩
end Go.Proofs.Qxb6602262aDoor

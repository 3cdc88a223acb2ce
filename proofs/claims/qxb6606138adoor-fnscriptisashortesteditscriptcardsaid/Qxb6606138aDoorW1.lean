import Derived.Test.Qxb6606138aDoorRows
import Derived.Test.Qxb6606138aDoorMem
import Derived.Test.Qxb6606138aDoorTable
import Derived.WalkLawsBesides
import Derived.Deep.QuietTactic
import Derived.BigQuiet
namespace Go.Proofs.Qxb6606138aDoor
open Go.RowKit

theorem Tryd.info9 : (Tryd.prog.info? 9).map (fun i => (i.zero, i.size, i.bytes)) = some (some (.string ⟨#[]⟩), 1, 16) := by kernel_rfl
theorem Tryd.info5 : (Tryd.prog.info? 5).map (fun i => (i.zero, i.size, i.bytes)) = some (some (.int .u8 0), 1, 1) := by kernel_rfl
theorem Tryd.info38 : (Tryd.prog.info? 38).map (fun i => (i.zero, i.size, i.bytes)) = some (some (.int .u8 0), 1, 1) := by kernel_rfl
theorem Tryd.info3 : (Tryd.prog.info? 3).map (fun i => (i.zero, i.size, i.bytes)) = some (some (.int .i64 0), 1, 8) := by kernel_rfl

theorem ret_int {k : IntKind} {a b : Int} (h : a = b) : Ending.returned (.int k a) = .returned (.int k b) := by rw [h]

theorem take_getD (l : List Int) (k : Nat) (h : k < l.length) : l.take (k + 1) = l.take k ++ [l.getD k 0] := by
  rw [List.take_succ_eq_append_getElem h]; simp [h]

theorem drop_getD (l : List Int) (k : Nat) (h : k < l.length) : l.drop k = l.getD k 0 :: l.drop (k + 1) := by
  rw [List.drop_eq_getElem_cons h]; simp [h]

def sv (ss : List ByteArray) : Nat → Value := fun i => .string (ss.getD i ByteArray.empty)
def bv (l : List Int) : Nat → Value := fun i => .int .u8 (l.getD i 0)

/-- 'tdTextBytes': some number that is not negative; it turns nothing. -/
theorem textBytes_any (a : Option Addr) (n cap : Nat) (ss : List ByteArray) (hn : n ≤ 4096) (hs : ∀ i, i < n → (ss.getD i ByteArray.empty).size ≤ 140737488355328) (w : World) (hc : Rd w a n (sv ss)) :
    Calls Tryd.prog 7 #[.slice a n cap] w fun e w' => (∃ q : Int, e = .returned (.int .i64 q) ∧ 0 ≤ q ∧ q ≤ 2097168) ∧ w' = w := by
  go_enter Tryd.func7, Tryd.ntmps7
  go_wp2
  go_loop [3, 4] (fun t i => ∃ k : Nat, ∃ q : Int, k ≤ n ∧ i = .int .i64 k ∧ t = .int .i64 q ∧ 0 ≤ q ∧ q ≤ 1048576) (fun _ i => n - (intOf i).toNat)
  case atStart => exact ⟨0, 0, Nat.zero_le _, rfl, rfl, by omega, by omega⟩
  case round =>
    obtain ⟨k, q, hk, rfl, rfl, hq0, hq1⟩ := hrel
    by_cases hlt : k < n
    · obtain ⟨b, off, rfl, hc'⟩ := hc.at (by omega)
      have h1 := hc' k hlt
      have h2 : ((ss.getD k ByteArray.empty).size : Int) ≤ 140737488355328 := by have := hs k hlt; omega
      unfold sv at h1
      clear hc hc' hs
      generalize ss.getD k ByteArray.empty = s at h1 h2
      go_wp2
      · go_ret
        exact ⟨⟨_, rfl, by omega, by omega⟩, rfl⟩
      · go_ret
        exact ⟨⟨_, rfl, by omega, by omega⟩, rfl⟩
      · go_round
        case rel => exact ⟨k + 1, _, by omega, by go_num, rfl, by omega, by omega⟩
        case measure => simp [intOf]; omega
    · go_wp2
      go_ret
      exact ⟨⟨q, rfl, by omega, by omega⟩, rfl⟩

/-- 'tdCount' of the kept lines. -/
theorem count_any (a : Option Addr) (n cap : Nat) (l : List Int) (hl : l.length = n) (hn : n ≤ 1048576) (w : World) (hc : Rd w a n (bv l)) :
    Calls Tryd.prog 21 #[.slice a n cap, .int .u8 32] w fun e w' => e = .returned (.int .i64 (My.kept l)) ∧ w' = w := by
  go_enter Tryd.func21, Tryd.ntmps21
  go_wp2
  go_loop [5, 6] (fun t i => ∃ k : Nat, k ≤ n ∧ i = .int .i64 k ∧ t = .int .i64 (My.kept (l.take k))) (fun _ i => n - (intOf i).toNat)
  case atStart => exact ⟨0, Nat.zero_le _, rfl, rfl⟩
  case round =>
    obtain ⟨k, hk, rfl, rfl⟩ := hrel
    by_cases hlt : k < n
    · obtain ⟨b, off, rfl, hc'⟩ := hc.at (by omega)
      have h1 := hc' k hlt
      unfold bv at h1
      have ht := take_getD l k (by omega)
      have hkp : My.kept (l.take k) ≤ k := by have := My.kept_cost (l.take k); have := List.length_take_le k l; omega
      have Ht : Hid (l.take (k + 1) = l.take k ++ [l.getD k 0]) := ht
      clear ht hc hc'
      generalize l.getD k 0 = o at h1 Ht
      by_cases ho : o = 32
      · subst ho
        go_wp2
        go_round
        case rel => exact ⟨k + 1, by omega, by go_num, by rw [Ht.out, My.kept_append]; simp [My.kept]⟩
        case measure => simp [intOf]; omega
      · have hb : (o == 32) = false := by simpa using ho
        have Ho : Hid (¬ o = 32) := ho
        clear ho
        go_wp2
        go_round
        case rel => exact ⟨k + 1, by omega, by go_num, by rw [Ht.out, My.kept_append]; simp [My.kept, Ho.out]⟩
        case measure => simp [intOf]; omega
    · go_wp2
      go_ret
      exact ⟨ret_int (by rw [List.take_of_length_le (by omega)]), rfl⟩

/-- No removal behind an addition within a run of changes. -/
def Canon : Bool → List Int → Prop
  | _, [] => True
  | seen, o :: t => if o = 32 then Canon false t else if o = 43 then Canon true t else seen = false ∧ Canon seen t

theorem canon_any (a : Option Addr) (n cap : Nat) (l : List Int) (hl : l.length = n) (hn : n ≤ 1048576) (hcan : Canon false l) (w : World) (hc : Rd w a n (bv l)) :
    Calls Tryd.prog 20 #[.slice a n cap] w fun e w' => e = .returned (.bool true) ∧ w' = w := by
  go_enter Tryd.func20, Tryd.ntmps20
  go_wp2
  go_loop [3, 4] (fun t i => ∃ (k : Nat) (seen : Bool), k ≤ n ∧ i = .int .i64 k ∧ t = .bool seen ∧ Canon seen (l.drop k)) (fun _ i => n - (intOf i).toNat)
  case atStart => exact ⟨0, false, Nat.zero_le _, rfl, rfl, hcan⟩
  case round =>
    obtain ⟨k, seen, hk, rfl, rfl, hcn⟩ := hrel
    by_cases hlt : k < n
    · obtain ⟨b, off, rfl, hc'⟩ := hc.at (by omega)
      have h1 := hc' k hlt
      unfold bv at h1
      have ht := drop_getD l k (by omega)
      rw [ht] at hcn
      clear hc hc' ht hcan
      generalize l.getD k 0 = o at h1 hcn
      by_cases ho : o = 32
      · subst ho
        have Hc : Hid (Canon false (l.drop (k + 1))) := by have := hcn; simp [Canon] at this; exact this
        clear hcn
        go_wp2
        go_round
        case rel => exact ⟨k + 1, _, by omega, by go_num, rfl, Hc.out⟩
        case measure => simp [intOf]; omega
      · have hb : (o == 32) = false := by simpa using ho
        by_cases ho2 : o = 43
        · subst ho2
          have Hc : Hid (Canon true (l.drop (k + 1))) := by have := hcn; simp [Canon] at this; exact this
          clear hcn hb ho
          go_wp2
          go_round
          case rel => exact ⟨k + 1, _, by omega, by go_num, rfl, Hc.out⟩
          case measure => simp [intOf]; omega
        · have hb2 : (o == 43) = false := by simpa using ho2
          simp only [Canon, ho, ho2, if_false] at hcn
          obtain ⟨rfl, hcn⟩ := hcn
          have Hc : Hid (Canon false (l.drop (k + 1))) := hcn
          clear hcn ho ho2
          go_wp2
          go_round
          case rel => exact ⟨k + 1, _, by omega, by go_num, rfl, Hc.out⟩
          case measure => simp [intOf]; omega
    · go_wp2
      go_ret
      exact ⟨rfl, rfl⟩

/-- Two texts' matching lines. -/
def Eqs (A B : List ByteArray) : Nat → Nat → Prop := fun i j => i < A.length ∧ j < B.length ∧ ((A.getD i ByteArray.empty).toList == (B.getD j ByteArray.empty).toList) = true

theorem valid_any (a1 a2 a3 : Option Addr) (n m p c1 c2 c3 : Nat) (A B : List ByteArray) (l : List Int) (hA : A.length = n) (hB : B.length = m) (hl : l.length = p) (hn : n ≤ 1048576) (hm : m ≤ 1048576) (hp : p ≤ 1048576)
    (hv : My.Vs (Eqs A B) l 0 0 n m) (w : World) (hc1 : Rd w a1 n (sv A)) (hc2 : Rd w a2 m (sv B)) (hc3 : Rd w a3 p (bv l)) :
    Calls Tryd.prog 8 #[.slice a1 n c1, .slice a2 m c2, .slice a3 p c3] w fun e w' => e = .returned (.bool true) ∧ Below w.heap.size w w' := by
  go_enter Tryd.func8, Tryd.ntmps8
  go_wp2
  go_loopw [7, 8, 9] (fun ti tj tk wr => ∃ (i j k : Nat), k ≤ p ∧ ti = .int .i64 i ∧ tj = .int .i64 j ∧ tk = .int .i64 k ∧ My.Vs (Eqs A B) (l.drop k) i j n m ∧ Below w.heap.size w wr) (fun _ _ tk _ => p - (intOf tk).toNat)
  case atStart => exact ⟨0, 0, 0, Nat.zero_le _, rfl, rfl, rfl, hv, Below.refl _ _⟩
  case round =>
    obtain ⟨i, j, k, hk, rfl, rfl, rfl, hvk, hbl⟩ := hrel
    have hle := My.Vs_le hvk
    by_cases hlt : k < p
    · obtain ⟨b, off, rfl, hc3'⟩ := (hc3.below hbl (Nat.le_refl _)).at (by omega)
      have h1 := hc3' k hlt
      unfold bv at h1
      have ht := drop_getD l k (by omega)
      rw [ht] at hvk
      have hc1r := hc1.below hbl (Nat.le_refl _)
      have hc2r := hc2.below hbl (Nat.le_refl _)
      clear hc1 hc2 hc3 hc3' ht
      generalize l.getD k 0 = o at h1 hvk
      simp only [My.Vs] at hvk
      rcases hvk with ⟨rfl, hM, hvk⟩ | ⟨rfl, hvk⟩ | ⟨rfl, hvk⟩
      · obtain ⟨hi, hj, he⟩ := hM
        rw [hA] at hi
        rw [hB] at hj
        obtain ⟨b1, off1, rfl, hc1'⟩ := hc1r.at (by omega)
        obtain ⟨b2, off2, rfl, hc2'⟩ := hc2r.at (by omega)
        have h2 := hc1' i hi
        have h3 := hc2' j hj
        unfold sv at h2 h3
        have Hv : Hid (My.Vs (Eqs A B) (l.drop (k + 1)) (i + 1) (j + 1) n m) := hvk
        clear hc1' hc2' hc1r hc2r hvk
        generalize A.getD i ByteArray.empty = s1 at h2 he
        generalize B.getD j ByteArray.empty = s2 at h3 he
        have g1 : decide ((n : Int) ≤ (i : Int)) = false := by simp; omega
        have g2 : decide ((m : Int) ≤ (j : Int)) = false := by simp; omega
        go_wp2
        go_quiet (fail)
        go_wp2
        go_roundw
        case rel => exact ⟨i + 1, j + 1, k + 1, by omega, by go_num, by go_num, by go_num, Hv.out, below_drewN hbl _⟩
        case measure => simp [intOf]; omega
      · have Hv : Hid (My.Vs (Eqs A B) (l.drop (k + 1)) (i + 1) j n m) := hvk
        have hlt2 : i < n := by have := My.Vs_le hvk; omega
        clear hvk hc1r hc2r
        go_wp2
        go_roundw
        case rel => exact ⟨i + 1, j, k + 1, by omega, by go_num, by go_num, by go_num, Hv.out, hbl⟩
        case measure => simp [intOf]; omega
      · have Hv : Hid (My.Vs (Eqs A B) (l.drop (k + 1)) i (j + 1) n m) := hvk
        have hlt2 : j < m := by have := My.Vs_le hvk; omega
        clear hvk hc1r hc2r
        go_wp2
        go_roundw
        case rel => exact ⟨i, j + 1, k + 1, by omega, by go_num, by go_num, by go_num, Hv.out, hbl⟩
        case measure => simp [intOf]; omega
    · rw [List.drop_of_length_le (by omega)] at hvk
      simp only [My.Vs] at hvk
      obtain ⟨rfl, rfl⟩ := hvk
      clear hA hB hl hv hc1 hc2 hc3
      go_wp2
      go_ret
      exact ⟨rfl, hbl⟩

end Go.Proofs.Qxb6606138aDoor

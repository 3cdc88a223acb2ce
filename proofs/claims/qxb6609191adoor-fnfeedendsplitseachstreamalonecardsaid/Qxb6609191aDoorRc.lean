/-
  Seat b6609191aD: slices that come in; zzStateOK, zzBytes, zzClone on them; a copy.
-/
import Derived.Test.Qxb6609191aDoorZz
import Derived.Laws.CopyOwn
namespace Go.Proofs.Qxb6609191aDoor
open Go.RowKit Go.Lib

/-- The slice v reads as l, wherever it lies. -/
def Rc (w : World) (v : Value) (l : List UInt8) : Prop :=
  ∃ ad cap, v = .slice ad l.length cap ∧ l.length ≤ cap ∧ ((ad = none ∧ l = [] ∧ cap = 0) ∨ ∃ a, ad = some a ∧ ∀ i, i < l.length → w.cell? (a.add i) = some (bv (l.getD i 0)))

theorem Rc.val {w : World} {v : Value} {l : List UInt8} (h : Rc w v l) : ∃ ad cap, v = .slice ad l.length cap ∧ l.length ≤ cap := by
  obtain ⟨ad, cap, h1, h2, _⟩ := h
  exact ⟨ad, cap, h1, h2⟩

theorem Rc.at {w : World} {v : Value} {l : List UInt8} (h : Rc w v l) (hn : l ≠ []) : ∃ a cap, v = .slice (some a) l.length cap ∧ l.length ≤ cap ∧ ∀ i, i < l.length → w.cell? (a.add i) = some (bv (l.getD i 0)) := by
  obtain ⟨ad, cap, h1, h2, h3⟩ := h
  rcases h3 with ⟨_, h3, _⟩ | ⟨a, rfl, h3⟩
  · exact absurd h3 hn
  · exact ⟨a, cap, h1, h2, h3⟩

theorem Rb.rc {w : World} {x : Option Nat} {v : Value} {l : List UInt8} (h : Rb w x v l) : Rc w v l := by
  obtain ⟨ad, cap, h1, h2, h3⟩ := h
  refine ⟨ad, cap, h1, h2, ?_⟩
  rcases h3 with h3 | ⟨b, off, rfl, h3⟩
  · exact .inl h3
  · refine .inr ⟨_, rfl, fun i hi => ?_⟩
    rcases h3 with rfl | ⟨_, cur, h4, h5⟩
    · simp at hi
    · rw [addr_add]
      exact cell_of_block h4 (h5 i hi)

theorem Rc.below {w w' : World} (h : Below w.heap.size w w') {v : Value} {l : List UInt8} (hr : Rc w v l) : Rc w' v l := by
  obtain ⟨ad, cap, h1, h2, h3⟩ := hr
  refine ⟨ad, cap, h1, h2, ?_⟩
  rcases h3 with h3 | ⟨a, rfl, h3⟩
  · exact .inl h3
  · exact .inr ⟨a, rfl, fun i hi => below_cell0 h (cell_lt (h3 i hi)) (h3 i hi)⟩

set_option maxHeartbeats 2000000 in
theorem hasNoEnds16 (v : Value) (l : List UInt8) (w : World) (hr : Rc w v l) (hl : l.length ≤ 4194304) : Calls Tryd.prog 16 #[v] w fun e w' => e = .returned (.bool (noE l)) ∧ w' = w := by
  obtain ⟨ad, cap, hv, hcap⟩ := hr.val
  have HR := Shut.mk hr
  clear hr
  subst hv
  go_enter Tryd.func16, Tryd.ntmps16
  go_wp2_with fail
  go_loopg [3] l.length (fun g s3 wx => ∃ i : Nat, i + g = l.length ∧ s3 = .int .i64 i ∧ wx = w ∧ noE (l.take i) = true)
  case atStart => exact ⟨0, by omega, rfl, rfl, by simp [noE]⟩
  case round =>
    obtain ⟨i, hig, rfl, rfl, hno⟩ := hrel
    have HN := Shut.mk hno
    clear hno
    by_cases hi : i < l.length
    · obtain ⟨a, cap2, hv, hc2, hcell⟩ := HR.out.at (fun h => by rw [h] at hi; simp at hi)
      injection hv with hv hv2 hv3
      subst hv hv3
      have c0 := hcell i hi
      have st := Shut.mk (noE_step l i hi)
      clear hcell
      cases hE : isE (l.getD i 0) with
      | true =>
        have hb := zzIsEnd (l.getD i 0) wr
        rw [hE] at hb
        unfold bv at c0
        generalize ((l.getD i 0).toNat : Int) = n at *
        go_wp2_with (go_at_call 24; refine hb.mono ?_; rintro e w1 ⟨rfl, hw1⟩; rw [hw1]; clear hw1 w1)
        go_ret
        refine ⟨?_, rfl⟩
        rw [noE_cut l (i + 1) (by rw [st.out, hE]; simp)]
        rfl
      | false =>
        have hb := zzIsEnd (l.getD i 0) wr
        rw [hE] at hb
        unfold bv at c0
        generalize ((l.getD i 0).toNat : Int) = n at *
        go_wp2_with (go_at_call 24; refine hb.mono ?_; rintro e w1 ⟨rfl, hw1⟩; rw [hw1]; clear hw1 w1)
        go_roundg (gk - 1)
        case measure => omega
        case rel => exact ⟨i + 1, by omega, by go_num, rfl, by rw [st.out, hE, HN.out]; rfl⟩
    · go_wp2
      go_ret
      refine ⟨?_, rfl⟩
      have := HN.out
      rw [List.take_of_length_le (by omega)] at this
      rw [this]
      rfl

set_option maxHeartbeats 2000000 in
theorem stateOK10 (v : Value) (l : List UInt8) (cr : Bool) (w : World) (hr : Rc w v l) (hl : l.length ≤ 4194304) : Calls Tryd.prog 10 #[v, .bool cr] w fun e w' => e = .returned (.bool (noE l && (!cr || l.isEmpty))) ∧ w' = w := by
  have k1 := hasNoEnds16 v l w hr hl
  obtain ⟨ad, cap, hv, hcap⟩ := hr.val
  clear hr
  subst hv
  have he : l.isEmpty = ((l.length : Int) == 0) := by
    cases l with
    | nil => rfl
    | cons b l => simp; omega
  rw [he]
  generalize noE l = n at *
  go_enter Tryd.func10, Tryd.ntmps10
  go_wp2_with (go_at_call 16; refine k1.mono ?_; rintro e w1 ⟨rfl, hw1⟩; rw [hw1]; clear hw1 w1)
  all_goals
    go_ret
    refine ⟨?_, rfl⟩
    first
      | rfl
      | simp [*]

/-- make([]byte, n). -/
theorem wpList_mk5 {ops : Array Oper} {rest : List Oper} {w : World} {o : Oper} {a : Act} {Q : Exit → Act → World → Prop} (hgd : o.guard = none) (l c : Operand) (hop : o.op = Op.makeSlice 22 l c) (n : Nat)
    (hl : a.eval l = .int .i64 n) (hc : a.eval c = .int .i64 n) (hn : n ≤ 4194304)
    (h : ∀ w', (∃ cur, w'.heap[w.heap.size]? = some (.cells cur 5) ∧ cur.size = n) → Below w.heap.size w w' → w.heap.size < w'.heap.size → wpList Tryd.prog ops Q rest (a.put o.dst (.slice (some ⟨w.heap.size, 0, none⟩) n n)) w') : wpList Tryd.prog ops Q (o :: rest) a w := by
  obtain ⟨i, hi, hz, hsz, hby⟩ := info_parts Tryd.info5
  refine wpList_make_full w hgd l c 22 hop w.heap.size 5 i (.int .u8 0) 1 Tryd.underlying22 hi hz hsz _ _ _ _ n hl hc rfl rfl (by rw [hby]; omega) (by unfold maxLen; omega) (Nat.le_refl _) fun w' h1 h2 => ?_
  have hb : Below w.heap.size w w' := (Below.refl _ _).grown h2 (Nat.le_refl _) (fun k hk => by cases hk)
  rcases h1.2 with ⟨h3, _⟩ | ⟨g, cap, cur, r1, r2, r3, r4, r5, r6, r7⟩
  · cases h3
  · injection r1 with r1 _ r1c
    injection r1 with r1
    injection r1 with r1
    subst r1 r1c
    exact h w' ⟨cur, r3, by simpa using r6⟩ hb (lt_of_heap r3)

/-- copy(c, b) onto a row that is known. -/
theorem wpList_cp5 {ops : Array Oper} {rest : List Oper} {w : World} {o : Oper} {a : Act} {Q : Exit → Act → World → Prop} (hgd : o.guard = none) (d s : Operand)
    (ho : o.op = .call { callee := .builtin .copy, args := #[d, s], argTypes := #[22, 22] }) (g n : Nat) (v : Value) (l : List UInt8) (cur : Array Value)
    (hd : a.eval d = .slice (some ⟨g, 0, none⟩) n n) (hs : a.eval s = v) (hr : Rc w v l) (hn : l.length = n) (hm : n ≤ 4194304) (hg : w.heap[g]? = some (.cells cur 5)) (hcur : cur.size = n)
    (h : ∀ w' u, w'.ownsRow 0 5 1 (.slice (some ⟨g, 0, none⟩) n n) l.length (l.map bv) → Below g w w' → wpList Tryd.prog ops Q rest (a.put o.dst u) w') : wpList Tryd.prog ops Q (o :: rest) a w := by
  obtain ⟨i, hi, hz, hsz, hby⟩ := info_parts Tryd.info5
  obtain ⟨ad, cap, rfl, hcap, h3⟩ := hr
  refine wpList_copy_splice hgd d s 22 22 ho 5 Tryd.underlying22 (by rw [hi]; simp [hsz]) _ _ _ _ _ _ hd hs g 0 cur.toList 5 (by simpa using hg) (l.map bv) (by rw [List.length_map, hn]; exact (Nat.min_self n).symm) ?_ (by simp [hn, hcur]) (bv_one l) g w (Below.refl _ _) (Nat.le_refl _) ?_
  · intro hp
    refine ⟨rfl, ?_⟩
    rcases h3 with ⟨_, h3, _⟩ | ⟨ad2, rfl, h3⟩
    · rw [h3] at hp; simp at hp
    · refine ⟨ad2, rfl, fun j u hj => ?_⟩
      rw [List.getElem?_map] at hj
      obtain ⟨y, hy, rfl⟩ := Option.map_eq_some_iff.1 hj
      have hlt : j < l.length := (List.getElem?_eq_some_iff.1 hy).1
      rw [h3 j hlt, List.getD_eq_getElem?_getD, hy]
      rfl
  · intro w' hw' hb
    have hw2 := hw'.out
    have hsp : splice cur.toList 0 (l.map bv) = l.map bv := by
      unfold splice
      rw [List.take_zero, List.nil_append, List.drop_of_length_le (by simp [hn, hcur]), List.append_nil]
    rw [hsp] at hw2
    refine h w' _ ⟨by simp, .inr ⟨g, n, _, by rw [hn], Nat.zero_le _, hw2, by omega, by unfold maxLen; omega, by simp [hn], by rw [Nat.mul_one, List.take_of_length_le (by simp)]⟩⟩ hb

theorem eql_nil (w : World) : (binOp .eql 22 (.slice none 0 0) (.slice none 0 0)).run Tryd.prog w = .ok (.bool true) w := by kernel_rfl
theorem eql_some (a : Addr) (n c : Nat) (w : World) : (binOp .eql 22 (.slice (some a) n c) (.slice none 0 0)).run Tryd.prog w = .ok (.bool false) w := by kernel_rfl
theorem neq_nil (w : World) : (binOp .neq 22 (.slice none 0 0) (.slice none 0 0)).run Tryd.prog w = .ok (.bool false) w := by kernel_rfl
theorem neq_some (a : Addr) (n c : Nat) (w : World) : (binOp .neq 22 (.slice (some a) n c) (.slice none 0 0)).run Tryd.prog w = .ok (.bool true) w := by kernel_rfl

set_option maxHeartbeats 2000000 in
theorem zzClone11 (v : Value) (l : List UInt8) (w : World) (hr : Rc w v l) (hl : l.length ≤ 4194304) : Calls Tryd.prog 11 #[v] w fun e w' => ∃ v', e = .returned v' ∧ w'.ownsRow 0 5 1 v' l.length (l.map bv) ∧ Nw w.heap.size none v'.ownBlock ∧ Below w.heap.size w w' := by
  have HR := Shut.mk hr
  obtain ⟨ad, cap, rfl, hcap, h3⟩ := hr
  rcases h3 with ⟨rfl, rfl, rfl⟩ | ⟨a, rfl, _⟩
  · have q := eql_nil w
    go_enter Tryd.func11, Tryd.ntmps11
    go_wp2
    go_ret
    exact ⟨_, rfl, World.ownsRow_nil _ _ _ _, .inl rfl, Below.refl _ _⟩
  · obtain ⟨n, hn⟩ : ∃ n, l.length = n := ⟨_, rfl⟩
    rw [hn] at hl HR hcap
    rw [hn]
    have q := eql_some a n cap w
    go_enter Tryd.func11, Tryd.ntmps11
    go_wp2_with (first
      | (at_make; refine wpList_mk5 rfl _ _ rfl n rfl rfl hl ?_; rintro w1 ⟨cur, hc1, hc2⟩ hb1 hs1; have HM := Shut.mk (And.intro hc1 (And.intro hc2 hb1)); clear hc1 hc2 hb1)
      | (refine wpList_cp5 rfl _ _ rfl _ n _ l _ rfl rfl (HR.out.below HM.out.2.2) hn hl HM.out.1 HM.out.2.1 ?_; rintro w2 u2 ho2 hb2; have HO := Shut.mk (And.intro ho2 hb2); clear ho2 hb2))
    go_ret
    refine ⟨_, rfl, by rw [← hn]; have := HO.out.1; rw [← hn] at this; exact this, .inr fun k hk => ?_, HM.out.2.2.trans HO.out.2⟩
    have hk2 : some w.heap.size = some k := hk
    injection hk2 with hk2
    omega

set_option maxHeartbeats 2000000 in
theorem zzBytes26 (v u : Value) (l m : List UInt8) (cr : Bool) (w : World) (hr : Rc w v l) (hu : Rc w u m) (h1 : l.length ≤ 140737488355328) (h2 : m.length ≤ 140737488355328) : Calls Tryd.prog 26 #[v, .bool cr, u] w fun e w' => (∃ b : Bool, e = .returned (.bool b)) ∧ w' = w := by
  obtain ⟨ad, cap, rfl, hcap⟩ := hr.val
  obtain ⟨ad2, cap2, rfl, hcap2⟩ := hu.val
  clear hr hu
  go_enter Tryd.func26, Tryd.ntmps26
  go_wp2
  all_goals
    go_ret
    exact ⟨⟨_, rfl⟩, rfl⟩

set_option maxHeartbeats 2000000 in
theorem zzBytes29 (v u : Value) (l m : List UInt8) (cr : Bool) (w : World) (hr : Rc w v l) (hu : Rc w u m) (h1 : l.length ≤ 140737488355328) (h2 : m.length ≤ 140737488355328) : Calls Tryd.prog 29 #[v, .bool cr, u] w fun e w' => (∃ b : Bool, e = .returned (.bool b)) ∧ w' = w := by
  obtain ⟨ad, cap, rfl, hcap⟩ := hr.val
  obtain ⟨ad2, cap2, rfl, hcap2⟩ := hu.val
  clear hr hu
  go_enter Tryd.func29, Tryd.ntmps29
  go_wp2
  all_goals
    go_ret
    exact ⟨⟨_, rfl⟩, rfl⟩

set_option maxHeartbeats 2000000 in
theorem zzBytes30 (v u z : Value) (l m k : List UInt8) (cr : Bool) (w : World) (hr : Rc w v l) (hu : Rc w u m) (hz : Rc w z k) (h1 : l.length ≤ 140737488355328) (h2 : m.length ≤ 140737488355328) (h3 : k.length ≤ 140737488355328) : Calls Tryd.prog 30 #[v, .bool cr, u, z] w fun e w' => (∃ b : Bool, e = .returned (.bool b)) ∧ w' = w := by
  obtain ⟨ad, cap, rfl, hcap⟩ := hr.val
  obtain ⟨ad2, cap2, rfl, hcap2⟩ := hu.val
  obtain ⟨ad3, cap3, rfl, hcap3⟩ := hz.val
  clear hr hu hz
  go_enter Tryd.func30, Tryd.ntmps30
  go_wp2
  all_goals
    go_ret
    exact ⟨⟨_, rfl⟩, rfl⟩

end Go.Proofs.Qxb6609191aDoor

/-
  Seat b6608953aD: zzUnescape, at a text that reads back.
-/
import Derived.Test.Qxb6608953aDoorW4
import Derived.BigQuiet
import Derived.Deep.CutBlock
namespace Go.Proofs.Qxb6608953aDoor
open Go.RowKit Go.Lib

/-- The call has returned a buffer that holds l, and true. -/
def Rt2 (B : Nat) (W0 : World) (l : List UInt8) (e : Ending) (w : World) : Prop := ∃ v, e = .returned (.tuple #[v, .bool true]) ∧ Bf B W0 v l w

/-- Where the reading back stands at k. -/
structure UAt (l o : List UInt8) (w : World) (v : Value) (k : Nat) (acc rest : List UInt8) (wr : World) : Prop where
  bf : Bf w.heap.size w v acc wr
  le : k ≤ l.length
  un : Une (l.drop k) rest
  eq : acc ++ rest = o
  len : acc.length ≤ k

theorem drop_cons {l t : List UInt8} {k : Nat} {c : UInt8} (h : l.drop k = c :: t) : k < l.length ∧ l.getD k 0 = c ∧ l.drop (k + 1) = t := by
  have hk : k < l.length := by
    rcases Nat.lt_or_ge k l.length with h1 | h1
    · exact h1
    · rw [List.drop_eq_nil_of_le h1] at h; cases h
  rw [List.drop_eq_getElem_cons hk] at h
  injection h with h1 h2
  exact ⟨hk, by simp [List.getD_eq_getElem?_getD, hk, h1], h2⟩

theorem enc_len (n : Nat) : (enc n).length ≤ 3 := by
  unfold enc
  repeat' split
  all_goals simp

/-- The three ways on from k. -/
inductive Way (l : List UInt8) (k : Nat) (rest : List UInt8) : Prop
  | raw (c : UInt8) (o : List UInt8) (h1 : l.getD k 0 = c) (h2 : c ≠ 92) (h3 : Une (l.drop (k + 1)) o) (h4 : rest = c :: o)
  | uni (a b c d : UInt8) (p q r s : Nat) (o : List UInt8) (h0 : l.getD k 0 = 92) (h1 : l.getD (k + 1) 0 = 117) (h2 : l.getD (k + 2) 0 = a) (h3 : l.getD (k + 3) 0 = b) (h4 : l.getD (k + 4) 0 = c) (h5 : l.getD (k + 5) 0 = d) (h6 : k + 6 ≤ l.length)
      (ha : hexV a = some p) (hb : hexV b = some q) (hc : hexV c = some r) (hd : hexV d = some s) (hv : ¬ (55296 ≤ ((p * 16 + q) * 16 + r) * 16 + s ∧ ((p * 16 + q) * 16 + r) * 16 + s ≤ 57343)) (hu : Une (l.drop (k + 6)) o) (he : rest = enc (((p * 16 + q) * 16 + r) * 16 + s) ++ o)
  | short (e b : UInt8) (o : List UInt8) (h0 : l.getD k 0 = 92) (h1 : l.getD (k + 1) 0 = e) (h6 : k + 2 ≤ l.length) (hs : simp1 e = some b) (hu : Une (l.drop (k + 2)) o) (he : rest = b :: o)

theorem way_of {l rest : List UInt8} {k : Nat} (hk : k < l.length) (h : Une (l.drop k) rest) : Way l k rest := by
  generalize hd : l.drop k = m at h
  cases h with
  | nil => rw [List.drop_eq_getElem_cons hk] at hd; cases hd
  | raw c t o hc h' =>
    obtain ⟨_, h2, h3⟩ := drop_cons hd
    exact .raw c o h2 hc (by rw [h3]; exact h') rfl
  | uni a b c d p q r s t o ha hb hc hd' hv h' =>
    obtain ⟨_, g0, e0⟩ := drop_cons hd
    obtain ⟨_, g1, e1⟩ := drop_cons e0
    obtain ⟨_, g2, e2⟩ := drop_cons e1
    obtain ⟨_, g3, e3⟩ := drop_cons e2
    obtain ⟨_, g4, e4⟩ := drop_cons e3
    obtain ⟨k5, g5, e5⟩ := drop_cons e4
    exact .uni a b c d p q r s o g0 g1 g2 g3 g4 g5 k5 ha hb hc hd' hv (by rw [e5]; exact h') rfl
  | short e b t o he h' =>
    obtain ⟨_, g0, e0⟩ := drop_cons hd
    obtain ⟨k1, g1, e1⟩ := drop_cons e0
    exact .short e b o g0 g1 k1 he (by rw [e1]; exact h') rfl

theorem hexV_lt {c : UInt8} {p : Nat} (h : hexV c = some p) : p < 16 := by
  unfold hexV at h
  repeat' split at h
  all_goals first | (injection h with h; omega) | cases h

theorem simp1_cases {e b : UInt8} (h : simp1 e = some b) : (e = 34 ∧ b = 34) ∨ (e = 92 ∧ b = 92) ∨ (e = 47 ∧ b = 47) ∨ (e = 110 ∧ b = 10) ∨ (e = 114 ∧ b = 13) ∨ (e = 116 ∧ b = 9) ∨ (e = 98 ∧ b = 8) ∨ (e = 102 ∧ b = 12) := by
  unfold simp1 at h
  repeat' split at h
  all_goals first
    | cases h
    | skip
  all_goals (rename_i h1; first | (rcases h1 with rfl | rfl | rfl <;> simp) | (subst h1; simp))

theorem UAt.put {l o : List UInt8} {w : World} {v v' : Value} {k : Nat} {acc rest : List UInt8} {wr wr' : World} (h : UAt l o w v k acc rest wr) {new rest' : List UInt8} {n : Nat} (hr : rest = new ++ rest') (hu : Une (l.drop (k + n)) rest') (hn : k + n ≤ l.length) (hl : new.length ≤ n)
    (hb : Bf w.heap.size w v' (acc ++ new) wr') : UAt l o w v' (k + n) (acc ++ new) rest' wr' := by
  refine ⟨hb, hn, hu, ?_, ?_⟩
  · rw [← h.eq, hr, List.append_assoc]
  · have := h.len
    rw [List.length_append]
    omega

theorem UAt.fin {l o : List UInt8} {w : World} {v : Value} {k : Nat} {acc rest : List UInt8} {wr : World} (h : UAt l o w v k acc rest wr) (hk : ¬ k < l.length) : Bf w.heap.size w v o wr := by
  have hu := h.un
  rw [List.drop_eq_nil_of_le (by omega)] at hu
  have he := h.eq
  cases hu
  rw [List.append_nil] at he
  rw [← he]
  exact h.bf

set_option maxHeartbeats 16000000 in
set_option maxRecDepth 100000 in
theorem unescape (a : Option Addr) (cap n : Nat) (l o : List UInt8) (w : World) (hl : Hid (l.length = n)) (hn : n ≤ 100000000) (ha : Rd w a l) (hu : Une l o) :
    Calls Tryd.prog 12 #[.slice a n cap] w fun e w' => Rt2 w.heap.size w o e w' := by
  obtain ⟨i0, hi, hz0, hz1, hz2⟩ := info_parts Tryd.info5
  go_enter Tryd.func12, Tryd.ntmps12
  go_big_wp2_with (fail)
  go_loopw [4, 5] (fun t i wr => ∃ (v : Value) (k : Nat) (acc rest : List UInt8), v = t ∧ i = .int .i64 k ∧ UAt l o w v k acc rest wr) (fun _ i _ => n - (intOf i).toNat)
  case atStart => exact ⟨_, 0, [], o, rfl, rfl, Bf.nil w, Nat.zero_le _, hu, rfl, by simp⟩
  case round =>
    obtain ⟨v, k, acc, rest, rfl, rfl, h⟩ := hrel
    have HA := hide h
    have hal := h.len
    have hle := h.le
    by_cases hk : k < n
    · have hln := hl.out
      rw [hln] at hle
      have W := way_of (by omega) h.un
      have ha' := ha.below (h.bf.bel)
      obtain ⟨b, off, rfl, hc⟩ := ha'.at (by intro e; rw [e] at hln; simp at hln; omega)
      rw [hln] at hc
      clear hu ha ha' h hln
      rcases W with ⟨c, o', h1, h2, h3, h4⟩ | ⟨a1, b1, c1, d1, p, q, r, s, o', g0, g1, g2, g3, g4, g5, g6, ha1, hb1, hc1, hd1, hv, hu, he⟩ | ⟨e, b', o', g0, g1, g6, hs, hu, he⟩
      · have x0 := hc k hk
        rw [h1] at x0
        unfold bv at x0
        have hne : ((c.toNat : Int) == 92) = false := by
          simp only [beq_eq_false_iff_ne]
          intro e
          exact h2 (UInt8.toNat.inj (by show c.toNat = 92; omega))
        have HH := hide h3
        have HR := hide h4
        clear hc h1 h2 h3 h4
        go_big_wp2_with (at_builtin; refine wpList_bf_new rfl _ _ 22 rfl i0 Tryd.underlying22 hi hz0 hz1 hz2 w.heap.size w wr v acc [c] _ HA.out.bf rfl rfl (by rfl) (by simp only [List.length_cons, List.length_nil]; omega) ?_; intro v2 w2 hb2; have HB2 := hide hb2; clear hb2)
        go_roundw
        case rel => exact ⟨_, k + 1, _, _, rfl, by go_num, HA.out.put (new := [c]) (n := 1) HR.out HH.out (by have := hl.out; omega) (by simp) HB2.out⟩
        case measure => simp [intOf]; omega
      · have x0 := hc k hk
        have HL : Hid (k + 6 ≤ n) := hide (by have := hl.out; omega)
        have hk6 : k + 6 ≤ n := HL.out
        have x1 := hc (k + 1) (by omega)
        have x2 := hc (k + 2) (by omega)
        have x3 := hc (k + 3) (by omega)
        have x4 := hc (k + 4) (by omega)
        have x5 := hc (k + 5) (by omega)
        rw [g0] at x0
        rw [g1] at x1
        rw [g2] at x2
        rw [g3] at x3
        rw [g4] at x4
        rw [g5] at x5
        unfold bv at x0 x1 x2 x3 x4 x5
        have HH := hide hu
        have HR := hide he
        have HV := hide hv
        have kh0 : ∀ wn, Calls Tryd.prog 19 #[.int .u8 (a1.toNat : Int)] wn fun e w' => e = .returned (.int .i32 (p : Int)) ∧ w' = wn := fun wn => by
          have := zzHexValue a1 wn
          unfold hexI at this
          rw [ha1] at this
          exact this
        have hp : p < 16 := hexV_lt ha1
        have kh1 : ∀ wn, Calls Tryd.prog 19 #[.int .u8 (b1.toNat : Int)] wn fun e w' => e = .returned (.int .i32 (q : Int)) ∧ w' = wn := fun wn => by
          have := zzHexValue b1 wn
          unfold hexI at this
          rw [hb1] at this
          exact this
        have hq : q < 16 := hexV_lt hb1
        have kh2 : ∀ wn, Calls Tryd.prog 19 #[.int .u8 (c1.toNat : Int)] wn fun e w' => e = .returned (.int .i32 (r : Int)) ∧ w' = wn := fun wn => by
          have := zzHexValue c1 wn
          unfold hexI at this
          rw [hc1] at this
          exact this
        have hr : r < 16 := hexV_lt hc1
        have kh3 : ∀ wn, Calls Tryd.prog 19 #[.int .u8 (d1.toNat : Int)] wn fun e w' => e = .returned (.int .i32 (s : Int)) ∧ w' = wn := fun wn => by
          have := zzHexValue d1 wn
          unfold hexI at this
          rw [hd1] at this
          exact this
        have hs : s < 16 := hexV_lt hd1
        have or0 : bits .or .i32 0 (p : Int) = p := by
          have := bits_join .i32 31 (by decide) wraps_i32 4 0 p (by omega) (by decide) (by decide) (by omega) (by omega) (by omega)
          rw [this]; omega
        have or1 : bits .or .i32 ((p : Int) * 16) (q : Int) = ((p * 16 + q : Nat) : Int) := by
          rw [bits_join .i32 31 (by decide) wraps_i32 4 ((p : Int) * 16) q (by omega) (by omega) (by omega) (by omega) (by omega) (by omega)]
          omega
        have or2 : bits .or .i32 (((p * 16 + q : Nat) : Int) * 16) (r : Int) = (((p * 16 + q) * 16 + r : Nat) : Int) := by
          rw [bits_join .i32 31 (by decide) wraps_i32 4 (((p * 16 + q : Nat) : Int) * 16) r (by omega) (by omega) (by omega) (by omega) (by omega) (by omega)]
          omega
        have or3 : bits .or .i32 ((((p * 16 + q) * 16 + r : Nat) : Int) * 16) (s : Int) = ((((p * 16 + q) * 16 + r) * 16 + s : Nat) : Int) := by
          rw [bits_join .i32 31 (by decide) wraps_i32 4 ((((p * 16 + q) * 16 + r : Nat) : Int) * 16) s (by omega) (by omega) (by omega) (by omega) (by omega) (by omega)]
          omega
        have hV4 : ((p * 16 + q) * 16 + r) * 16 + s < 65536 := by omega
        generalize e2 : p * 16 + q = V2 at *
        generalize e3 : V2 * 16 + r = V3 at *
        generalize e4 : V3 * 16 + s = V4 at *
        have b2 : V2 < 256 := by omega
        have b3 : V3 < 4096 := by omega
        clear hc g0 g1 g2 g3 g4 g5 g6 hu he hv ha1 hb1 hc1 hd1 e2 e3 e4
        go_big_wp2_with (fail)
        go_loop [8, 9] (fun t i => ∃ j : Nat, ((j = 0 ∧ t = .int .i32 0) ∨ (j = 1 ∧ t = .int .i32 (p : Int)) ∨ (j = 2 ∧ t = .int .i32 (V2 : Int)) ∨ (j = 3 ∧ t = .int .i32 (V3 : Int)) ∨ (j = 4 ∧ t = .int .i32 (V4 : Int))) ∧ i = .int .i64 ((k + 2 + j : Nat) : Int)) (fun _ i => k + 6 - (intOf i).toNat)
        case atStart => exact ⟨0, .inl ⟨rfl, rfl⟩, by go_num⟩
        case round =>
          obtain ⟨j, hj, rfl⟩ := hrel
          rcases hj with ⟨rfl, rfl⟩ | ⟨rfl, rfl⟩ | ⟨rfl, rfl⟩ | ⟨rfl, rfl⟩ | ⟨rfl, rfl⟩
          · go_big_wp2_with (go_at_call 19; refine (kh0 _).mono ?_; rintro e w3 ⟨rfl, hw3⟩; rw [hw3]; clear hw3 w3)
            go_round
            case rel => exact ⟨1, .inr (.inl ⟨rfl, rfl⟩), by go_num⟩
            case measure => simp [intOf]; omega
          · go_big_wp2_with (go_at_call 19; refine (kh1 _).mono ?_; rintro e w3 ⟨rfl, hw3⟩; rw [hw3]; clear hw3 w3)
            go_round
            case rel => exact ⟨2, .inr (.inr (.inl ⟨rfl, rfl⟩)), by go_num⟩
            case measure => simp [intOf]; omega
          · go_big_wp2_with (go_at_call 19; refine (kh2 _).mono ?_; rintro e w3 ⟨rfl, hw3⟩; rw [hw3]; clear hw3 w3)
            go_round
            case rel => exact ⟨3, .inr (.inr (.inr (.inl ⟨rfl, rfl⟩))), by go_num⟩
            case measure => simp [intOf]; omega
          · go_big_wp2_with (go_at_call 19; refine (kh3 _).mono ?_; rintro e w3 ⟨rfl, hw3⟩; rw [hw3]; clear hw3 w3)
            go_round
            case rel => exact ⟨4, .inr (.inr (.inr (.inr ⟨rfl, rfl⟩))), by go_num⟩
            case measure => simp [intOf]; omega
          · have kap := appendRune w.heap.size w wr v acc V4 hV4 HA.out.bf (by omega)
            unfold Rt at kap
            clear or0 or1 or2 or3 kh0 kh1 kh2 kh3 x0 x1 x2 x3 x4 x5 hV4
            go_upto_region 22 with fail
            clear b2 b3
            by_cases hlo : (V4 : Int) < 55296
            · have hlo' : decide ((55296 : Int) ≤ (V4 : Int)) = false := by
                rw [decide_eq_false_iff_not]
                omega
              clear hlo
              generalize (V4 : Int) = X at *
              go_wp2_with (go_at_call 20; refine kap.mono ?_; rintro e w3 ⟨v3, rfl, hb3⟩; have HB3 := hide hb3; clear hb3)
              go_roundw
              case rel => exact ⟨_, k + 6, _, _, rfl, by go_num, HA.out.put (n := 6) HR.out HH.out (by have := hl.out; omega) (by have := enc_len V4; omega) HB3.out⟩
              case measure => simp [intOf]; omega
            · have hlo' : decide ((55296 : Int) ≤ (V4 : Int)) = true := by
                rw [decide_eq_true_eq]
                omega
              have hhi : decide ((V4 : Int) ≤ 57343) = false := by
                rw [decide_eq_false_iff_not]
                have := HV.out
                omega
              clear hlo
              generalize (V4 : Int) = X at *
              go_wp2_with (go_at_call 20; refine kap.mono ?_; rintro e w3 ⟨v3, rfl, hb3⟩; have HB3 := hide hb3; clear hb3)
              go_roundw
              case rel => exact ⟨_, k + 6, _, _, rfl, by go_num, HA.out.put (n := 6) HR.out HH.out (by have := hl.out; omega) (by have := enc_len V4; omega) HB3.out⟩
              case measure => simp [intOf]; omega
      · have x0 := hc k hk
        have x1 := hc (k + 1) (by have := hl.out; omega)
        rw [g0] at x0
        rw [g1] at x1
        have HL : Hid (k + 2 ≤ n) := hide (by have := hl.out; omega)
        have hk2 : k + 2 ≤ n := HL.out
        unfold bv at x0 x1
        have HH := hide hu
        have HR := hide he
        have x1' : wr.cell? ⟨b, off + (k + 1), none⟩ = some (.int .u8 (e.toNat : Int)) := x1
        clear hc g0 g1 g6 hu he x1
        rcases simp1_cases hs with ⟨rfl, rfl⟩ | ⟨rfl, rfl⟩ | ⟨rfl, rfl⟩ | ⟨rfl, rfl⟩ | ⟨rfl, rfl⟩ | ⟨rfl, rfl⟩ | ⟨rfl, rfl⟩ | ⟨rfl, rfl⟩
        · go_big_wp2_with (at_builtin; refine wpList_bf_new rfl _ _ 22 rfl i0 Tryd.underlying22 hi hz0 hz1 hz2 w.heap.size w wr v acc [34] _ HA.out.bf rfl rfl (by rfl) (by simp only [List.length_cons, List.length_nil]; omega) ?_; intro v2 w2 hb2; have HB2 := hide hb2; clear hb2)
          go_roundw
          case rel => exact ⟨_, k + 2, _, _, rfl, by go_num, HA.out.put (new := [34]) (n := 2) HR.out HH.out (by have := hl.out; omega) (by simp) HB2.out⟩
          case measure => simp [intOf]; omega
        · go_big_wp2_with (at_builtin; refine wpList_bf_new rfl _ _ 22 rfl i0 Tryd.underlying22 hi hz0 hz1 hz2 w.heap.size w wr v acc [92] _ HA.out.bf rfl rfl (by rfl) (by simp only [List.length_cons, List.length_nil]; omega) ?_; intro v2 w2 hb2; have HB2 := hide hb2; clear hb2)
          go_roundw
          case rel => exact ⟨_, k + 2, _, _, rfl, by go_num, HA.out.put (new := [92]) (n := 2) HR.out HH.out (by have := hl.out; omega) (by simp) HB2.out⟩
          case measure => simp [intOf]; omega
        · go_big_wp2_with (at_builtin; refine wpList_bf_new rfl _ _ 22 rfl i0 Tryd.underlying22 hi hz0 hz1 hz2 w.heap.size w wr v acc [47] _ HA.out.bf rfl rfl (by rfl) (by simp only [List.length_cons, List.length_nil]; omega) ?_; intro v2 w2 hb2; have HB2 := hide hb2; clear hb2)
          go_roundw
          case rel => exact ⟨_, k + 2, _, _, rfl, by go_num, HA.out.put (new := [47]) (n := 2) HR.out HH.out (by have := hl.out; omega) (by simp) HB2.out⟩
          case measure => simp [intOf]; omega
        · go_big_wp2_with (at_builtin; refine wpList_bf_new rfl _ _ 22 rfl i0 Tryd.underlying22 hi hz0 hz1 hz2 w.heap.size w wr v acc [10] _ HA.out.bf rfl rfl (by rfl) (by simp only [List.length_cons, List.length_nil]; omega) ?_; intro v2 w2 hb2; have HB2 := hide hb2; clear hb2)
          go_roundw
          case rel => exact ⟨_, k + 2, _, _, rfl, by go_num, HA.out.put (new := [10]) (n := 2) HR.out HH.out (by have := hl.out; omega) (by simp) HB2.out⟩
          case measure => simp [intOf]; omega
        · go_big_wp2_with (at_builtin; refine wpList_bf_new rfl _ _ 22 rfl i0 Tryd.underlying22 hi hz0 hz1 hz2 w.heap.size w wr v acc [13] _ HA.out.bf rfl rfl (by rfl) (by simp only [List.length_cons, List.length_nil]; omega) ?_; intro v2 w2 hb2; have HB2 := hide hb2; clear hb2)
          go_roundw
          case rel => exact ⟨_, k + 2, _, _, rfl, by go_num, HA.out.put (new := [13]) (n := 2) HR.out HH.out (by have := hl.out; omega) (by simp) HB2.out⟩
          case measure => simp [intOf]; omega
        · go_big_wp2_with (at_builtin; refine wpList_bf_new rfl _ _ 22 rfl i0 Tryd.underlying22 hi hz0 hz1 hz2 w.heap.size w wr v acc [9] _ HA.out.bf rfl rfl (by rfl) (by simp only [List.length_cons, List.length_nil]; omega) ?_; intro v2 w2 hb2; have HB2 := hide hb2; clear hb2)
          go_roundw
          case rel => exact ⟨_, k + 2, _, _, rfl, by go_num, HA.out.put (new := [9]) (n := 2) HR.out HH.out (by have := hl.out; omega) (by simp) HB2.out⟩
          case measure => simp [intOf]; omega
        · go_big_wp2_with (at_builtin; refine wpList_bf_new rfl _ _ 22 rfl i0 Tryd.underlying22 hi hz0 hz1 hz2 w.heap.size w wr v acc [8] _ HA.out.bf rfl rfl (by rfl) (by simp only [List.length_cons, List.length_nil]; omega) ?_; intro v2 w2 hb2; have HB2 := hide hb2; clear hb2)
          go_roundw
          case rel => exact ⟨_, k + 2, _, _, rfl, by go_num, HA.out.put (new := [8]) (n := 2) HR.out HH.out (by have := hl.out; omega) (by simp) HB2.out⟩
          case measure => simp [intOf]; omega
        · go_big_wp2_with (at_builtin; refine wpList_bf_new rfl _ _ 22 rfl i0 Tryd.underlying22 hi hz0 hz1 hz2 w.heap.size w wr v acc [12] _ HA.out.bf rfl rfl (by rfl) (by simp only [List.length_cons, List.length_nil]; omega) ?_; intro v2 w2 hb2; have HB2 := hide hb2; clear hb2)
          go_roundw
          case rel => exact ⟨_, k + 2, _, _, rfl, by go_num, HA.out.put (new := [12]) (n := 2) HR.out HH.out (by have := hl.out; omega) (by simp) HB2.out⟩
          case measure => simp [intOf]; omega
    · clear hu ha
      go_big_wp2_with (fail)
      go_ret2
      exact ⟨_, rfl, HA.out.fin (by have := hl.out; omega)⟩

end Go.Proofs.Qxb6608953aDoor

/-
  Seat b6608953aD: zzDecodeRune.
-/
import Derived.Test.Qxb6608953aDoorBuf
namespace Go.Proofs.Qxb6608953aDoor
open Go.RowKit Go.Lib

/-- What zzDecodeRune answers. -/
def ZD (s : ByteArray) (k : Nat) (e : Ending) : Prop :=
  ((Utf8.decode s k).1 = 65533 ∧ (Utf8.decode s k).2 = 1 ∧ e = .returned (.tuple #[.int .i32 0, .int .i64 1, .bool false])) ∨
  (¬ ((Utf8.decode s k).1 = 65533 ∧ (Utf8.decode s k).2 = 1) ∧ e = .returned (.tuple #[.int .i32 (Utf8.decode s k).1, .int .i64 (Utf8.decode s k).2, .bool true]))

/-- The bytes of a well-formed sequence of 2, 3, 4. -/
def good2 (n b0 b1 : Nat) : Prop := 194 ≤ b0 ∧ b0 < 224 ∧ 2 ≤ n ∧ 128 ≤ b1 ∧ b1 ≤ 191
def good3 (n b0 b1 b2 : Nat) : Prop := 224 ≤ b0 ∧ b0 < 240 ∧ 3 ≤ n ∧ 128 ≤ b1 ∧ b1 ≤ 191 ∧ (b0 = 224 → 160 ≤ b1) ∧ (b0 = 237 → b1 ≤ 159) ∧ 128 ≤ b2 ∧ b2 ≤ 191
def good4 (n b0 b1 b2 b3 : Nat) : Prop := 240 ≤ b0 ∧ b0 ≤ 244 ∧ 4 ≤ n ∧ 128 ≤ b1 ∧ b1 ≤ 191 ∧ (b0 = 240 → 144 ≤ b1) ∧ (b0 = 244 → b1 ≤ 143) ∧ 128 ≤ b2 ∧ b2 ≤ 191 ∧ 128 ≤ b3 ∧ b3 ≤ 191

theorem dec_bad (n b0 b1 b2 b3 : Nat) (h0 : 128 ≤ b0) (hb : b0 < 256) (h2 : ¬ good2 n b0 b1) (h3 : ¬ good3 n b0 b1 b2) (h4 : ¬ good4 n b0 b1 b2 b3) : decodeN n b0 b1 b2 b3 = (65533, 1) := by
  simp only [good2, good3, good4] at h2 h3 h4
  rcases decodeN_shape n b0 b1 b2 b3 with ⟨c, e⟩ | ⟨c1, c2, c3, cv, e⟩ | ⟨c1, c2, c3, c4, cv, cs, e⟩ | ⟨c1, c2, c3, c4, c5, cv, cw, e⟩ | e
  · omega
  · omega
  · omega
  · omega
  · exact e

theorem dec_two (n b0 b1 b2 b3 : Nat) (h : good2 n b0 b1) : decodeN n b0 b1 b2 b3 = (b0 % 32 * 64 + b1 % 64, 2) := by
  obtain ⟨h1, h2, h3, h4, h5⟩ := h
  unfold decodeN
  rw [if_neg (by omega), if_pos (by omega), if_pos (by omega)]

theorem dec_three (n b0 b1 b2 b3 : Nat) (h : good3 n b0 b1 b2) : decodeN n b0 b1 b2 b3 = (b0 % 16 * 4096 + b1 % 64 * 64 + b2 % 64, 3) := by
  obtain ⟨h1, h2, h3, h4, h5, h6, h7, h8, h9⟩ := h
  unfold decodeN
  rw [if_neg (by omega), if_neg (by omega), if_pos (by omega), if_pos (by omega)]

theorem dec_four (n b0 b1 b2 b3 : Nat) (h : good4 n b0 b1 b2 b3) : decodeN n b0 b1 b2 b3 = (b0 % 8 * 262144 + b1 % 64 * 4096 + b2 % 64 * 64 + b3 % 64, 4) := by
  obtain ⟨h1, h2, h3, h4, h5, h6, h7, h8, h9, h10, h11⟩ := h
  unfold decodeN
  rw [if_neg (by omega), if_neg (by omega), if_neg (by omega), if_pos (by omega), if_pos (by omega)]

def gb (s : ByteArray) (i : Nat) : Nat := (s.get! i).toNat
theorem gb_eq (s : ByteArray) (i : Nat) (h : i < s.size) : gb s i = s[i].toNat := by
  unfold gb
  rw [← getD_get!', getD_get s i h]
theorem gb_lt (s : ByteArray) (i : Nat) : gb s i < 256 := UInt8.toNat_lt _

theorem ZD.low (s : ByteArray) (k : Nat) (hk : k < s.size) (h : s[k].toNat < 128) : ZD s k (.returned (.tuple #[.int .i32 s[k].toNat, .int .i64 1, .bool true])) := by
  have e : Utf8.decode s k = (s[k].toNat, 1) := by
    rw [decode_at, ← gb_eq s k hk]
    show decodeN _ (gb s k) _ _ _ = _
    unfold decodeN
    rw [if_pos (by rw [gb_eq s k hk]; exact h)]
  refine .inr ⟨?_, ?_⟩
  · rw [e]; dsimp only; omega
  · rw [e]; rfl

theorem ZD.bad (s : ByteArray) (k : Nat) (h0 : 128 ≤ gb s k) (h2 : ¬ good2 (s.size - k) (gb s k) (gb s (k + 1))) (h3 : ¬ good3 (s.size - k) (gb s k) (gb s (k + 1)) (gb s (k + 2)))
    (h4 : ¬ good4 (s.size - k) (gb s k) (gb s (k + 1)) (gb s (k + 2)) (gb s (k + 3))) : ZD s k (.returned (.tuple #[.int .i32 0, .int .i64 1, .bool false])) := by
  have e : Utf8.decode s k = (65533, 1) := by
    rw [decode_at]
    exact dec_bad _ _ _ _ _ h0 (gb_lt s k) h2 h3 h4
  exact .inl ⟨by rw [e], by rw [e], rfl⟩

theorem ZD.two (s : ByteArray) (k : Nat) (hn : k + 1 < s.size) (h : good2 (s.size - k) (gb s k) (gb s (k + 1))) :
    ZD s k (.returned (.tuple #[.int .i32 ((s[k].toNat : Int) % 32 * 64 + (s[k + 1].toNat : Int) % 64), .int .i64 2, .bool true])) := by
  have e : Utf8.decode s k = (gb s k % 32 * 64 + gb s (k + 1) % 64, 2) := by
    rw [decode_at]
    exact dec_two _ _ _ _ _ h
  rw [← gb_eq s k (by omega), ← gb_eq s (k + 1) hn]
  refine .inr ⟨?_, ?_⟩
  · rw [e]; dsimp only; omega
  · rw [e]; congr

theorem ZD.three (s : ByteArray) (k : Nat) (hn : k + 2 < s.size) (h : good3 (s.size - k) (gb s k) (gb s (k + 1)) (gb s (k + 2))) :
    ZD s k (.returned (.tuple #[.int .i32 ((s[k].toNat : Int) % 16 * 4096 + (s[k + 1].toNat : Int) % 64 * 64 + (s[k + 2].toNat : Int) % 64), .int .i64 3, .bool true])) := by
  have e : Utf8.decode s k = (gb s k % 16 * 4096 + gb s (k + 1) % 64 * 64 + gb s (k + 2) % 64, 3) := by
    rw [decode_at]
    exact dec_three _ _ _ _ _ h
  rw [← gb_eq s k (by omega), ← gb_eq s (k + 1) (by omega), ← gb_eq s (k + 2) hn]
  refine .inr ⟨?_, ?_⟩
  · rw [e]; dsimp only; omega
  · rw [e]; congr

theorem ZD.four (s : ByteArray) (k : Nat) (hn : k + 3 < s.size) (h : good4 (s.size - k) (gb s k) (gb s (k + 1)) (gb s (k + 2)) (gb s (k + 3))) :
    ZD s k (.returned (.tuple #[.int .i32 ((s[k].toNat : Int) % 8 * 262144 + (s[k + 1].toNat : Int) % 64 * 4096 + (s[k + 2].toNat : Int) % 64 * 64 + (s[k + 3].toNat : Int) % 64), .int .i64 4, .bool true])) := by
  have e : Utf8.decode s k = (gb s k % 8 * 262144 + gb s (k + 1) % 64 * 4096 + gb s (k + 2) % 64 * 64 + gb s (k + 3) % 64, 4) := by
    rw [decode_at]
    exact dec_four _ _ _ _ _ h
  rw [← gb_eq s k (by omega), ← gb_eq s (k + 1) (by omega), ← gb_eq s (k + 2) (by omega), ← gb_eq s (k + 3) hn]
  refine .inr ⟨?_, ?_⟩
  · rw [e]; dsimp only; omega
  · rw [e]; congr

/-- The links between the bytes' two spellings, where they are there. -/
theorem links (s : ByteArray) (k : Nat) (hk : k < s.size) : gb s k = s[k].toNat ∧ (∀ h : k + 1 < s.size, gb s (k + 1) = s[k + 1].toNat) ∧ (∀ h : k + 2 < s.size, gb s (k + 2) = s[k + 2].toNat) ∧ (∀ h : k + 3 < s.size, gb s (k + 3) = s[k + 3].toNat) :=
  ⟨gb_eq s k hk, fun h => gb_eq s _ h, fun h => gb_eq s _ h, fun h => gb_eq s _ h⟩

set_option maxHeartbeats 4000000 in
set_option maxRecDepth 100000 in
theorem zzDecode_low (s : ByteArray) (k : Nat) (hk : k < s.size) (hs : s.size ≤ 1048576) (w : World) (h0 : s[k].toNat < 128) :
    Calls Tryd.prog 17 #[.string s, .int .i64 k] w fun e w' => ZD s k e ∧ Below w.heap.size w w' := by
  go_enter Tryd.func17, Tryd.ntmps17
  go_big_wp2_with (fail)
  go_ret3
  exact ⟨ZD.low s k hk h0, Below.refl _ _⟩

set_option maxHeartbeats 4000000 in
set_option maxRecDepth 100000 in
theorem zzDecode_no (s : ByteArray) (k : Nat) (hk : k < s.size) (hs : s.size ≤ 1048576) (w : World) (h0 : (128 ≤ s[k].toNat ∧ s[k].toNat < 194) ∨ 244 < s[k].toNat) :
    Calls Tryd.prog 17 #[.string s, .int .i64 k] w fun e w' => ZD s k e ∧ Below w.heap.size w w' := by
  rcases h0 with ⟨h0, h1⟩ | h0
  all_goals
    go_enter Tryd.func17, Tryd.ntmps17
    go_big_wp2_with (fail)
    go_ret3
    have e0 := gb_eq s k hk
    exact ⟨ZD.bad s k (by omega) (by simp only [good2]; omega) (by simp only [good3]; omega) (by simp only [good4]; omega), Below.refl _ _⟩

set_option maxHeartbeats 4000000 in
set_option maxRecDepth 100000 in
theorem zzDecode_two (s : ByteArray) (k : Nat) (hk : k < s.size) (hs : s.size ≤ 1048576) (w : World) (h0 : 194 ≤ s[k].toNat) (h1 : s[k].toNat < 224) :
    Calls Tryd.prog 17 #[.string s, .int .i64 k] w fun e w' => ZD s k e ∧ Below w.heap.size w w' := by
  by_cases hn : k + 1 < s.size
  · have t1 := s[k + 1].toNat_lt
    go_enter Tryd.func17, Tryd.ntmps17
    go_big_wp2_with (go_at_call 22; refine (zzIn _ _ _ _).mono ?_; rintro e w' ⟨rfl, rfl⟩)
    all_goals first
      | (go_ret3
         refine ⟨(show ZD s k (.returned (.tuple #[_, _, .bool false])) from ZD.bad s k ?_ ?_ ?_ ?_), Below.refl _ _⟩
         all_goals
           obtain ⟨e0, e1, e2, e3⟩ := links s k hk
           repeat (rename ∀ (a : Act) (w : World), _ → _ => hKK; clear hKK)
           simp only [good2, good3, good4, Bool.not_eq_true', decide_eq_false_iff_not] at *
           rcases Nat.lt_or_ge (k + 1) s.size with q1 | q1
           · have e1' := e1 q1
             rcases Nat.lt_or_ge (k + 2) s.size with q2 | q2
             · have e2' := e2 q2
               rcases Nat.lt_or_ge (k + 3) s.size with q3 | q3
               · have e3' := e3 q3
                 clear e1 e2 e3
                 omega
               · clear e1 e2 e3
                 omega
             · clear e1 e2 e3
               omega
           · clear e1 e2 e3
             omega)
      | (go_ret3
         refine ⟨ZD.two s k hn ?_, Below.refl _ _⟩
         obtain ⟨e0, e1, e2, e3⟩ := links s k hk
         repeat (rename ∀ (a : Act) (w : World), _ → _ => hKK; clear hKK)
         simp only [good2, Bool.not_eq_false', decide_eq_true_eq] at *
         rcases Nat.lt_or_ge (k + 1) s.size with q1 | q1
         · have e1' := e1 q1
           rcases Nat.lt_or_ge (k + 2) s.size with q2 | q2
           · have e2' := e2 q2
             rcases Nat.lt_or_ge (k + 3) s.size with q3 | q3
             · have e3' := e3 q3
               clear e1 e2 e3
               omega
             · clear e1 e2 e3
               omega
           · clear e1 e2 e3
             omega
         · clear e1 e2 e3
           omega)
  · have HB : Hid (ZD s k (.returned (.tuple #[.int .i32 0, .int .i64 1, .bool false]))) := hide (by
      have e0 := gb_eq s k hk
      exact ZD.bad s k (by omega) (by simp only [good2]; omega) (by simp only [good3]; omega) (by simp only [good4]; omega))
    go_enter Tryd.func17, Tryd.ntmps17
    go_big_wp2_with (fail)
    go_ret3
    exact ⟨HB.out, Below.refl _ _⟩

set_option maxHeartbeats 4000000 in
set_option maxRecDepth 100000 in
theorem zzDecode_three (s : ByteArray) (k : Nat) (hk : k < s.size) (hs : s.size ≤ 1048576) (w : World) (h0 : 224 ≤ s[k].toNat) (h1 : s[k].toNat < 240) :
    Calls Tryd.prog 17 #[.string s, .int .i64 k] w fun e w' => ZD s k e ∧ Below w.heap.size w w' := by
  go_enter Tryd.func17, Tryd.ntmps17
  go_big_wp2_with (go_at_call 22; refine (zzIn _ _ _ _).mono ?_; rintro e w' ⟨rfl, rfl⟩)
  all_goals first
    | (go_ret3
       refine ⟨(show ZD s k (.returned (.tuple #[_, _, .bool false])) from ZD.bad s k ?_ ?_ ?_ ?_), Below.refl _ _⟩
       all_goals
         obtain ⟨e0, e1, e2, e3⟩ := links s k hk
         repeat (rename ∀ (a : Act) (w : World), _ → _ => hKK; clear hKK)
         simp only [good2, good3, good4, Bool.not_eq_true', decide_eq_false_iff_not, beq_iff_eq, beq_eq_false_iff_ne] at *
         rcases Nat.lt_or_ge (k + 1) s.size with q1 | q1
         · have e1' := e1 q1
           rcases Nat.lt_or_ge (k + 2) s.size with q2 | q2
           · have e2' := e2 q2
             rcases Nat.lt_or_ge (k + 3) s.size with q3 | q3
             · have e3' := e3 q3
               clear e1 e2 e3
               omega
             · clear e1 e2 e3
               omega
           · clear e1 e2 e3
             omega
         · clear e1 e2 e3
           omega)
    | (have q2 : k + 2 < s.size := by omega
       have t0 := s[k].toNat_lt
       have t1 := s[k + 1].toNat_lt
       have t2 := s[k + 2].toNat_lt
       go_quiet (fail)
       go_wp2
       go_ret3
       refine ⟨ZD.three s k q2 ?_, ⟨rfl, rfl, rfl, Nat.le_refl _, fun _ _ => rfl⟩⟩
       obtain ⟨e0, e1, e2, e3⟩ := links s k hk
       repeat (rename ∀ (a : Act) (w : World), _ → _ => hKK; clear hKK)
       simp only [good3, Bool.not_eq_false', decide_eq_true_eq, beq_iff_eq, beq_eq_false_iff_ne] at *
       rcases Nat.lt_or_ge (k + 1) s.size with q1 | q1
       · have e1' := e1 q1
         rcases Nat.lt_or_ge (k + 2) s.size with q2 | q2
         · have e2' := e2 q2
           rcases Nat.lt_or_ge (k + 3) s.size with q3 | q3
           · have e3' := e3 q3
             clear e1 e2 e3
             omega
           · clear e1 e2 e3
             omega
         · clear e1 e2 e3
           omega
       · clear e1 e2 e3
         omega)

set_option maxHeartbeats 4000000 in
set_option maxRecDepth 100000 in
theorem zzDecode_four (s : ByteArray) (k : Nat) (hk : k < s.size) (hs : s.size ≤ 1048576) (w : World) (h0 : 240 ≤ s[k].toNat) (h1 : s[k].toNat ≤ 244) :
    Calls Tryd.prog 17 #[.string s, .int .i64 k] w fun e w' => ZD s k e ∧ Below w.heap.size w w' := by
  go_enter Tryd.func17, Tryd.ntmps17
  go_big_wp2_with (go_at_call 22; refine (zzIn _ _ _ _).mono ?_; rintro e w' ⟨rfl, rfl⟩)
  all_goals first
    | (go_ret3
       refine ⟨(show ZD s k (.returned (.tuple #[_, _, .bool false])) from ZD.bad s k ?_ ?_ ?_ ?_), Below.refl _ _⟩
       all_goals
         obtain ⟨e0, e1, e2, e3⟩ := links s k hk
         repeat (rename ∀ (a : Act) (w : World), _ → _ => hKK; clear hKK)
         simp only [good2, good3, good4, Bool.not_eq_true', decide_eq_false_iff_not, beq_iff_eq, beq_eq_false_iff_ne] at *
         rcases Nat.lt_or_ge (k + 1) s.size with q1 | q1
         · have e1' := e1 q1
           rcases Nat.lt_or_ge (k + 2) s.size with q2 | q2
           · have e2' := e2 q2
             rcases Nat.lt_or_ge (k + 3) s.size with q3 | q3
             · have e3' := e3 q3
               clear e1 e2 e3
               omega
             · clear e1 e2 e3
               omega
           · clear e1 e2 e3
             omega
         · clear e1 e2 e3
           omega)
    | (have q2 : k + 2 < s.size := by omega
       have t0 := s[k].toNat_lt
       have t1 := s[k + 1].toNat_lt
       have t2 := s[k + 2].toNat_lt
       have q3 : k + 3 < s.size := by omega
       have t3 := s[k + 3].toNat_lt
       go_quiet (fail)
       go_wp2
       go_ret3
       refine ⟨ZD.four s k q3 ?_, ⟨rfl, rfl, rfl, Nat.le_refl _, fun _ _ => rfl⟩⟩
       obtain ⟨e0, e1, e2, e3⟩ := links s k hk
       repeat (rename ∀ (a : Act) (w : World), _ → _ => hKK; clear hKK)
       simp only [good4, Bool.not_eq_false', decide_eq_true_eq, beq_iff_eq, beq_eq_false_iff_ne] at *
       rcases Nat.lt_or_ge (k + 1) s.size with q1 | q1
       · have e1' := e1 q1
         rcases Nat.lt_or_ge (k + 2) s.size with q2 | q2
         · have e2' := e2 q2
           rcases Nat.lt_or_ge (k + 3) s.size with q3 | q3
           · have e3' := e3 q3
             clear e1 e2 e3
             omega
           · clear e1 e2 e3
             omega
         · clear e1 e2 e3
           omega
       · clear e1 e2 e3
         omega)

theorem zzDecode (s : ByteArray) (k : Nat) (hk : k < s.size) (hs : s.size ≤ 1048576) (w : World) :
    Calls Tryd.prog 17 #[.string s, .int .i64 k] w fun e w' => ZD s k e ∧ Below w.heap.size w w' := by
  by_cases h1 : s[k].toNat < 128
  · exact zzDecode_low s k hk hs w h1
  by_cases h2 : s[k].toNat < 194
  · exact zzDecode_no s k hk hs w (.inl ⟨by omega, h2⟩)
  by_cases h3 : s[k].toNat < 224
  · exact zzDecode_two s k hk hs w (by omega) h3
  by_cases h4 : s[k].toNat < 240
  · exact zzDecode_three s k hk hs w (by omega) h4
  by_cases h5 : s[k].toNat ≤ 244
  · exact zzDecode_four s k hk hs w (by omega) h5
  · exact zzDecode_no s k hk hs w (.inr (by omega))

end Go.Proofs.Qxb6608953aDoor

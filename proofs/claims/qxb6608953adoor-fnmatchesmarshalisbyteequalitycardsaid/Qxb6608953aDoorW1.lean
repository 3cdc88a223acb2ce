/-
  Seat b6608953aD: the small functions: zzIn, zzHexDigit, zzHexValue, MatchesMarshal.
-/
import Derived.Test.Qxb6608953aDoorRows
import Derived.Test.Qxb6608953aDoorPlain
import Derived.WalkKit
import Derived.WalkSpells
import Derived.WalkLawsBesides
import Derived.Deep.QuietTactic
import Derived.BigQuiet
namespace Go.Proofs.Qxb6608953aDoor
open Go.RowKit Go.Lib

/-- A fact that the walk does not look into. -/
def Hid (p : Prop) : Prop := p
theorem hide {p : Prop} (h : p) : Hid p := h
theorem Hid.out {p : Prop} (h : Hid p) : p := h

set_option maxHeartbeats 1600000 in
theorem zzIn (c lo hi : Int) (w : World) :
    Calls Tryd.prog 22 #[.int .u8 c, .int .u8 lo, .int .u8 hi] w fun e w' => e = .returned (.bool (decide (lo ≤ c) && decide (c ≤ hi))) ∧ w' = w := by
  by_cases h1 : lo ≤ c
  · by_cases h2 : c ≤ hi
    · go_enter Tryd.func22, Tryd.ntmps22
      go_wp2
      go_ret
      simp [h1, h2]
    · go_enter Tryd.func22, Tryd.ntmps22
      go_wp2
      go_ret
      simp [h2]
  · go_enter Tryd.func22, Tryd.ntmps22
    go_wp2
    go_ret
    simp
    omega

set_option maxHeartbeats 1600000 in
theorem zzHexDigit (d : Nat) (hd : d < 16) (w : World) :
    Calls Tryd.prog 18 #[.int .i32 (d : Int)] w fun e w' => e = .returned (.int .u8 ((hexD d).toNat : Int)) ∧ w' = w := by
  by_cases h1 : d < 10
  · have : ((hexD d).toNat : Int) = 48 + (d : Int) := by
      unfold hexD
      rw [if_pos h1, UInt8.toNat_ofNat']
      omega
    rw [this]
    go_enter Tryd.func18, Tryd.ntmps18
    go_wp2
    go_ret
    exact ⟨rfl, rfl⟩
  · have : ((hexD d).toNat : Int) = 97 + (d : Int) - 10 := by
      unfold hexD
      rw [if_neg h1, UInt8.toNat_ofNat']
      omega
    rw [this]
    go_enter Tryd.func18, Tryd.ntmps18
    go_wp2
    go_ret
    exact ⟨rfl, rfl⟩

/-- What zzHexValue answers. -/
def hexI (c : UInt8) : Int := match hexV c with
  | some v => v
  | none => -1

set_option maxHeartbeats 1600000 in
theorem zzHexValue (c : UInt8) (w : World) :
    Calls Tryd.prog 19 #[.int .u8 (c.toNat : Int)] w fun e w' => e = .returned (.int .i32 (hexI c)) ∧ w' = w := by
  have hc := c.toNat_lt
  unfold hexI hexV
  generalize c.toNat = n at hc
  by_cases h1 : 48 ≤ n ∧ n ≤ 57
  · obtain ⟨h1, h2⟩ := h1
    rw [if_pos ⟨h1, h2⟩]
    have e : ((n - 48 : Nat) : Int) = (n : Int) - 48 := by omega
    dsimp only
    rw [e]
    go_enter Tryd.func19, Tryd.ntmps19
    go_wp2
    go_ret
    exact ⟨rfl, rfl⟩
  rw [if_neg h1]
  by_cases h2 : 97 ≤ n ∧ n ≤ 102
  · obtain ⟨h2, h3⟩ := h2
    rw [if_pos ⟨h2, h3⟩]
    have e : ((n - 97 + 10 : Nat) : Int) = (n : Int) - 97 + 10 := by omega
    dsimp only
    rw [e]
    clear h1
    go_enter Tryd.func19, Tryd.ntmps19
    go_wp2
    go_ret
    exact ⟨rfl, rfl⟩
  rw [if_neg h2]
  by_cases h3 : 65 ≤ n ∧ n ≤ 70
  · obtain ⟨h3, h4⟩ := h3
    rw [if_pos ⟨h3, h4⟩]
    have e : ((n - 65 + 10 : Nat) : Int) = (n : Int) - 65 + 10 := by omega
    dsimp only
    rw [e]
    clear h1 h2
    go_enter Tryd.func19, Tryd.ntmps19
    go_wp2
    go_ret
    exact ⟨rfl, rfl⟩
  rw [if_neg h3]
  dsimp only
  have k : (n < 48 ∨ (57 < n ∧ n < 65) ∨ (70 < n ∧ n < 97) ∨ 102 < n) := by omega
  clear h1 h2 h3
  rcases k with k | ⟨k, k'⟩ | ⟨k, k'⟩ | k
  all_goals
    go_enter Tryd.func19, Tryd.ntmps19
    go_wp2
    go_ret
    exact ⟨rfl, rfl⟩

/-- The byte at k. -/
theorem any_at (l : List UInt8) (k : Nat) (hk : k < l.length) : (l.drop k).any spec = (spec (l.getD k 0) || (l.drop (k + 1)).any spec) := by
  rw [List.drop_eq_getElem_cons hk, List.any_cons]
  simp [List.getD_eq_getElem?_getD, hk]

/-- No byte that Marshal writes in another way. -/
def noSpec (s : ByteArray) : Bool := !s.data.toList.any spec

/-- Of the bytes from k on alone. -/
structure From (s : ByteArray) (k : Nat) : Prop where
  le : k ≤ s.size
  eq : noSpec s = !(s.data.toList.drop k).any spec

theorem getD_get (s : ByteArray) (k : Nat) (h : k < s.size) : s.data.toList.getD k 0 = s[k] := by
  have : k < s.data.size := h
  rw [List.getD_eq_getElem?_getD, Array.getElem?_toList, Array.getElem?_eq_getElem this]
  rfl

theorem spec_iff (b : UInt8) : spec b = ((b.toNat : Int) == 60 || (b.toNat : Int) == 62 || (b.toNat : Int) == 38 || (b.toNat : Int) == 8 || (b.toNat : Int) == 12) := by
  have key : ∀ (c : UInt8) (n : Int), n = c.toNat → (b == c) = ((b.toNat : Int) == n) := fun c n hn => by
    subst hn
    by_cases h : b = c
    · subst h; simp
    · have : ¬ (b.toNat : Int) = c.toNat := fun e => h (UInt8.toNat.inj (by omega))
      rw [beq_eq_false_iff_ne.2 h, beq_eq_false_iff_ne.2 this]
  unfold spec
  rw [key 60 60 rfl, key 62 62 rfl, key 38 38 rfl, key 8 8 rfl, key 12 12 rfl]

theorem From.step {s : ByteArray} {k : Nat} (h : From s k) (hk : k < s.size) (hs : ((s[k].toNat : Int) == 60 || (s[k].toNat : Int) == 62 || (s[k].toNat : Int) == 38 || (s[k].toNat : Int) == 8 || (s[k].toNat : Int) == 12) = false) : From s (k + 1) := by
  refine ⟨hk, ?_⟩
  rw [h.eq, any_at _ k (by rw [← Lib.size_eq]; exact hk), getD_get s k hk, spec_iff, hs, Bool.false_or]

theorem From.hit {s : ByteArray} {k : Nat} (h : From s k) (hk : k < s.size) (hs : ((s[k].toNat : Int) == 60 || (s[k].toNat : Int) == 62 || (s[k].toNat : Int) == 38 || (s[k].toNat : Int) == 8 || (s[k].toNat : Int) == 12) = true) : noSpec s = false := by
  rw [h.eq, any_at _ k (by rw [← Lib.size_eq]; exact hk), getD_get s k hk, spec_iff, hs, Bool.true_or]
  rfl

theorem From.fin {s : ByteArray} {k : Nat} (h : From s k) (hk : ¬ k < s.size) : noSpec s = true := by
  rw [h.eq, List.drop_eq_nil_of_le (by rw [← Lib.size_eq]; omega)]
  rfl

set_option maxHeartbeats 1600000 in
theorem matches_any (s : ByteArray) (hs : s.size ≤ 1048576) (w : World) :
    Calls Tryd.prog 15 #[.string s] w fun e w' => e = .returned (.bool (noSpec s)) ∧ w' = w := by
  go_enter Tryd.func15, Tryd.ntmps15
  go_wp2
  go_loop [3] (fun i => ∃ k : Nat, i = .int .i64 k ∧ From s k) (fun i => s.size - (intOf i).toNat)
  case atStart => exact ⟨0, rfl, Nat.zero_le _, by simp [noSpec]⟩
  case round =>
    obtain ⟨k, rfl, hh⟩ := hrel
    have hk := hh.le
    by_cases hlt : k < s.size
    · have hS := hh.step hlt
      have hH := hh.hit hlt
      have HS := hide hS
      have HH := hide hH
      clear hS hH
      go_wp2
      all_goals first
        | (go_ret
           exact ⟨by rw [HH.out (by simp [*])]; rfl, rfl⟩)
        | (go_round
           case rel => exact ⟨k + 1, by go_num, HS.out (by simp [*])⟩
           case measure => simp [intOf]; omega)
    · have HF := hide (hh.fin hlt)
      go_wp2
      go_ret
      exact ⟨by rw [HF.out]; rfl, rfl⟩

end Go.Proofs.Qxb6608953aDoor

/-
  Seat b6608953aD: FnMatchesMarshalIsByteEquality.
-/
import Derived.Test.Qxb6608953aDoorW7
import Derived.Test.Qxb6608953aDoorW8
namespace Go.Proofs.Qxb6608953aDoor
open Go.RowKit Go.Lib

theorem esc_len (m : Bool) : ∀ (n : Nat) (l : List UInt8), (esc m n l).length ≤ 6 * l.length
  | 0, _ => by simp [esc]
  | n + 1, l => by
    unfold esc
    by_cases hne : l = []
    · rw [if_pos hne]; simp
    · rw [if_neg hne, List.length_append]
      have h1 := decodeL_width l
      have h2 := decodeL_le l hne
      have h3 := esc1_len m (decodeL l).1 (decodeL l).2 (l.take (decodeL l).2) h1 (by have := List.length_take_le (decodeL l).2 l; omega)
      have h4 := esc_len m n (l.drop (decodeL l).2)
      rw [List.length_drop] at h4
      omega

theorem san_len : ∀ (n : Nat) (l : List UInt8), (san n l).length ≤ 3 * l.length
  | 0, _ => by simp [san]
  | n + 1, l => by
    unfold san
    by_cases hne : l = []
    · rw [if_pos hne]; simp
    · rw [if_neg hne, List.length_append]
      have h1 := decodeL_width l
      have h2 := decodeL_le l hne
      have h3 : (san1 (decodeL l).1 (decodeL l).2 (l.take (decodeL l).2)).length ≤ 3 * (decodeL l).2 := by
        unfold san1
        split
        · simp; omega
        · have := List.length_take_le (decodeL l).2 l; omega
      have h4 := san_len n (l.drop (decodeL l).2)
      rw [List.length_drop] at h4
      omega

theorem marshal_eq (s : ByteArray) : noSpec s = (esc false s.size s.data.toList == esc true s.size s.data.toList) := by
  unfold noSpec
  rw [marshal_law, Lib.size_eq]

/-- A bound's answer. -/
def Bnd (e : Ending) : Prop := ∃ b : Bool, e = .returned (.bool b)

set_option maxHeartbeats 1600000 in
set_option maxRecDepth 100000 in
theorem bytes1 (s : ByteArray) (w : World) (hs : s.size ≤ 140737488355328) :
    Calls Tryd.prog 14 #[.string s] w fun e w' => Bnd e ∧ w' = w := by
  go_enter Tryd.func14, Tryd.ntmps14
  go_wp2
  all_goals
    go_ret
    exact ⟨⟨_, rfl⟩, rfl⟩

theorem bstep {w a b : World} (h : Below w.heap.size w a) (k : Below a.heap.size a b) : Below w.heap.size w b := h.trans (k.mono h.size)

set_option maxHeartbeats 4000000 in
set_option maxRecDepth 100000 in
theorem law_small (s : ByteArray) (hs : s.size ≤ 1048576) (w : World) (hT : Lib.Utf8Tabs 0 1 w) :
    Calls Tryd.prog 5 #[.string s] w fun e w' => e = .returned (.bool true) ∧ Below w.heap.size w w' := by
  have hlen : s.data.toList.length ≤ 1048576 := by rw [← Lib.size_eq]; exact hs
  have k14 := bytes1 s w (by omega)
  have k15 := matches_any s hs w
  have k8 := appendEscaped s hs w hT
  have l1 := esc_len false s.size s.data.toList
  have l2 := esc_len true s.size s.data.toList
  have l3 := san_len s.size s.data.toList
  have k12 : ∀ (a : Option Addr) (cap : Nat) (w1 : World), Rd w1 a (esc false s.size s.data.toList) → Calls Tryd.prog 12 #[.slice a (esc false s.size s.data.toList).length cap] w1 fun e w' => Rt2 w1.heap.size w1 (san s.size s.data.toList) e w' :=
    fun a cap w1 h => unescape a cap _ _ _ w1 (hide rfl) (by omega) h (une_esc _ _)
  have k13 := zzSanitize s hs
  have k9 := escModel s hs
  have kE : ∀ (a b : Option Addr) (ca cb : Nat) (wn : World), Rd wn a (san s.size s.data.toList) → Rd wn b (san s.size s.data.toList) → Calls Tryd.prog 10 #[.slice a (san s.size s.data.toList).length ca, .slice b (san s.size s.data.toList).length cb] wn fun e w' => e = .returned (.bool true) ∧ Below wn.heap.size wn w' := fun a b ca cb wn h1 h2 => by
    have := zzEqual a b ca cb _ _ wn (by omega) (by omega) h1 h2
    simpa using this
  have kF : ∀ (a b : Option Addr) (ca cb : Nat) (wn : World), Rd wn a (esc false s.size s.data.toList) → Rd wn b (esc true s.size s.data.toList) → Calls Tryd.prog 10 #[.slice a (esc false s.size s.data.toList).length ca, .slice b (esc true s.size s.data.toList).length cb] wn fun e w' => e = .returned (.bool (noSpec s)) ∧ Below wn.heap.size wn w' := fun a b ca cb wn h1 h2 => by
    rw [marshal_eq]
    exact zzEqual a b ca cb _ _ wn (by omega) (by omega) h1 h2
  generalize esc false s.size s.data.toList = E1 at *
  generalize esc true s.size s.data.toList = E2 at *
  generalize san s.size s.data.toList = S1 at *
  generalize noSpec s = B at *
  clear l1 l2 l3 hlen hT
  unfold Rt at k8 k13 k9
  unfold Rt2 at k12
  have K12 := hide k12
  have K13 := hide k13
  have K9 := hide k9
  have KE := hide kE
  have KF := hide kF
  clear k12 k13 k9 kE kF
  go_enter Tryd.func5, Tryd.ntmps5
  go_wp2_with (first
    | (go_at_call 14; refine k14.mono ?_; rintro e wz ⟨⟨bz, rfl⟩, hwz⟩; rw [hwz]; clear hwz wz)
    | (go_at_call 15; refine k15.mono ?_; rintro e wz ⟨rfl, hwz⟩; rw [hwz]; clear hwz wz)
    | (go_at_call 8; refine k8.mono ?_; rintro e w1 ⟨v1, rfl, hb1⟩; obtain ⟨a1, c1, rfl, r1⟩ := hb1.reads; have B1 := hide hb1.bel; have R1 := hide r1; clear hb1 r1)
    | (go_at_call 12; refine (K12.out a1 c1 w1 R1.out).mono ?_; rintro e w2 ⟨v2, rfl, hb2⟩; obtain ⟨a2, c2, rfl, r2⟩ := hb2.reads; have B2 := hide hb2.bel; have R2 := hide r2; clear hb2 r2)
    | (go_at_call 13; refine (K13.out w2).mono ?_; rintro e w3 ⟨v3, rfl, hb3⟩; obtain ⟨a3, c3, rfl, r3⟩ := hb3.reads; have B3 := hide hb3.bel; have R3 := hide r3; clear hb3 r3)
    | (go_at_call 10; refine (KF.out a1 a5 c1 c5 w5 ((((R1.out.below B2.out).below B3.out).below B4.out).below B5.out) R5.out).mono ?_; rintro e w6 ⟨rfl, hb6⟩; have B6 := hide hb6; clear hb6)
    | (go_at_call 9; refine (K9.out w4).mono ?_; rintro e w5 ⟨v5, rfl, hb5⟩; obtain ⟨a5, c5, rfl, r5⟩ := hb5.reads; have B5 := hide hb5.bel; have R5 := hide r5; clear hb5 r5)
    | (go_at_call 10; refine (KE.out a2 a3 c2 c3 w3 (R2.out.below B3.out) R3.out).mono ?_; rintro e w4 ⟨rfl, hb4⟩; have B4 := hide hb4; clear hb4))
  all_goals first
    | (go_ret
       exact ⟨rfl, Below.refl _ _⟩)
    | (go_ret
       refine ⟨?_, bstep (bstep (bstep (bstep (bstep B1.out B2.out) B3.out) B4.out) B5.out) B6.out⟩
       first | rfl | (simp))

end Go.Proofs.Qxb6608953aDoor

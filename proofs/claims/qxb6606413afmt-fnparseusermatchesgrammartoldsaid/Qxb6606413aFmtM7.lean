/-
  Seat b6606413aF: zzModelUser.
-/
import Derived.Test.Qxb6606413aFmtM6
import Derived.Test.Qxb6606413aFmtMup
namespace Go.Proofs.Qxb6606413aFmt
open Go.RowKit Go.Lib

set_option maxRecDepth 100000 in
theorem range108 (u : Nat → Value) : (List.range 108).map u = [u 0, u 1, u 2, u 3, u 4, u 5, u 6, u 7, u 8, u 9, u 10, u 11, u 12, u 13, u 14, u 15, u 16, u 17, u 18, u 19, u 20, u 21, u 22, u 23, u 24, u 25, u 26, u 27, u 28, u 29, u 30, u 31, u 32, u 33, u 34, u 35, u 36, u 37, u 38, u 39, u 40, u 41, u 42, u 43, u 44, u 45, u 46, u 47, u 48, u 49, u 50, u 51, u 52, u 53, u 54, u 55, u 56, u 57, u 58, u 59, u 60, u 61, u 62, u 63, u 64, u 65, u 66, u 67, u 68, u 69, u 70, u 71, u 72, u 73, u 74, u 75, u 76, u 77, u 78, u 79, u 80, u 81, u 82, u 83, u 84, u 85, u 86, u 87, u 88, u 89, u 90, u 91, u 92, u 93, u 94, u 95, u 96, u 97, u 98, u 99, u 100, u 101, u 102, u 103, u 104, u 105, u 106, u 107] := rfl

theorem frame108 (a : Act) (hf : Fr a 108) : ∃ u : Nat → Value, (∀ i, sl a i = u i) ∧ a = ⟨#[u 0, u 1, u 2, u 3, u 4, u 5, u 6, u 7, u 8, u 9, u 10, u 11, u 12, u 13, u 14, u 15, u 16, u 17, u 18, u 19, u 20, u 21, u 22, u 23, u 24, u 25, u 26, u 27, u 28, u 29, u 30, u 31, u 32, u 33, u 34, u 35, u 36, u 37, u 38, u 39, u 40, u 41, u 42, u 43, u 44, u 45, u 46, u 47, u 48, u 49, u 50, u 51, u 52, u 53, u 54, u 55, u 56, u 57, u 58, u 59, u 60, u 61, u 62, u 63, u 64, u 65, u 66, u 67, u 68, u 69, u 70, u 71, u 72, u 73, u 74, u 75, u 76, u 77, u 78, u 79, u 80, u 81, u 82, u 83, u 84, u 85, u 86, u 87, u 88, u 89, u 90, u 91, u 92, u 93, u 94, u 95, u 96, u 97, u 98, u 99, u 100, u 101, u 102, u 103, u 104, u 105, u 106, u 107], []⟩ := by
  refine ⟨fun i => sl a i, fun _ => rfl, ?_⟩
  obtain ⟨t, df⟩ := a
  have hd := hf.df
  have hs := hf.sz
  simp only at hd
  subst hd
  rw [← range108]
  have h := list_lit t.toList
  rw [show t.toList.length = 108 from by simpa using hs] at h
  have h2 : t = ((List.range 108).map fun i => t.toList.getD i undef).toArray := by
    rw [← h]
  exact congrArg (fun x => Act.mk x []) h2

/-- The model's answer. -/
def Mu (b : Bool) (ty id rel : ByteArray) (e : Ending) : Prop := match b with
  | true => e = .returned (.tuple #[.string ty, .string id, .string rel, .bool true])
  | false => e = .returned (.tuple #[.string ⟨#[]⟩, .string ⟨#[]⟩, .string ⟨#[]⟩, .bool false])

theorem byte_eq (b : UInt8) (c : Nat) (hc : c < 256) : b = UInt8.ofNat c ↔ b.toNat = c := by
  constructor
  · rintro rfl; simp; omega
  · intro h; apply UInt8.toNat_inj.1; rw [h]; simp; omega

theorem ext_size (s : ByteArray) (a b : Nat) (h : s.size ≤ 1048576) : (s.extract a b).size ≤ 1048576 := by
  rw [ByteArray.size_extract]; omega

theorem mu_false {fm : Bool} {s a b c : ByteArray} (h : puOK fm s = false) : Mu (puOK fm s) a b c (.returned (.tuple #[.string ⟨#[]⟩, .string ⟨#[]⟩, .string ⟨#[]⟩, .bool false])) := by
  rw [h]; rfl
theorem mu_true {fm : Bool} {s a b c a2 b2 c2 : ByteArray} (h : puOK fm s = true) (ha : a = a2) (hb : b = b2) (hc : c = c2) : Mu (puOK fm s) a b c (.returned (.tuple #[.string a2, .string b2, .string c2, .bool true])) := by
  rw [h, ha, hb, hc]; rfl

theorem results_tmp4 {fn : Func} {t u v x : Tmp} (h : fn.results = #[.tmp t, .tmp u, .tmp v, .tmp x]) (tmps : Array Value) (P : Program) (w : World) :
    (results fn tmps).run P w = .ok (.tuple #[tmps.getD t undef, tmps.getD u undef, tmps.getD v undef, tmps.getD x undef]) w := by
  simp [results, h]

theorem mu_ret {R : Ending → World → Prop} {a : Act} {w : World} {x1 x2 x3 x4 : Value} (hd : a.defers = []) (h1 : a.tmps.getD 4 undef = x1) (h2 : a.tmps.getD 5 undef = x2) (h3 : a.tmps.getD 6 undef = x3) (h4 : a.tmps.getD 7 undef = x4)
    (hR : R (.returned (.tuple #[x1, x2, x3, x4])) w) : bodyPost Tryf.prog Tryf.f13 R .ret a w := by
  refine bodyPost_ret (v := .tuple #[x1, x2, x3, x4]) ?_ hd hR
  rw [results_tmp4 (t := 4) (u := 5) (v := 6) (x := 7) rfl, h1, h2, h3, h4]

theorem star_eq (s : ByteArray) : (s.toList == [42]) = (s.data.toList == [42]) := by rw [empty_toList]

set_option maxHeartbeats 8000000 in
set_option maxRecDepth 100000 in
theorem zzModelUser (s : ByteArray) (fm : Bool) (hs : s.size ≤ 1048576) (w : World) :
    Calls Tryf.prog 13 #[.string s, .bool fm] w fun e w' => Mu (puOK fm s) (bef 58 s) (bef 35 (aft 58 s)) (aft 35 (aft 58 s)) e ∧ Below w.heap.size w w' := by
  go_enter Tryf.func13, Tryf.ntmps13
  go_wp2_with fail
  refine wp_loop_ghost_k (fun g a w' => Fr a 108 ∧ sl a 0 = .string s ∧ sl a 1 = .bool fm ∧ w' = w ∧ ∃ (i n m : Nat) (p q : Int), sl a 12 = .int .i64 i ∧ sl a 8 = .int .i64 n ∧ sl a 9 = .int .i64 m ∧ sl a 10 = .int .i64 p ∧ sl a 11 = .int .i64 q ∧ i ≤ s.size ∧ g = s.size - i ∧ Fd 58 s i n p ∧ Fd 35 s i m q ∧
    sl a 4 = .string ⟨#[]⟩ ∧ sl a 5 = .string ⟨#[]⟩ ∧ sl a 6 = .string ⟨#[]⟩ ∧ sl a 7 = .bool false) s.size ?_ ?_
  · exact ⟨⟨rfl, rfl⟩, rfl, rfl, rfl, 0, 0, 0, -1, -1, rfl, rfl, rfl, rfl, rfl, by omega, by omega, Fd.zero _ _, Fd.zero _ _, rfl, rfl, rfl, rfl⟩
  rintro g a wr ⟨hf, h0, h1, rfl, i, n, m, p, q, h12, h8, h9, h10, h11, hi, rfl, f, fq, h4, h5, h6, h7⟩ J1 K1 hJ1 hK1
  obtain ⟨u, hu, ha⟩ := frame108 a hf
  rw [hu] at h0 h1 h4 h5 h6 h7 h8 h9 h10 h11 h12
  subst ha
  clear hf hu
  simp only [h0, h1, h4, h5, h6, h7, h8, h9, h10, h11, h12]
  clear h0 h1 h4 h5 h6 h7 h8 h9 h10 h11 h12
  obtain ⟨p1, p2, n1⟩ := f.range
  obtain ⟨q1, q2, m1⟩ := fq.range
  by_cases hlt : i < s.size
  · have NX : ∀ (n m : Nat) (p q : Int) a', Fd 58 s (i + 1) n p → Fd 35 s (i + 1) m q → Fr a' 108 → sl a' 0 = .string s → sl a' 1 = .bool fm → sl a' 12 = .int .i64 (i + 1) → sl a' 8 = .int .i64 n → sl a' 9 = .int .i64 m → sl a' 10 = .int .i64 p → sl a' 11 = .int .i64 q → sl a' 4 = .string ⟨#[]⟩ → sl a' 5 = .string ⟨#[]⟩ → sl a' 6 = .string ⟨#[]⟩ → sl a' 7 = .bool false → Handed J1 (s.size - i) a' wr := by
      intro n m p q a' f1 f2 e0 e1 e2 e3 e4 e5 e6 e7 e8 e9 e10 e11
      exact Handed.intro (s.size - (i + 1)) (by omega) (hJ1 _ _ _ ⟨e0, e1, e2, rfl, i + 1, n, m, p, q, by rw [e3]; simp, e4, e5, e6, e7, by omega, rfl, f1, f2, e8, e9, e10, e11⟩)
    have NX2 := Shut.mk NX
    clear NX hJ1
    have c0 := s[i].toNat_lt
    by_cases b58 : s[i] = 58
    · have b35 : s[i] ≠ 35 := by rw [b58]; decide
      have t58 : s[i].toNat = 58 := by rw [b58]; rfl
      have e58 : ((s[i].toNat : Int) == 58) = true := by rw [t58]; rfl
      have e35 : ((s[i].toNat : Int) == 35) = false := by rw [t58]; rfl
      have FQ := hide (fq.skip hlt b35)
      by_cases hp : p < 0
      · have FP := hide (f.first hlt b58 hp)
        clear f fq b58 b35 t58
        go_wp2
        exact NX2.out (n + 1) m i q _ FP.out FQ.out ⟨rfl, rfl⟩ rfl rfl rfl rfl rfl rfl rfl rfl rfl rfl rfl
      · have FP := hide (f.more hlt b58 (by omega))
        clear f fq b58 b35 t58
        go_wp2
        exact NX2.out (n + 1) m p q _ FP.out FQ.out ⟨rfl, rfl⟩ rfl rfl rfl rfl rfl rfl rfl rfl rfl rfl rfl
    have e58 : ((s[i].toNat : Int) == 58) = false := by
      have : ¬ s[i].toNat = 58 := fun h => b58 (UInt8.toNat_inj.1 h)
      simp; omega
    have FP := hide (f.skip hlt b58)
    by_cases b35 : s[i] = 35
    · have t35 : s[i].toNat = 35 := by rw [b35]; rfl
      have e35 : ((s[i].toNat : Int) == 35) = true := by rw [t35]; rfl
      by_cases hq : q < 0
      · have FQ := hide (fq.first hlt b35 hq)
        clear f fq b58 b35 t35
        go_wp2
        exact NX2.out n (m + 1) p i _ FP.out FQ.out ⟨rfl, rfl⟩ rfl rfl rfl rfl rfl rfl rfl rfl rfl rfl rfl
      · have FQ := hide (fq.more hlt b35 (by omega))
        clear f fq b58 b35 t35
        go_wp2
        exact NX2.out n (m + 1) p q _ FP.out FQ.out ⟨rfl, rfl⟩ rfl rfl rfl rfl rfl rfl rfl rfl rfl rfl rfl
    have e35 : ((s[i].toNat : Int) == 35) = false := by
      have : ¬ s[i].toNat = 35 := fun h => b35 (UInt8.toNat_inj.1 h)
      simp; omega
    have FQ := hide (fq.skip hlt b35)
    clear f fq b58 b35
    go_wp2
    exact NX2.out n m p q _ FP.out FQ.out ⟨rfl, rfl⟩ rfl rfl rfl rfl rfl rfl rfl rfl rfl rfl rfl
  clear hJ1 hK1
  have HB := Below.refl wr.heap.size wr
  have hall := f.all (by omega)
  have hallq := fq.all (by omega)
  by_cases hn : n = 1
  case neg =>
    have hp := Shut.mk (mu_colon (fm := fm) (s := s) (by omega))
    have en : ((n : Int) != 1) = true := by simp; omega
    clear f fq hall hallq hn
    go_wp2
    exact mu_ret rfl rfl rfl rfl rfl ⟨mu_false hp.out, HB⟩
  subst hn
  by_cases hm : 1 < m
  case pos =>
    have hp := Shut.mk (mu_hash (fm := fm) (s := s) (by omega))
    clear f fq hall hallq
    go_wp2
    exact mu_ret rfl rfl rfl rfl rfl ⟨mu_false hp.out, HB⟩
  by_cases hm0 : m = 0
  case pos =>
    subst hm0
    obtain ⟨k, rfl, k1, k2, k3, k4, k5⟩ := mu_one (fm := fm) f fq (by omega) (by omega)
    have hst := star_eq (s.extract (k + 1) s.size)
    have K2 := Shut.mk k2
    have K3 := Shut.mk k3
    have K4 := Shut.mk k4
    clear f fq hall hallq k2 k3 k4
    cases hA : nameOK fm (s.extract 0 k).data.toList with
    | false =>
      have hF := Shut.mk (show puOK fm s = false by rw [k5, hA]; rfl)
      clear k5 hst
      go_wp2_with (go_at_call 18; refine (zzNameOK _ fm (ext_size _ _ _ hs) _).mono ?_; rintro e w1 ⟨he, hb1⟩; (first | rw [hA] at he | rw [hB] at he | rw [hC] at he); subst he; replace HB := bstep HB hb1; clear hb1)
      exact mu_ret rfl rfl rfl rfl rfl ⟨mu_false hF.out, HB⟩
    | true =>
      cases hS : ((s.extract (k + 1) s.size).toList == [42]) with
      | true =>
        have hF := Shut.mk (show puOK fm s = true by rw [k5, hA, ← hst, hS]; rfl)
        clear k5 hst
        go_wp2_with (go_at_call 18; refine (zzNameOK _ fm (ext_size _ _ _ hs) _).mono ?_; rintro e w1 ⟨he, hb1⟩; (first | rw [hA] at he | rw [hB] at he | rw [hC] at he); subst he; replace HB := bstep HB hb1; clear hb1)
        exact mu_ret rfl rfl rfl rfl rfl ⟨mu_true hF.out K2.out K3.out K4.out, HB⟩
      | false =>
        cases hB : nameOK fm (s.extract (k + 1) s.size).data.toList with
        | false =>
          have hF := Shut.mk (show puOK fm s = false by rw [k5, hA, ← hst, hS, hB]; rfl)
          clear k5 hst
          go_wp2_with (go_at_call 18; refine (zzNameOK _ fm (ext_size _ _ _ hs) _).mono ?_; rintro e w1 ⟨he, hb1⟩; (first | rw [hA] at he | rw [hB] at he | rw [hC] at he); subst he; replace HB := bstep HB hb1; clear hb1)
          exact mu_ret rfl rfl rfl rfl rfl ⟨mu_false hF.out, HB⟩
        | true =>
          have hF := Shut.mk (show puOK fm s = true by rw [k5, hA, ← hst, hS, hB]; rfl)
          clear k5 hst
          go_wp2_with (go_at_call 18; refine (zzNameOK _ fm (ext_size _ _ _ hs) _).mono ?_; rintro e w1 ⟨he, hb1⟩; (first | rw [hA] at he | rw [hB] at he | rw [hC] at he); subst he; replace HB := bstep HB hb1; clear hb1)
          exact mu_ret rfl rfl rfl rfl rfl ⟨mu_true hF.out K2.out K3.out K4.out, HB⟩
  have hm1 : m = 1 := by omega
  subst hm1
  by_cases hqp : q < p
  case pos =>
    have hp := Shut.mk (mu_order (fm := fm) f fq (by omega) (by omega) hqp)
    clear f fq hall hallq
    go_wp2
    exact mu_ret rfl rfl rfl rfl rfl ⟨mu_false hp.out, HB⟩
  obtain ⟨k, l, rfl, rfl, k1, l1, k2, k3, k4, k5⟩ := mu_two (fm := fm) f fq (by omega) (by omega) hqp
  have K2 := Shut.mk k2
  have K3 := Shut.mk k3
  have K4 := Shut.mk k4
  clear f fq hall hallq k2 k3 k4
  cases hA : nameOK fm (s.extract 0 k).data.toList with
  | false =>
    have hF := Shut.mk (show puOK fm s = false by rw [k5, hA]; rfl)
    clear k5
    go_wp2_with (go_at_call 18; refine (zzNameOK _ fm (ext_size _ _ _ hs) _).mono ?_; rintro e w1 ⟨he, hb1⟩; (first | rw [hA] at he | rw [hB] at he | rw [hC] at he); subst he; replace HB := bstep HB hb1; clear hb1)
    exact mu_ret rfl rfl rfl rfl rfl ⟨mu_false hF.out, HB⟩
  | true =>
    cases hB : nameOK fm (s.extract (k + 1) l).data.toList with
    | false =>
      have hF := Shut.mk (show puOK fm s = false by rw [k5, hA, hB]; rfl)
      clear k5
      go_wp2_with (go_at_call 18; refine (zzNameOK _ fm (ext_size _ _ _ hs) _).mono ?_; rintro e w1 ⟨he, hb1⟩; (first | rw [hA] at he | rw [hB] at he | rw [hC] at he); subst he; replace HB := bstep HB hb1; clear hb1)
      exact mu_ret rfl rfl rfl rfl rfl ⟨mu_false hF.out, HB⟩
    | true =>
      cases hC : nameOK fm (s.extract (l + 1) s.size).data.toList with
      | false =>
        have hF := Shut.mk (show puOK fm s = false by rw [k5, hA, hB, hC]; rfl)
        clear k5
        go_wp2_with (go_at_call 18; refine (zzNameOK _ fm (ext_size _ _ _ hs) _).mono ?_; rintro e w1 ⟨he, hb1⟩; (first | rw [hA] at he | rw [hB] at he | rw [hC] at he); subst he; replace HB := bstep HB hb1; clear hb1)
        exact mu_ret rfl rfl rfl rfl rfl ⟨mu_false hF.out, HB⟩
      | true =>
        have hF := Shut.mk (show puOK fm s = true by rw [k5, hA, hB, hC]; rfl)
        clear k5
        go_wp2_with (go_at_call 18; refine (zzNameOK _ fm (ext_size _ _ _ hs) _).mono ?_; rintro e w1 ⟨he, hb1⟩; (first | rw [hA] at he | rw [hB] at he | rw [hC] at he); subst he; replace HB := bstep HB hb1; clear hb1)
        exact mu_ret rfl rfl rfl rfl rfl ⟨mu_true hF.out K2.out K3.out K4.out, HB⟩

end Go.Proofs.Qxb6606413aFmt

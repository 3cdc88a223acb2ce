import Derived.Test.Qxb6606138aDoorW4
import Derived.Deep.LoopGhost
import Derived.Deep.DeepCutAuto
import Derived.Test.Qxb6606138aDoorFrame
namespace Go.Proofs.Qxb6606138aDoor
open Go.RowKit

theorem St.setF {w0 w : World} {S O F B cap N : Nat} {fv tv : Value} {l fw bw : List Int} (h : St w0 w S O F B cap N fv tv l fw bw) (i : Nat) (v : Int) : St w0 (w.setCell ⟨F, i, none⟩ (.int .i64 v)) S O F B cap N fv tv l (fw.set i v) bw := by
  refine { h with struct' := h.struct'.set_ne _ (fun e => h.sf e.symm), ops := ?_, fwd := h.fwd.set i v, fl := by simpa using h.fl, bwd := h.bwd.set_ne _ h.fb, below := h.below.setCell h.f0 _ }
  obtain ⟨h1, h2⟩ := h.ops
  refine ⟨h1, ?_⟩
  rcases h2 with h2 | ⟨g, cp, cur, hv, hg2, hh, r⟩
  · exact Or.inl h2
  · have hO : g = O := by unfold opv at hv; simp at hv; exact hv.1.symm
    subst hO
    exact Or.inr ⟨g, cp, cur, hv, hg2, by rw [Below.heap_setCell _ _ _ _ h.of]; exact hh, r⟩

theorem St.setB {w0 w : World} {S O F B cap N : Nat} {fv tv : Value} {l fw bw : List Int} (h : St w0 w S O F B cap N fv tv l fw bw) (i : Nat) (v : Int) : St w0 (w.setCell ⟨B, i, none⟩ (.int .i64 v)) S O F B cap N fv tv l fw (bw.set i v) := by
  refine { h with struct' := h.struct'.set_ne _ (fun e => h.sb e.symm), ops := ?_, bwd := h.bwd.set i v, bl := by simpa using h.bl, fwd := h.fwd.set_ne _ (fun e => h.fb e.symm), below := h.below.setCell h.b0 _ }
  obtain ⟨h1, h2⟩ := h.ops
  refine ⟨h1, ?_⟩
  rcases h2 with h2 | ⟨g, cp, cur, hv, hg2, hh, r⟩
  · exact Or.inl h2
  · have hO : g = O := by unfold opv at hv; simp at hv; exact hv.1.symm
    subst hO
    exact Or.inr ⟨g, cp, cur, hv, hg2, by rw [Below.heap_setCell _ _ _ _ h.ob]; exact hh, r⟩

theorem odd_iff (n m : Nat) : (((n : Int) - m).tmod 2 != 0) = true ↔ (n + m) % 2 = 1 := by
  rw [bne_iff_ne, Ne, ← Int.dvd_iff_tmod_eq_zero]
  omega

/-- The search as a round begins. -/
structure Srch (M : Nat → Nat → Prop) (n m c d : Nat) (fw bw : List Int) : Prop where
  pf : My.Prev M d c fw
  pb : My.Prev (My.Rev M n m) d c bw
  least : My.Least M n m (2 * d - (n + m) % 2)

/-- The forward half of a round, as its step on diagonal k begins. -/
structure Half (M : Nat → Nat → Prop) (n m c d : Nat) (k : Int) (fw bw : List Int) : Prop where
  pf : My.Prev M d c fw
  df : My.Done M d c k fw
  pb : My.Prev (My.Rev M n m) d c bw
  least : My.Least M n m (2 * d - (n + m) % 2)
  nom : (n + m) % 2 = 1 → My.Nom c n d ((n : Int) - m) ((d : Int) - 1) k fw bw

theorem Srch.start {M : Nat → Nat → Prop} {n m c : Nat} {fw bw : List Int} (hf : c + 1 < fw.length) (hb : c + 1 < bw.length) : Srch M n m c 0 (fw.set (c + 1) 0) (bw.set (c + 1) 0) :=
  ⟨⟨fun _ => by rw [My.getD_set' _ _ _ _ hf, if_pos rfl], fun e he => by omega⟩, ⟨fun _ => by rw [My.getD_set' _ _ _ _ hb, if_pos rfl], fun e he => by omega⟩, fun l _ => by omega⟩

theorem Srch.half {M : Nat → Nat → Prop} {n m c d : Nat} {fw bw : List Int} (h : Srch M n m c d fw bw) : Half M n m c d (-(d : Int)) fw bw :=
  ⟨h.pf, fun j h1 h2 => by omega, h.pb, h.least, fun _ j h1 h2 => by omega⟩

/-- The step's answer laid into the row. -/
theorem Half.next {M : Nat → Nat → Prop} {n m c d : Nat} {k : Int} {fw bw : List Int} (h : Half M n m c d k fw bw) (hpar : (k - d) % 2 = 0) (hk : -(d : Int) ≤ k) (hc : d < c) (i : Nat) (hi : i = ((c : Int) + k).toNat) (hlen : i < fw.length) {x : Int} (hf : My.Far M d k x)
    (hv : (n + m) % 2 = 1 → -((d : Int) - 1) ≤ (n : Int) - m - k → (n : Int) - m - k ≤ (d : Int) - 1 → x < (n : Int) - bw.getD ((c : Int) + ((n : Int) - m - k)).toNat 0) : Half M n m c d (k + 2) (fw.set i x) bw := by
  subst hi
  exact ⟨My.Prev_set h.pf hpar hk hc hlen x, My.Done_set h.df hpar hk hc hlen hf, h.pb, h.least, fun ho => My.Nom_set (h.nom ho) hpar hk hc hlen (hv ho)⟩

/-- The backward half of a round, as its step on diagonal k begins. -/
structure Half2 (M : Nat → Nat → Prop) (n m c d : Nat) (k : Int) (fw bw : List Int) : Prop where
  df : My.Done M d c (d + 1) fw
  pb : My.Prev (My.Rev M n m) d c bw
  db : My.Done (My.Rev M n m) d c k bw
  leastE : (n + m) % 2 = 0 → My.Least M n m (2 * d)
  leastO : (n + m) % 2 = 1 → My.Least M n m (2 * (d + 1) - 1)
  mon : (n + m) % 2 = 0 → My.Mon c n d ((n : Int) - m) k fw bw

theorem Half.turn {M : Nat → Nat → Prop} {n m c d : Nat} {k : Int} {fw bw : List Int} (h : Half M n m c d k fw bw) (hk : (d : Int) < k) : Half2 M n m c d (-(d : Int)) fw bw :=
  ⟨fun j h1 h2 h3 => h.df j h1 (by omega) h3, h.pb, fun j h1 h2 => by omega, fun he => by have := h.least; rwa [he, Nat.sub_zero] at this,
    fun ho => My.least_odd (by have := h.least; rwa [ho] at this) ho hk h.df h.pb (h.nom ho), fun _ j h1 h2 => by omega⟩

theorem Half2.next {M : Nat → Nat → Prop} {n m c d : Nat} {k : Int} {fw bw : List Int} (h : Half2 M n m c d k fw bw) (hpar : (k - d) % 2 = 0) (hk : -(d : Int) ≤ k) (hc : d < c) (i : Nat) (hi : i = ((c : Int) + k).toNat) (hlen : i < bw.length) {x : Int} (hf : My.Far (My.Rev M n m) d k x)
    (hv : (n + m) % 2 = 0 → -(d : Int) ≤ (n : Int) - m - k → (n : Int) - m - k ≤ d → fw.getD ((c : Int) + ((n : Int) - m - k)).toNat 0 < (n : Int) - x) : Half2 M n m c d (k + 2) fw (bw.set i x) := by
  subst hi
  exact ⟨h.df, My.Prev_set h.pb hpar hk hc hlen x, My.Done_set h.db hpar hk hc hlen hf, h.leastE, h.leastO, fun he => My.Mon_set (h.mon he) hpar hk hc hlen (hv he)⟩

theorem Half2.last {M : Nat → Nat → Prop} {n m c d : Nat} {k : Int} {fw bw : List Int} (h : Half2 M n m c d k fw bw) (hk : (d : Int) < k) : Srch M n m c (d + 1) fw bw := by
  refine ⟨My.Prev_next h.df (by omega), My.Prev_next h.db hk, ?_⟩
  by_cases hp : (n + m) % 2 = 1
  · rw [hp]; exact h.leastO hp
  · have hp : (n + m) % 2 = 0 := by omega
    rw [hp, Nat.sub_zero]
    exact My.least_even (h.leastE hp) hp hk (by omega) h.df h.db (h.mon hp)

theorem tup4 {a b c d a' b' c' d' : Int} (h1 : a = a') (h2 : b = b') (h3 : c = c') (h4 : d = d') :
    #[Value.int .i64 a, Value.int .i64 b, Value.int .i64 c, Value.int .i64 d] = #[Value.int .i64 a', Value.int .i64 b', Value.int .i64 c', Value.int .i64 d'] := by
  subst h1 h2 h3 h4; rfl

theorem results_tmp4 {fn : Func} {t u v x : Tmp} (h : fn.results = #[.tmp t, .tmp u, .tmp v, .tmp x]) (tmps : Array Value) (P : Program) (w : World) :
    (results fn tmps).run P w = .ok (.tuple #[tmps.getD t undef, tmps.getD u undef, tmps.getD v undef, tmps.getD x undef]) w := by
  simp [results, h]

/-- Where the matches from (s, ys) on end. -/
structure Ends (M : Nat → Nat → Prop) (s ys : Nat) (vx vy : Value) : Prop where
  out : ∃ c : Nat, vx = .int .i64 ((s + c : Nat) : Int) ∧ vy = .int .i64 ((ys + c : Nat) : Int) ∧ (∀ i, i < c → M (s + i) (ys + i)) ∧ ¬ M (s + c) (ys + c)

/-- The test's answer: from which side the step comes. -/
structure Pick (v : Value) (fL fR : Int) (s : Nat) : Prop where
  out : ∃ bd : Bool, v = .bool bd ∧ (bd = true → fR = s) ∧ (bd = false → fL = (s : Int) - 1)

/-- The slots of middleSnake's frame that stand while its loops run. -/
structure Kept30 (a : Act) (S F B N fl tl n m q : Nat) (odd : Bool) : Prop where
  df : a.defers = []
  sz : a.tmps.size = 368
  s0 : sl a 0 = .pointer (some ⟨S, 0, none⟩)
  s1 : sl a 1 = .int .i64 fl
  s2 : sl a 2 = .int .i64 ((fl : Int) + n)
  s3 : sl a 3 = .int .i64 tl
  s4 : sl a 4 = .int .i64 ((tl : Int) + m)
  s14 : sl a 14 = .int .i64 n
  s15 : sl a 15 = .int .i64 m
  s16 : sl a 16 = .int .i64 ((n : Int) - m)
  s17 : sl a 17 = .bool odd
  s18 : sl a 18 = .int .i64 q
  s19 : sl a 19 = .int .i64 ((q : Int) + 1)
  s20 : sl a 20 = .slice (some ⟨F, 0, none⟩) N N
  s21 : sl a 21 = .slice (some ⟨B, 0, none⟩) N N

set_option maxRecDepth 100000 in
set_option maxHeartbeats 4000000 in
theorem snake_any (w0 : World) (S O F B cap N : Nat) (aF aT : Option Addr) (nF nT cF cT : Nat) (l fw bw : List Int) (X Y : List ByteArray) (hX : X.length = nF) (hY : Y.length = nT) (hnF : nF ≤ 4096) (hnT : nT ≤ 4096)
    (hrF : Rd w0 aF nF (sv X)) (hrT : Rd w0 aT nT (sv Y)) (fl tl n m : Nat) (hfh : fl + n ≤ nF) (hth : tl + m ≤ nT) (hn : 1 ≤ n) (hm : 1 ≤ m) (hN : 2 * ((n + m + 1) / 2) + 3 ≤ N) 
    (hfirst : ¬ My.Win (Eqs X Y) fl tl n m 0 0) (hlast : ¬ My.Win (Eqs X Y) fl tl n m (n - 1) (m - 1)) (hdist : ∃ l, My.Vs (My.Win (Eqs X Y) fl tl n m) l 0 0 n m ∧ My.cost l ≤ 2048)
    (w : World) (h : St w0 w S O F B cap N (.slice aF nF cF) (.slice aT nT cT) l fw bw) :
    Calls Tryd.prog 30 #[.pointer (some ⟨S, 0, none⟩), .int .i64 fl, .int .i64 ((fl : Int) + n), .int .i64 tl, .int .i64 ((tl : Int) + m)] w fun e w' =>
      ∃ (x y u v : Nat) (fw' bw' : List Int), e = .returned (.tuple #[.int .i64 ((fl : Int) + x), .int .i64 ((tl : Int) + y), .int .i64 ((fl : Int) + u), .int .i64 ((tl : Int) + v)]) ∧
        My.Mid (My.Win (Eqs X Y) fl tl n m) n m x y u v ∧ St w0 w' S O F B cap N (.slice aF nF cF) (.slice aT nT cT) l fw' bw' := by
  have s3 : w.cell? ⟨S, 3, none⟩ = some (.slice (some ⟨F, 0, none⟩) N N) := h.struct'.cell rfl
  have s4 : w.cell? ⟨S, 4, none⟩ = some (.slice (some ⟨B, 0, none⟩) N N) := h.struct'.cell rfl
  go_enter Tryd.func30, Tryd.ntmps30
  go_wp2
  go_quiet (fail)
  go_upto_region 7 with fail
  have e1 : (fl : Int) + n - fl = n := by omega
  have e2 : (tl : Int) + m - tl = m := by omega
  have e3 : ((n : Int) + m + 1) / 2 = (((n + m + 1) / 2 : Nat) : Int) := by omega
  rw [e1, e2, e3]
  clear e1 e2 e3
  obtain ⟨q, Hq⟩ : ∃ q, Hid (q = (n + m + 1) / 2) := ⟨_, rfl⟩
  rw [show (n + m + 1) / 2 = q from Hq.out.symm]
  obtain ⟨odd, Hodd⟩ : ∃ odd : Bool, Hid ((((n : Int) - m).tmod 2 != 0) = odd) := ⟨_, rfl⟩
  rw [show (((n : Int) - m).tmod 2 != 0) = odd from Hodd.out]
  have hq1 : 2 * q ≤ n + m + 1 := by have := Hq.out; omega
  have hq2 : n + m ≤ 2 * q := by have := Hq.out; omega
  have hq3 : 2 * q + 3 ≤ N := by have := Hq.out; omega
  clear hN
  have c1 := h.fwd.cell (i := q + 2) (by rw [h.fl]; omega)
  have c2 := h.bwd.cell (i := q + 2) (by rw [h.bl]; omega)
  have f1 := h.fwd.frozen (q + 2)
  have f2 := h.bwd.frozen (q + 2)
  have c2' : (w.setCell ⟨F, q + 2, none⟩ (.int .i64 0)).cell? ⟨B, q + 2, none⟩ = some (.int .i64 (bw.getD (q + 2) 0)) := (h.bwd.set_ne _ h.fb).cell (by rw [h.bl]; omega)
  have f2' : (w.setCell ⟨F, q + 2, none⟩ (.int .i64 0)).frozen? ⟨B, q + 2, none⟩ = false := (h.bwd.set_ne _ h.fb).frozen _
  generalize bw.getD (q + 2) 0 = b0 at c2 c2'
  generalize fw.getD (q + 2) 0 = b1 at c1
  have hfb : ¬ F = B := h.fb
  have hbf : ¬ B = F := fun e => h.fb e.symm
  have XS : Hid (St w0 w S O F B cap N (.slice aF nF cF) (.slice aT nT cT) l fw bw) := h
  clear h s3 s4
  go_wp2
  have Y1 : Hid (St w0 (((w.drewN nq).setCell ⟨F, q + 2, none⟩ (.int .i64 0)).setCell ⟨B, q + 2, none⟩ (.int .i64 0)) S O F B cap N (.slice aF nF cF) (.slice aT nT cT) l (fw.set (q + 2) 0) (bw.set (q + 2) 0)) := ((XS.out.drewN nq).setF _ _).setB _ _
  have Y2 : Hid (Srch (My.Win (Eqs X Y) fl tl n m) n m (q + 1) 0 (fw.set (q + 2) 0) (bw.set (q + 2) 0)) := Srch.start (by rw [XS.out.fl]; omega) (by rw [XS.out.bl]; omega)
  clear c1 c2 f1 f2 c2' f2' XS
  refine wp_loop_ghost_k (fun g a wr => Kept30 a S F B N fl tl n m q odd ∧ ∃ (d : Nat) (fw bw : List Int), d ≤ q + 1 ∧ d ≤ 1024 ∧ g = q + 1 - d ∧ sl a 22 = .int .i64 d ∧ St w0 wr S O F B cap N (.slice aF nF cF) (.slice aT nT cT) l fw bw ∧ Srch (My.Win (Eqs X Y) fl tl n m) n m (q + 1) d fw bw) (q + 1) ?_ ?_
  · exact ⟨⟨rfl, rfl, rfl, rfl, rfl, rfl, rfl, rfl, rfl, rfl, rfl, rfl, rfl, rfl, rfl⟩, 0, _, _, by omega, by omega, rfl, rfl, Y1.out, Y2.out⟩
  · clear Y1 Y2
    rintro g a wr ⟨hk, d, fw, bw, hdq, hdc, rfl, h22, hst, hsr⟩ J1 K1 hJ1 hK1
    obtain ⟨u, hu, ha⟩ := frame368 a hk.df hk.sz
    have e0 := hk.s0
    have e1 := hk.s1
    have e2 := hk.s2
    have e3 := hk.s3
    have e4 := hk.s4
    have e14 := hk.s14
    have e15 := hk.s15
    have e16 := hk.s16
    have e17 := hk.s17
    have e18 := hk.s18
    have e19 := hk.s19
    have e20 := hk.s20
    have e21 := hk.s21
    rw [hu] at e0 e1 e2 e3 e4 e14 e15 e16 e17 e18 e19 e20 e21 h22
    subst ha
    clear hk hu
    simp only [e0, e1, e2, e3, e4, e14, e15, e16, e17, e18, e19, e20, e21, h22]
    clear e0 e1 e2 e3 e4 e14 e15 e16 e17 e18 e19 e20 e21 h22
    by_cases hdle : d ≤ q
    · have Y1 : Hid (St w0 wr S O F B cap N (.slice aF nF cF) (.slice aT nT cT) l fw bw) := hst
      have Y2 : Hid (Half (My.Win (Eqs X Y) fl tl n m) n m (q + 1) d (-(d : Int)) fw bw) := hsr.half
      clear hst hsr
      go_wp2
      refine wp_loop_ghost_k (fun g a wr => Kept30 a S F B N fl tl n m q odd ∧ sl a 22 = .int .i64 d ∧ ∃ (k : Int) (fw : List Int), -(d : Int) ≤ k ∧ k ≤ d + 2 ∧ (k - d) % 2 = 0 ∧ 2 * (g : Int) = d + 2 - k ∧ sl a 23 = .int .i64 k ∧ St w0 wr S O F B cap N (.slice aF nF cF) (.slice aT nT cT) l fw bw ∧ Half (My.Win (Eqs X Y) fl tl n m) n m (q + 1) d k fw bw) (d + 1) ?_ ?_
      · exact ⟨⟨rfl, rfl, rfl, rfl, rfl, rfl, rfl, rfl, rfl, rfl, rfl, rfl, rfl, rfl, rfl⟩, rfl, -(d : Int), _, by omega, by omega, by omega, by omega, rfl, Y1.out, Y2.out⟩
      · clear Y1 Y2 u
        rintro g a wr ⟨hk, h22, k, fw, hk1, hk2, hkp, hg, h23, hst, hhf⟩ J2 K2 hJ2 hK2
        obtain ⟨u, hu, ha⟩ := frame368 a hk.df hk.sz
        have e0 := hk.s0
        have e1 := hk.s1
        have e2 := hk.s2
        have e3 := hk.s3
        have e4 := hk.s4
        have e14 := hk.s14
        have e15 := hk.s15
        have e16 := hk.s16
        have e17 := hk.s17
        have e18 := hk.s18
        have e19 := hk.s19
        have e20 := hk.s20
        have e21 := hk.s21
        rw [hu] at e0 e1 e2 e3 e4 e14 e15 e16 e17 e18 e19 e20 e21 h22 h23
        subst ha
        clear hk hu
        simp only [e0, e1, e2, e3, e4, e14, e15, e16, e17, e18, e19, e20, e21, h22, h23]
        clear e0 e1 e2 e3 e4 e14 e15 e16 e17 e18 e19 e20 e21 h22 h23
        by_cases hkd : k ≤ d
        · obtain ⟨s, ys, es, hbeg⟩ := My.beg hhf.pf hkp hk1 hkd (by omega)
          have Z2 : Hid (Half (My.Win (Eqs X Y) fl tl n m) n m (q + 1) d k fw bw) := hhf
          rw [show ((q + 1 : Nat) : Int) + k - 1 = (q : Int) + 1 + k - 1 by omega, show ((q + 1 : Nat) : Int) + k + 1 = (q : Int) + 1 + k + 1 by omega, show ((q : Int) + 1 + k - 1).toNat = ((q : Int) + 1 + k).toNat - 1 by omega] at es
          have i1 := hst.fwd.cell (i := ((q : Int) + 1 + k).toNat - 1) (by rw [hst.fl]; omega)
          have i2 := hst.fwd.cell (i := ((q : Int) + 1 + k + 1).toNat) (by rw [hst.fl]; omega)
          obtain ⟨fL, HL⟩ : ∃ fL, Hid (fw.getD (((q : Int) + 1 + k).toNat - 1) 0 = fL) := ⟨_, rfl⟩
          obtain ⟨fR, HR⟩ : ∃ fR, Hid (fw.getD ((q : Int) + 1 + k + 1).toNat 0 = fR) := ⟨_, rfl⟩
          rw [HL.out] at es i1
          rw [HR.out] at es i2
          have Z1 : Hid (St w0 wr S O F B cap N (.slice aF nF cF) (.slice aT nT cT) l fw bw) := hst
          have Hbeg : Hid (My.Beg (My.Win (Eqs X Y) fl tl n m) d k s ys) := hbeg
          have hsb := hbeg.bound (My.Win_in (M := Eqs X Y))
          have hdg := hbeg.diag
          have Hdg : Hid ((s : Int) - ys = k) := hdg
          have Hes : Hid (My.from' d k fL fR = s) := es
          clear hst hhf hbeg hdg es
          go_upto_region 15 with fail
          rename_i Ka hKa
          have h15 : ∀ a w', Kept30 a S F B N fl tl n m q odd ∧ sl a 22 = .int .i64 d ∧ sl a 23 = .int .i64 k ∧ Pick (sl a 109) fL fR s ∧ St w0 w' S O F B cap N (.slice aF nF cF) (.slice aT nT cT) l fw bw → Ka a w' := by
            clear i1 i2 Z1 u
            rintro a wr ⟨hk, h22, h23, ⟨⟨bd, h109, hb1, hb2⟩⟩, hst⟩
            obtain ⟨u, hu, ha⟩ := frame368 a hk.df hk.sz
            have e0 := hk.s0
            have e1 := hk.s1
            have e2 := hk.s2
            have e3 := hk.s3
            have e4 := hk.s4
            have e14 := hk.s14
            have e15 := hk.s15
            have e16 := hk.s16
            have e17 := hk.s17
            have e18 := hk.s18
            have e19 := hk.s19
            have e20 := hk.s20
            have e21 := hk.s21
            rw [hu] at e0 e1 e2 e3 e4 e14 e15 e16 e17 e18 e19 e20 e21 h22 h23 h109
            subst ha
            clear hk hu
            simp only [e0, e1, e2, e3, e4, e14, e15, e16, e17, e18, e19, e20, e21, h22, h23, h109]
            clear e0 e1 e2 e3 e4 e14 e15 e16 e17 e18 e19 e20 e21 h22 h23 h109
            have i1 := hst.fwd.cell (i := ((q : Int) + 1 + k).toNat - 1) (by rw [hst.fl]; omega)
            have i2 := hst.fwd.cell (i := ((q : Int) + 1 + k + 1).toNat) (by rw [hst.fl]; omega)
            rw [HL.out] at i1
            rw [HR.out] at i2
            have Z1 : Hid (St w0 wr S O F B cap N (.slice aF nF cF) (.slice aT nT cT) l fw bw) := hst
            clear hst
            refine hKa _ _ ?_
            go_upto_if 109 with fail
            rename_i Kb hKb
            have hcut : ∀ a w', Kept30 a S F B N fl tl n m q odd ∧ sl a 22 = .int .i64 d ∧ sl a 23 = .int .i64 k ∧ sl a 24 = .int .i64 s ∧ St w0 w' S O F B cap N (.slice aF nF cF) (.slice aT nT cT) l fw bw → Kb a w' := by
              clear i1 i2 Z1 u hb1 hb2 HL HR Hes
              rintro a wr ⟨hk, h22, h23, h24, hst⟩
              obtain ⟨u, hu, ha⟩ := frame368 a hk.df hk.sz
              have e0 := hk.s0
              have e1 := hk.s1
              have e2 := hk.s2
              have e3 := hk.s3
              have e4 := hk.s4
              have e14 := hk.s14
              have e15 := hk.s15
              have e16 := hk.s16
              have e17 := hk.s17
              have e18 := hk.s18
              have e19 := hk.s19
              have e20 := hk.s20
              have e21 := hk.s21
              rw [hu] at e0 e1 e2 e3 e4 e14 e15 e16 e17 e18 e19 e20 e21 h22 h23 h24
              subst ha
              clear hk hu
              simp only [e0, e1, e2, e3, e4, e14, e15, e16, e17, e18, e19, e20, e21, h22, h23, h24]
              clear e0 e1 e2 e3 e4 e14 e15 e16 e17 e18 e19 e20 e21 h22 h23 h24
              have Z1 : Hid (St w0 wr S O F B cap N (.slice aF nF cF) (.slice aT nT cT) l fw bw) := hst
              clear hst
              refine hKb _ _ ?_
              clear hKb
              go_wp2
              rename_i Kc hKc
              have hend : ∀ a w', Kept30 a S F B N fl tl n m q odd ∧ sl a 22 = .int .i64 d ∧ sl a 23 = .int .i64 k ∧ sl a 26 = .int .i64 s ∧ sl a 27 = .int .i64 ys ∧ Ends (My.Win (Eqs X Y) fl tl n m) s ys (sl a 24) (sl a 25) ∧ St w0 w' S O F B cap N (.slice aF nF cF) (.slice aT nT cT) l fw bw → Kc a w' := by
                clear Z1 u
                rintro a wr ⟨hk, h22, h23, h26, h27, ⟨⟨c, h24, h25, hrun, hstop⟩⟩, hst⟩
                have hfar := Hbeg.out.far hrun hstop
                obtain ⟨x, hx⟩ : ∃ x, x = s + c := ⟨_, rfl⟩
                obtain ⟨y, hy⟩ : ∃ y, y = ys + c := ⟨_, rfl⟩
                rw [← hx] at h24 hfar
                rw [← hy] at h25
                have hfb1 := My.far_bound (My.Win_in (M := Eqs X Y)) hfar
                have hyk : (x : Int) - y = k := by have := Hdg.out; omega
                have hybd : (y : Int) ≤ m + d := by omega
                obtain ⟨u, hu, ha⟩ := frame368 a hk.df hk.sz
                have e0 := hk.s0
                have e1 := hk.s1
                have e2 := hk.s2
                have e3 := hk.s3
                have e4 := hk.s4
                have e14 := hk.s14
                have e15 := hk.s15
                have e16 := hk.s16
                have e17 := hk.s17
                have e18 := hk.s18
                have e19 := hk.s19
                have e20 := hk.s20
                have e21 := hk.s21
                rw [hu] at e0 e1 e2 e3 e4 e14 e15 e16 e17 e18 e19 e20 e21 h22 h23 h24 h25 h26 h27
                subst ha
                clear hk hu
                simp only [e0, e1, e2, e3, e4, e14, e15, e16, e17, e18, e19, e20, e21, h22, h23, h24, h25, h26, h27]
                clear e0 e1 e2 e3 e4 e14 e15 e16 e17 e18 e19 e20 e21 h22 h23 h24 h25 h26 h27
                have Hx : Hid (x = s + c) := hx
                have Hy : Hid (y = ys + c) := hy
                have Hrun : Hid (∀ i, i < c → My.Win (Eqs X Y) fl tl n m (s + i) (ys + i)) := hrun
                have f1 := hst.fwd.frozen ((q : Int) + 1 + k).toNat
                have g1 := hst.fwd.cell (i := ((q : Int) + 1 + k).toNat) (by rw [hst.fl]; omega)
                generalize fw.getD ((q : Int) + 1 + k).toNat 0 = old at g1
                have V : Hid (St w0 (wr.setCell ⟨F, ((q : Int) + 1 + k).toNat, none⟩ (.int .i64 x)) S O F B cap N (.slice aF nF cF) (.slice aT nT cT) l (fw.set ((q : Int) + 1 + k).toNat x) bw) := hst.setF _ _
                have hpar : (n + m) % 2 = 1 ↔ odd = true := by rw [← odd_iff, Hodd.out]
                have Hnx : Hid (((n + m) % 2 = 1 → -((d : Int) - 1) ≤ (n : Int) - m - k → (n : Int) - m - k ≤ (d : Int) - 1 → (x : Int) < (n : Int) - bw.getD (((q + 1 : Nat) : Int) + ((n : Int) - m - k)).toNat 0) → Half (My.Win (Eqs X Y) fl tl n m) n m (q + 1) d (k + 2) (fw.set ((q : Int) + 1 + k).toNat x) bw) :=
                  fun hv => Z2.out.next hkp hk1 (by omega) _ (by omega) (by rw [hst.fl]; omega) hfar hv
                have Hfin : Hid (∀ hv : Half (My.Win (Eqs X Y) fl tl n m) n m (q + 1) d (k + 2) (fw.set ((q : Int) + 1 + k).toNat x) bw, True) := fun _ => trivial
                clear hyk hfar hx hy hrun hstop Hfin
                cases odd
                · have Hn : Hid (Half (My.Win (Eqs X Y) fl tl n m) n m (q + 1) d (k + 2) (fw.set ((q : Int) + 1 + k).toNat x) bw) := Hnx.out (fun h => by have := hpar.1 h; cases this)
                  clear hpar Hnx hst
                  refine hKc _ _ ?_
                  go_wp2
                  refine Handed.intro (g - 1) (by omega) (hJ2 _ _ _ ?_)
                  exact ⟨⟨rfl, rfl, rfl, rfl, rfl, rfl, rfl, rfl, rfl, rfl, rfl, rfl, rfl, rfl, rfl⟩, rfl, k + 2, _, by omega, by omega, by omega, by omega, rfl, V.out, Hn.out⟩
                · have hp1 : (n + m) % 2 = 1 := hpar.2 rfl
                  by_cases d1 : -((d : Int) - 1) ≤ (n : Int) - m - k
                  · by_cases d2 : (n : Int) - m - k ≤ (d : Int) - 1
                    · obtain ⟨d', rfl⟩ : ∃ d', d = d' + 1 := ⟨d - 1, by omega⟩
                      have hfb2 := My.far_bound (n := n) (m := m) (fun i j h => ⟨h.1, h.2.1⟩) (Z2.out.pb.2 d' rfl ((n : Int) - m - k) (by omega) (by omega) (by omega))
                      have g2 := hst.bwd.cell (i := ((q : Int) + 1 + ((n : Int) - m - k)).toNat) (by rw [hst.bl]; omega)
                      have f2 : ¬ B = F := hbf
                      rw [show ((q + 1 : Nat) : Int) + ((n : Int) - m - k) = (q : Int) + 1 + ((n : Int) - m - k) by omega] at hfb2 Hnx
                      obtain ⟨bb, Hbb⟩ : ∃ bb, Hid (bw.getD ((q : Int) + 1 + ((n : Int) - m - k)).toNat 0 = bb) := ⟨_, rfl⟩
                      rw [Hbb.out] at hfb2 g2
                      by_cases d3 : (n : Int) - bb ≤ x
                      · have Hmid : Hid (My.Mid (My.Win (Eqs X Y) fl tl n m) n m s ys x y) := by
                          have := My.met_odd (c := q + 1) (bw := bw) (My.Win_in (M := Eqs X Y)) (by have := Z2.out.least; rwa [hp1] at this) (My.least_two hn hm hfirst hlast) hp1 (by obtain ⟨l, h, _⟩ := hdist; exact ⟨l, h⟩) hkp Hbeg.out Hrun.out Z2.out.pb d1 d2
                            (by rw [show ((q + 1 : Nat) : Int) + ((n : Int) - m - k) = (q : Int) + 1 + ((n : Int) - m - k) by omega, Hbb.out, ← Hx.out]; exact d3)
                          rwa [← Hx.out, ← Hy.out] at this
                        clear Hnx hst hpar
                        refine hKc _ _ ?_
                        go_wp2
                        refine bodyPost_ret (results_tmp4 rfl _ _ _) rfl ?_
                        exact ⟨s, ys, x, y, _, _, rfl, Hmid.out, V.out⟩
                      · have Hn : Hid (Half (My.Win (Eqs X Y) fl tl n m) n m (q + 1) (d' + 1) (k + 2) (fw.set ((q : Int) + 1 + k).toNat x) bw) := Hnx.out (fun _ _ _ => by rw [Hbb.out]; omega)
                        clear Hnx hst hpar
                        refine hKc _ _ ?_
                        go_wp2
                        refine Handed.intro (g - 1) (by omega) (hJ2 _ _ _ ?_)
                        exact ⟨⟨rfl, rfl, rfl, rfl, rfl, rfl, rfl, rfl, rfl, rfl, rfl, rfl, rfl, rfl, rfl⟩, rfl, k + 2, _, by omega, by omega, by omega, by omega, rfl, V.out, Hn.out⟩
                    · have Hn : Hid (Half (My.Win (Eqs X Y) fl tl n m) n m (q + 1) d (k + 2) (fw.set ((q : Int) + 1 + k).toNat x) bw) := Hnx.out (fun _ _ h => absurd h d2)
                      clear Hnx hst hpar
                      refine hKc _ _ ?_
                      go_wp2
                      refine Handed.intro (g - 1) (by omega) (hJ2 _ _ _ ?_)
                      exact ⟨⟨rfl, rfl, rfl, rfl, rfl, rfl, rfl, rfl, rfl, rfl, rfl, rfl, rfl, rfl, rfl⟩, rfl, k + 2, _, by omega, by omega, by omega, by omega, rfl, V.out, Hn.out⟩
                  · have Hn : Hid (Half (My.Win (Eqs X Y) fl tl n m) n m (q + 1) d (k + 2) (fw.set ((q : Int) + 1 + k).toNat x) bw) := Hnx.out (fun _ h _ => absurd h d1)
                    clear Hnx hst hpar
                    refine hKc _ _ ?_
                    go_wp2
                    refine Handed.intro (g - 1) (by omega) (hJ2 _ _ _ ?_)
                    exact ⟨⟨rfl, rfl, rfl, rfl, rfl, rfl, rfl, rfl, rfl, rfl, rfl, rfl, rfl, rfl, rfl⟩, rfl, k + 2, _, by omega, by omega, by omega, by omega, rfl, V.out, Hn.out⟩
              clear hKc
              refine wp_loop_ghost_k (fun g a w' => Kept30 a S F B N fl tl n m q odd ∧ sl a 22 = .int .i64 d ∧ sl a 23 = .int .i64 k ∧ sl a 26 = .int .i64 s ∧ sl a 27 = .int .i64 ys ∧ (∃ x y c : Nat, sl a 24 = .int .i64 x ∧ sl a 25 = .int .i64 y ∧ x = s + c ∧ y = ys + c ∧ g = n - x ∧ ∀ i, i < c → My.Win (Eqs X Y) fl tl n m (s + i) (ys + i)) ∧ St w0 w' S O F B cap N (.slice aF nF cF) (.slice aT nT cT) l fw bw) (n - s) ?_ ?_
              · exact ⟨⟨rfl, rfl, rfl, rfl, rfl, rfl, rfl, rfl, rfl, rfl, rfl, rfl, rfl, rfl, rfl⟩, rfl, rfl, rfl, congrArg (Value.int .i64) (by have := Hdg.out; omega), ⟨s, ys, 0, rfl, congrArg (Value.int .i64) (by have := Hdg.out; omega), rfl, rfl, rfl, fun i hi => by omega⟩, Z1.out⟩
              · clear Z1 u
                rintro g a wr ⟨hk, h22, h23, h26, h27, ⟨x, y, c, h24, h25, hx, hy, hgx, hrun⟩, hst⟩ J3 K3 hJ3 hK3
                obtain ⟨u, hu, ha⟩ := frame368 a hk.df hk.sz
                have e0 := hk.s0
                have e1 := hk.s1
                have e2 := hk.s2
                have e3 := hk.s3
                have e4 := hk.s4
                have e14 := hk.s14
                have e15 := hk.s15
                have e16 := hk.s16
                have e17 := hk.s17
                have e18 := hk.s18
                have e19 := hk.s19
                have e20 := hk.s20
                have e21 := hk.s21
                rw [hu] at e0 e1 e2 e3 e4 e14 e15 e16 e17 e18 e19 e20 e21 h22 h23 h24 h25 h26 h27
                subst ha
                clear hk hu
                simp only [e0, e1, e2, e3, e4, e14, e15, e16, e17, e18, e19, e20, e21, h22, h23, h24, h25, h26, h27]
                clear e0 e1 e2 e3 e4 e14 e15 e16 e17 e18 e19 e20 e21 h22 h23 h24 h25 h26 h27
                have Hx : Hid (x = s + c) := hx
                have Hy : Hid (y = ys + c) := hy
                have Hrun : Hid (∀ i, i < c → My.Win (Eqs X Y) fl tl n m (s + i) (ys + i)) := hrun
                have hxb : x ≤ n + 4096 + 4096 := by
                  by_cases hc0 : c = 0
                  · omega
                  · have := (hrun (c - 1) (by omega)).1; omega
                have hyb : y ≤ m + 4096 + 4096 := by
                  by_cases hc0 : c = 0
                  · omega
                  · have := (hrun (c - 1) (by omega)).2.1; omega
                have q0 : wr.cell? ⟨S, 0, none⟩ = some (.slice aF nF cF) := hst.struct'.cell rfl
                have q1 : wr.cell? ⟨S, 1, none⟩ = some (.slice aT nT cT) := hst.struct'.cell rfl
                have rF := hrF.below hst.below (Nat.le_refl _)
                have rT := hrT.below hst.below (Nat.le_refl _)
                have Z1 : Hid (St w0 wr S O F B cap N (.slice aF nF cF) (.slice aT nT cT) l fw bw) := hst
                clear hst hx hy hrun
                by_cases c1 : x < n
                · have c1' : (x : Int) < (n : Int) := by omega
                  by_cases c2 : y < m
                  · have c2' : (y : Int) < (m : Int) := by omega
                    obtain ⟨b1, o1, rfl, rF'⟩ := rF.at (by omega)
                    obtain ⟨b2, o2, rfl, rT'⟩ := rT.at (by omega)
                    have t1 := rF' (fl + x) (by omega)
                    have t2 := rT' (tl + y) (by omega)
                    unfold sv at t1 t2
                    by_cases he : ((X.getD (fl + x) ByteArray.empty).toList == (Y.getD (tl + y) ByteArray.empty).toList) = true
                    · have Hm : Hid (My.Win (Eqs X Y) fl tl n m x y) := ⟨c1, c2, by omega, by omega, he⟩
                      clear rF rT rF' rT' hrF hrT
                      generalize X.getD (fl + x) ByteArray.empty = s1 at t1 he
                      generalize Y.getD (tl + y) ByteArray.empty = s2 at t2 he
                      go_wp2
                      go_quiet (fail)
                      go_wp2
                      refine Handed.intro (n - (x + 1)) (by omega) (hJ3 _ _ _ ?_)
                      refine ⟨⟨rfl, rfl, rfl, rfl, rfl, rfl, rfl, rfl, rfl, rfl, rfl, rfl, rfl, rfl, rfl⟩, rfl, rfl, rfl, rfl, ⟨x + 1, y + 1, c + 1, by go_num, by go_num, by have := Hx.out; omega, by have := Hy.out; omega, rfl, fun i hi => ?_⟩, Z1.out.drewN _⟩
                      by_cases hic : i < c
                      · exact Hrun.out i hic
                      · have e : i = c := by omega
                        rw [e, ← Hx.out, ← Hy.out]; exact Hm.out
                    · have hne : ((X.getD (fl + x) ByteArray.empty).toList == (Y.getD (tl + y) ByteArray.empty).toList) = false := by simpa using he
                      have Hm : Hid (¬ My.Win (Eqs X Y) fl tl n m x y) := fun h => he h.2.2.2.2
                      clear rF rT rF' rT' hrF hrT he
                      generalize X.getD (fl + x) ByteArray.empty = s1 at t1 hne
                      generalize Y.getD (tl + y) ByteArray.empty = s2 at t2 hne
                      go_wp2
                      go_quiet (fail)
                      go_wp2
                      exact ⟨⟨rfl, rfl, rfl, rfl, rfl, rfl, rfl, rfl, rfl, rfl, rfl, rfl, rfl, rfl, rfl⟩, rfl, rfl, rfl, rfl, ⟨⟨c, congrArg (fun z : Nat => Value.int .i64 (z : Int)) Hx.out, congrArg (fun z : Nat => Value.int .i64 (z : Int)) Hy.out, Hrun.out, by rw [← Hx.out, ← Hy.out]; exact Hm.out⟩⟩, Z1.out.drewN _⟩
                  · have c2' : decide ((y : Int) < (m : Int)) = false := by simp; omega
                    have Hm : Hid (¬ My.Win (Eqs X Y) fl tl n m x y) := fun h => c2 h.2.1
                    clear rF rT
                    go_wp2
                    go_quiet (fail)
                    go_wp2
                    exact ⟨⟨rfl, rfl, rfl, rfl, rfl, rfl, rfl, rfl, rfl, rfl, rfl, rfl, rfl, rfl, rfl⟩, rfl, rfl, rfl, rfl, ⟨⟨c, congrArg (fun z : Nat => Value.int .i64 (z : Int)) Hx.out, congrArg (fun z : Nat => Value.int .i64 (z : Int)) Hy.out, Hrun.out, by rw [← Hx.out, ← Hy.out]; exact Hm.out⟩⟩, Z1.out.drewN _⟩
                · have c1' : decide ((x : Int) < (n : Int)) = false := by simp; omega
                  have Hm : Hid (¬ My.Win (Eqs X Y) fl tl n m x y) := fun h => c1 h.1
                  clear rF rT
                  go_wp2
                  go_quiet (fail)
                  go_wp2
                  exact ⟨⟨rfl, rfl, rfl, rfl, rfl, rfl, rfl, rfl, rfl, rfl, rfl, rfl, rfl, rfl, rfl⟩, rfl, rfl, rfl, rfl, ⟨⟨c, congrArg (fun z : Nat => Value.int .i64 (z : Int)) Hx.out, congrArg (fun z : Nat => Value.int .i64 (z : Int)) Hy.out, Hrun.out, by rw [← Hx.out, ← Hy.out]; exact Hm.out⟩⟩, Z1.out.drewN _⟩
            clear hKb
            cases bd
            · rw [hb2 rfl] at i1
              clear hb1 hb2 i2 Z2 HL HR
              go_wp2
              exact ⟨⟨rfl, rfl, rfl, rfl, rfl, rfl, rfl, rfl, rfl, rfl, rfl, rfl, rfl, rfl, rfl⟩, rfl, rfl, congrArg (Value.int .i64) (by omega), Z1.out⟩
            · rw [hb1 rfl] at i2
              clear hb1 hb2 i1 Z2 HL HR
              go_wp2
              exact ⟨⟨rfl, rfl, rfl, rfl, rfl, rfl, rfl, rfl, rfl, rfl, rfl, rfl, rfl, rfl, rfl⟩, rfl, rfl, rfl, Z1.out⟩
          clear hKa
          have mk : ∀ bd : Bool, (bd = true → k = -(d : Int) ∨ (k ≠ d ∧ fL < fR)) → (bd = false → ¬ (k = -(d : Int) ∨ (k ≠ d ∧ fL < fR))) → Pick (.bool bd) fL fR s := by
            intro bd h1 h2
            have := Hes.out
            refine ⟨⟨bd, rfl, fun h => ?_, fun h => ?_⟩⟩
            · rw [← this]; unfold My.from'; rw [if_pos (h1 h)]
            · rw [← this]; unfold My.from'; rw [if_neg (h2 h)]; omega
          have Mk := hide mk
          clear mk
          by_cases hk0 : k = -(d : Int)
          · have b1 : (k == -(d : Int)) = true := by simp [hk0]
            have M1 := hide (Mk.out true (fun _ => Or.inl hk0) (fun h => by cases h))
            clear hk0
            go_quiet (fail)
            go_wp2
            exact ⟨⟨rfl, rfl, rfl, rfl, rfl, rfl, rfl, rfl, rfl, rfl, rfl, rfl, rfl, rfl, rfl⟩, rfl, rfl, M1.out, Z1.out.drewN _⟩
          · have b1 : (k == -(d : Int)) = false := by simp [hk0]
            by_cases hkd2 : k = (d : Int)
            · have b2 : (k != (d : Int)) = false := by simp [hkd2]
              have M1 := hide (Mk.out false (fun h => by cases h) (fun _ h => h.elim (fun h => hk0 h) (fun h => h.1 hkd2)))
              clear hk0 hkd2
              go_quiet (fail)
              go_wp2
              exact ⟨⟨rfl, rfl, rfl, rfl, rfl, rfl, rfl, rfl, rfl, rfl, rfl, rfl, rfl, rfl, rfl⟩, rfl, rfl, M1.out, Z1.out.drewN _⟩
            · have b2 : (k != (d : Int)) = true := by simp [hkd2]
              by_cases hlt : fL < fR
              · have M1 := hide (Mk.out true (fun _ => Or.inr ⟨hkd2, hlt⟩) (fun h => by cases h))
                clear hk0 hkd2
                go_quiet (fail)
                go_wp2
                exact ⟨⟨rfl, rfl, rfl, rfl, rfl, rfl, rfl, rfl, rfl, rfl, rfl, rfl, rfl, rfl, rfl⟩, rfl, rfl, M1.out, Z1.out.drewN _⟩
              · have M1 := hide (Mk.out false (fun h => by cases h) (fun _ h => h.elim (fun h => hk0 h) (fun h => hlt h.2)))
                clear hk0 hkd2
                go_quiet (fail)
                go_wp2
                exact ⟨⟨rfl, rfl, rfl, rfl, rfl, rfl, rfl, rfl, rfl, rfl, rfl, rfl, rfl, rfl, rfl⟩, rfl, rfl, M1.out, Z1.out.drewN _⟩
        · skip
          have Y1 : Hid (St w0 wr S O F B cap N (.slice aF nF cF) (.slice aT nT cT) l fw bw) := hst
          have Y2 : Hid (Half2 (My.Win (Eqs X Y) fl tl n m) n m (q + 1) d (-(d : Int)) fw bw) := hhf.turn (by omega)
          clear hst hhf
          go_wp2
          refine wp_loop_ghost_k (fun g a wr => Kept30 a S F B N fl tl n m q odd ∧ sl a 22 = .int .i64 d ∧ ∃ (k : Int) (bw : List Int), -(d : Int) ≤ k ∧ k ≤ d + 2 ∧ (k - d) % 2 = 0 ∧ 2 * (g : Int) = d + 2 - k ∧ sl a 29 = .int .i64 k ∧ St w0 wr S O F B cap N (.slice aF nF cF) (.slice aT nT cT) l fw bw ∧ Half2 (My.Win (Eqs X Y) fl tl n m) n m (q + 1) d k fw bw) (d + 1) ?_ ?_
          · exact ⟨⟨rfl, rfl, rfl, rfl, rfl, rfl, rfl, rfl, rfl, rfl, rfl, rfl, rfl, rfl, rfl⟩, rfl, -(d : Int), _, by omega, by omega, by omega, by omega, rfl, Y1.out, Y2.out⟩
          · clear Y1 Y2 u hk1 hk2 hkp hg hkd
            rintro g a wr ⟨hk, h22, k, bw, hk1, hk2, hkp, hg, h29, hst, hhf⟩ J4 K4 hJ4 hK4
            obtain ⟨u, hu, ha⟩ := frame368 a hk.df hk.sz
            have e0 := hk.s0
            have e1 := hk.s1
            have e2 := hk.s2
            have e3 := hk.s3
            have e4 := hk.s4
            have e14 := hk.s14
            have e15 := hk.s15
            have e16 := hk.s16
            have e17 := hk.s17
            have e18 := hk.s18
            have e19 := hk.s19
            have e20 := hk.s20
            have e21 := hk.s21
            rw [hu] at e0 e1 e2 e3 e4 e14 e15 e16 e17 e18 e19 e20 e21 h22 h29
            subst ha
            clear hk hu
            simp only [e0, e1, e2, e3, e4, e14, e15, e16, e17, e18, e19, e20, e21, h22, h29]
            clear e0 e1 e2 e3 e4 e14 e15 e16 e17 e18 e19 e20 e21 h22 h29
            by_cases hkd : k ≤ d
            · obtain ⟨s, ys, es, hbeg⟩ := My.beg hhf.pb hkp hk1 hkd (by omega)
              have Z2 : Hid (Half2 (My.Win (Eqs X Y) fl tl n m) n m (q + 1) d k fw bw) := hhf
              rw [show ((q + 1 : Nat) : Int) + k - 1 = (q : Int) + 1 + k - 1 by omega, show ((q + 1 : Nat) : Int) + k + 1 = (q : Int) + 1 + k + 1 by omega, show ((q : Int) + 1 + k - 1).toNat = ((q : Int) + 1 + k).toNat - 1 by omega] at es
              have i1 := hst.bwd.cell (i := ((q : Int) + 1 + k).toNat - 1) (by rw [hst.bl]; omega)
              have i2 := hst.bwd.cell (i := ((q : Int) + 1 + k + 1).toNat) (by rw [hst.bl]; omega)
              obtain ⟨fL, HL⟩ : ∃ fL, Hid (bw.getD (((q : Int) + 1 + k).toNat - 1) 0 = fL) := ⟨_, rfl⟩
              obtain ⟨fR, HR⟩ : ∃ fR, Hid (bw.getD ((q : Int) + 1 + k + 1).toNat 0 = fR) := ⟨_, rfl⟩
              rw [HL.out] at es i1
              rw [HR.out] at es i2
              have Z1 : Hid (St w0 wr S O F B cap N (.slice aF nF cF) (.slice aT nT cT) l fw bw) := hst
              have Hbeg : Hid (My.Beg (My.Rev (My.Win (Eqs X Y) fl tl n m) n m) d k s ys) := hbeg
              have hsb := hbeg.bound (n := n) (m := m) (fun i j h => ⟨h.1, h.2.1⟩)
              have hdg := hbeg.diag
              have Hdg : Hid ((s : Int) - ys = k) := hdg
              have Hes : Hid (My.from' d k fL fR = s) := es
              clear hst hhf hbeg hdg es
              go_upto_region 30 with fail
              rename_i Ka hKa
              have h15 : ∀ a w', Kept30 a S F B N fl tl n m q odd ∧ sl a 22 = .int .i64 d ∧ sl a 29 = .int .i64 k ∧ Pick (sl a 242) fL fR s ∧ St w0 w' S O F B cap N (.slice aF nF cF) (.slice aT nT cT) l fw bw → Ka a w' := by
                clear i1 i2 Z1 u
                rintro a wr ⟨hk, h22, h29, ⟨⟨bd, h242, hb1, hb2⟩⟩, hst⟩
                obtain ⟨u, hu, ha⟩ := frame368 a hk.df hk.sz
                have e0 := hk.s0
                have e1 := hk.s1
                have e2 := hk.s2
                have e3 := hk.s3
                have e4 := hk.s4
                have e14 := hk.s14
                have e15 := hk.s15
                have e16 := hk.s16
                have e17 := hk.s17
                have e18 := hk.s18
                have e19 := hk.s19
                have e20 := hk.s20
                have e21 := hk.s21
                rw [hu] at e0 e1 e2 e3 e4 e14 e15 e16 e17 e18 e19 e20 e21 h22 h29 h242
                subst ha
                clear hk hu
                simp only [e0, e1, e2, e3, e4, e14, e15, e16, e17, e18, e19, e20, e21, h22, h29, h242]
                clear e0 e1 e2 e3 e4 e14 e15 e16 e17 e18 e19 e20 e21 h22 h29 h242
                have i1 := hst.bwd.cell (i := ((q : Int) + 1 + k).toNat - 1) (by rw [hst.bl]; omega)
                have i2 := hst.bwd.cell (i := ((q : Int) + 1 + k + 1).toNat) (by rw [hst.bl]; omega)
                rw [HL.out] at i1
                rw [HR.out] at i2
                have Z1 : Hid (St w0 wr S O F B cap N (.slice aF nF cF) (.slice aT nT cT) l fw bw) := hst
                clear hst
                refine hKa _ _ ?_
                go_upto_if 242 with fail
                rename_i Kb hKb
                have hcut : ∀ a w', Kept30 a S F B N fl tl n m q odd ∧ sl a 22 = .int .i64 d ∧ sl a 29 = .int .i64 k ∧ sl a 30 = .int .i64 s ∧ St w0 w' S O F B cap N (.slice aF nF cF) (.slice aT nT cT) l fw bw → Kb a w' := by
                  clear i1 i2 Z1 u hb1 hb2 HL HR Hes
                  rintro a wr ⟨hk, h22, h29, h30, hst⟩
                  obtain ⟨u, hu, ha⟩ := frame368 a hk.df hk.sz
                  have e0 := hk.s0
                  have e1 := hk.s1
                  have e2 := hk.s2
                  have e3 := hk.s3
                  have e4 := hk.s4
                  have e14 := hk.s14
                  have e15 := hk.s15
                  have e16 := hk.s16
                  have e17 := hk.s17
                  have e18 := hk.s18
                  have e19 := hk.s19
                  have e20 := hk.s20
                  have e21 := hk.s21
                  rw [hu] at e0 e1 e2 e3 e4 e14 e15 e16 e17 e18 e19 e20 e21 h22 h29 h30
                  subst ha
                  clear hk hu
                  simp only [e0, e1, e2, e3, e4, e14, e15, e16, e17, e18, e19, e20, e21, h22, h29, h30]
                  clear e0 e1 e2 e3 e4 e14 e15 e16 e17 e18 e19 e20 e21 h22 h29 h30
                  have Z1 : Hid (St w0 wr S O F B cap N (.slice aF nF cF) (.slice aT nT cT) l fw bw) := hst
                  clear hst
                  refine hKb _ _ ?_
                  clear hKb
                  go_wp2
                  rename_i Kc hKc
                  have hend : ∀ a w', Kept30 a S F B N fl tl n m q odd ∧ sl a 22 = .int .i64 d ∧ sl a 29 = .int .i64 k ∧ sl a 32 = .int .i64 s ∧ sl a 33 = .int .i64 ys ∧ Ends (My.Rev (My.Win (Eqs X Y) fl tl n m) n m) s ys (sl a 30) (sl a 31) ∧ St w0 w' S O F B cap N (.slice aF nF cF) (.slice aT nT cT) l fw bw → Kc a w' := by
                    clear Z1 u
                    rintro a wr ⟨hk, h22, h29, h32, h33, ⟨⟨c, h30, h31, hrun, hstop⟩⟩, hst⟩
                    have hfar := Hbeg.out.far hrun hstop
                    obtain ⟨x, hx⟩ : ∃ x, x = s + c := ⟨_, rfl⟩
                    obtain ⟨y, hy⟩ : ∃ y, y = ys + c := ⟨_, rfl⟩
                    rw [← hx] at h30 hfar
                    rw [← hy] at h31
                    have hfb1 := My.far_bound (n := n) (m := m) (fun i j h => ⟨h.1, h.2.1⟩) hfar
                    have hyk : (x : Int) - y = k := by have := Hdg.out; omega
                    have hybd : (y : Int) ≤ m + d := by omega
                    obtain ⟨u, hu, ha⟩ := frame368 a hk.df hk.sz
                    have e0 := hk.s0
                    have e1 := hk.s1
                    have e2 := hk.s2
                    have e3 := hk.s3
                    have e4 := hk.s4
                    have e14 := hk.s14
                    have e15 := hk.s15
                    have e16 := hk.s16
                    have e17 := hk.s17
                    have e18 := hk.s18
                    have e19 := hk.s19
                    have e20 := hk.s20
                    have e21 := hk.s21
                    rw [hu] at e0 e1 e2 e3 e4 e14 e15 e16 e17 e18 e19 e20 e21 h22 h29 h30 h31 h32 h33
                    subst ha
                    clear hk hu
                    simp only [e0, e1, e2, e3, e4, e14, e15, e16, e17, e18, e19, e20, e21, h22, h29, h30, h31, h32, h33]
                    clear e0 e1 e2 e3 e4 e14 e15 e16 e17 e18 e19 e20 e21 h22 h29 h30 h31 h32 h33
                    have Hx : Hid (x = s + c) := hx
                    have Hy : Hid (y = ys + c) := hy
                    have Hrun : Hid (∀ i, i < c → (My.Rev (My.Win (Eqs X Y) fl tl n m) n m) (s + i) (ys + i)) := hrun
                    have f1 := hst.bwd.frozen ((q : Int) + 1 + k).toNat
                    have g1 := hst.bwd.cell (i := ((q : Int) + 1 + k).toNat) (by rw [hst.bl]; omega)
                    generalize bw.getD ((q : Int) + 1 + k).toNat 0 = old at g1
                    have V : Hid (St w0 (wr.setCell ⟨B, ((q : Int) + 1 + k).toNat, none⟩ (.int .i64 x)) S O F B cap N (.slice aF nF cF) (.slice aT nT cT) l fw (bw.set ((q : Int) + 1 + k).toNat x)) := hst.setB _ _
                    have hpar : (n + m) % 2 = 1 ↔ odd = true := by rw [← odd_iff, Hodd.out]
                    have Hnx : Hid (((n + m) % 2 = 0 → -(d : Int) ≤ (n : Int) - m - k → (n : Int) - m - k ≤ d → fw.getD (((q + 1 : Nat) : Int) + ((n : Int) - m - k)).toNat 0 < (n : Int) - x) → Half2 (My.Win (Eqs X Y) fl tl n m) n m (q + 1) d (k + 2) fw (bw.set ((q : Int) + 1 + k).toNat x)) :=
                      fun hv => Z2.out.next hkp hk1 (by omega) _ (by omega) (by rw [hst.bl]; omega) hfar hv
                    clear hyk hfar hx hy hrun hstop
                    cases odd
                    · have hp1 : (n + m) % 2 = 0 := by
                        by_cases h : (n + m) % 2 = 1
                        · have := hpar.1 h; cases this
                        · omega
                      by_cases d1 : -(d : Int) ≤ (n : Int) - m - k
                      · by_cases d2 : (n : Int) - m - k ≤ (d : Int)
                        · have hfb2 := My.far_bound (My.Win_in (M := Eqs X Y)) (Z2.out.df ((n : Int) - m - k) (by omega) (by omega) (by omega))
                          have g2 := hst.fwd.cell (i := ((q : Int) + 1 + ((n : Int) - m - k)).toNat) (by rw [hst.fl]; omega)
                          rw [show ((q + 1 : Nat) : Int) + ((n : Int) - m - k) = (q : Int) + 1 + ((n : Int) - m - k) by omega] at hfb2 Hnx
                          obtain ⟨ff, Hff⟩ : ∃ ff, Hid (fw.getD ((q : Int) + 1 + ((n : Int) - m - k)).toNat 0 = ff) := ⟨_, rfl⟩
                          rw [Hff.out] at hfb2 g2
                          by_cases d3 : (n : Int) - x ≤ ff
                          · have hmid := My.met_even (c := q + 1) (fw := fw) (My.Win_in (M := Eqs X Y)) (Z2.out.leastE hp1) (My.least_two hn hm hfirst hlast) (k2 := (d : Int) + 1) (by omega) hp1 hkp Hbeg.out Hrun.out Z2.out.df d1 d2
                                (by rw [show ((q + 1 : Nat) : Int) + ((n : Int) - m - k) = (q : Int) + 1 + ((n : Int) - m - k) by omega, Hff.out, ← Hx.out]; exact d3)
                            rw [← Hx.out, ← Hy.out] at hmid
                            obtain ⟨hxn, hym, hmid⟩ := hmid
                            have Hmid : Hid (My.Mid (My.Win (Eqs X Y) fl tl n m) n m (n - x) (m - y) (n - s) (m - ys)) := hmid
                            have hsx : s ≤ x := by have := Hx.out; omega
                            have hsy : ys ≤ y := by have := Hy.out; omega
                            clear Hnx hst hpar hmid
                            refine hKc _ _ ?_
                            go_wp2
                            refine bodyPost_ret (results_tmp4 rfl _ _ _) rfl ?_
                            refine ⟨n - x, m - y, n - s, m - ys, _, _, congrArg Ending.returned (congrArg Value.tuple (tup4 ?_ ?_ ?_ ?_)), Hmid.out, V.out⟩
                            · show (fl : Int) + n - x = (fl : Int) + ((n - x : Nat) : Int); omega
                            · show (tl : Int) + m - y = (tl : Int) + ((m - y : Nat) : Int); omega
                            · show (fl : Int) + n - s = (fl : Int) + ((n - s : Nat) : Int); omega
                            · show (tl : Int) + m - ys = (tl : Int) + ((m - ys : Nat) : Int); omega
                          · have Hn : Hid (Half2 (My.Win (Eqs X Y) fl tl n m) n m (q + 1) d (k + 2) fw (bw.set ((q : Int) + 1 + k).toNat x)) := Hnx.out (fun _ _ _ => by rw [Hff.out]; omega)
                            clear Hnx hst hpar
                            refine hKc _ _ ?_
                            go_wp2
                            refine Handed.intro (g - 1) (by omega) (hJ4 _ _ _ ?_)
                            exact ⟨⟨rfl, rfl, rfl, rfl, rfl, rfl, rfl, rfl, rfl, rfl, rfl, rfl, rfl, rfl, rfl⟩, rfl, k + 2, _, by omega, by omega, by omega, by omega, rfl, V.out, Hn.out⟩
                        · have Hn : Hid (Half2 (My.Win (Eqs X Y) fl tl n m) n m (q + 1) d (k + 2) fw (bw.set ((q : Int) + 1 + k).toNat x)) := Hnx.out (fun _ _ h => absurd h d2)
                          clear Hnx hst hpar
                          refine hKc _ _ ?_
                          go_wp2
                          refine Handed.intro (g - 1) (by omega) (hJ4 _ _ _ ?_)
                          exact ⟨⟨rfl, rfl, rfl, rfl, rfl, rfl, rfl, rfl, rfl, rfl, rfl, rfl, rfl, rfl, rfl⟩, rfl, k + 2, _, by omega, by omega, by omega, by omega, rfl, V.out, Hn.out⟩
                      · have Hn : Hid (Half2 (My.Win (Eqs X Y) fl tl n m) n m (q + 1) d (k + 2) fw (bw.set ((q : Int) + 1 + k).toNat x)) := Hnx.out (fun _ h _ => absurd h d1)
                        clear Hnx hst hpar
                        refine hKc _ _ ?_
                        go_wp2
                        refine Handed.intro (g - 1) (by omega) (hJ4 _ _ _ ?_)
                        exact ⟨⟨rfl, rfl, rfl, rfl, rfl, rfl, rfl, rfl, rfl, rfl, rfl, rfl, rfl, rfl, rfl⟩, rfl, k + 2, _, by omega, by omega, by omega, by omega, rfl, V.out, Hn.out⟩
                    · have Hn : Hid (Half2 (My.Win (Eqs X Y) fl tl n m) n m (q + 1) d (k + 2) fw (bw.set ((q : Int) + 1 + k).toNat x)) := Hnx.out (fun h => by have := hpar.2 rfl; omega)
                      clear hpar Hnx hst
                      refine hKc _ _ ?_
                      go_wp2
                      refine Handed.intro (g - 1) (by omega) (hJ4 _ _ _ ?_)
                      exact ⟨⟨rfl, rfl, rfl, rfl, rfl, rfl, rfl, rfl, rfl, rfl, rfl, rfl, rfl, rfl, rfl⟩, rfl, k + 2, _, by omega, by omega, by omega, by omega, rfl, V.out, Hn.out⟩
                  clear hKc
                  refine wp_loop_ghost_k (fun g a w' => Kept30 a S F B N fl tl n m q odd ∧ sl a 22 = .int .i64 d ∧ sl a 29 = .int .i64 k ∧ sl a 32 = .int .i64 s ∧ sl a 33 = .int .i64 ys ∧ (∃ x y c : Nat, sl a 30 = .int .i64 x ∧ sl a 31 = .int .i64 y ∧ x = s + c ∧ y = ys + c ∧ g = n - x ∧ ∀ i, i < c → (My.Rev (My.Win (Eqs X Y) fl tl n m) n m) (s + i) (ys + i)) ∧ St w0 w' S O F B cap N (.slice aF nF cF) (.slice aT nT cT) l fw bw) (n - s) ?_ ?_
                  · exact ⟨⟨rfl, rfl, rfl, rfl, rfl, rfl, rfl, rfl, rfl, rfl, rfl, rfl, rfl, rfl, rfl⟩, rfl, rfl, rfl, congrArg (Value.int .i64) (by have := Hdg.out; omega), ⟨s, ys, 0, rfl, congrArg (Value.int .i64) (by have := Hdg.out; omega), rfl, rfl, rfl, fun i hi => by omega⟩, Z1.out⟩
                  · clear Z1 u
                    rintro g a wr ⟨hk, h22, h29, h32, h33, ⟨x, y, c, h30, h31, hx, hy, hgx, hrun⟩, hst⟩ J5 K5 hJ5 hK5
                    obtain ⟨u, hu, ha⟩ := frame368 a hk.df hk.sz
                    have e0 := hk.s0
                    have e1 := hk.s1
                    have e2 := hk.s2
                    have e3 := hk.s3
                    have e4 := hk.s4
                    have e14 := hk.s14
                    have e15 := hk.s15
                    have e16 := hk.s16
                    have e17 := hk.s17
                    have e18 := hk.s18
                    have e19 := hk.s19
                    have e20 := hk.s20
                    have e21 := hk.s21
                    rw [hu] at e0 e1 e2 e3 e4 e14 e15 e16 e17 e18 e19 e20 e21 h22 h29 h30 h31 h32 h33
                    subst ha
                    clear hk hu
                    simp only [e0, e1, e2, e3, e4, e14, e15, e16, e17, e18, e19, e20, e21, h22, h29, h30, h31, h32, h33]
                    clear e0 e1 e2 e3 e4 e14 e15 e16 e17 e18 e19 e20 e21 h22 h29 h30 h31 h32 h33
                    have Hx : Hid (x = s + c) := hx
                    have Hy : Hid (y = ys + c) := hy
                    have Hrun : Hid (∀ i, i < c → (My.Rev (My.Win (Eqs X Y) fl tl n m) n m) (s + i) (ys + i)) := hrun
                    have hxb : x ≤ n + 4096 + 4096 := by
                      by_cases hc0 : c = 0
                      · omega
                      · have := (hrun (c - 1) (by omega)).1; omega
                    have hyb : y ≤ m + 4096 + 4096 := by
                      by_cases hc0 : c = 0
                      · omega
                      · have := (hrun (c - 1) (by omega)).2.1; omega
                    have q0 : wr.cell? ⟨S, 0, none⟩ = some (.slice aF nF cF) := hst.struct'.cell rfl
                    have q1 : wr.cell? ⟨S, 1, none⟩ = some (.slice aT nT cT) := hst.struct'.cell rfl
                    have rF := hrF.below hst.below (Nat.le_refl _)
                    have rT := hrT.below hst.below (Nat.le_refl _)
                    have Z1 : Hid (St w0 wr S O F B cap N (.slice aF nF cF) (.slice aT nT cT) l fw bw) := hst
                    clear hst hx hy hrun
                    by_cases c1 : x < n
                    · have c1' : (x : Int) < (n : Int) := by omega
                      by_cases c2 : y < m
                      · have c2' : (y : Int) < (m : Int) := by omega
                        obtain ⟨b1, o1, rfl, rF'⟩ := rF.at (by omega)
                        obtain ⟨b2, o2, rfl, rT'⟩ := rT.at (by omega)
                        have t1 := rF' (fl + (n - 1 - x)) (by omega)
                        have t2 := rT' (tl + (m - 1 - y)) (by omega)
                        unfold sv at t1 t2
                        rw [show o1 + (fl + (n - 1 - x)) = o1 + (fl + n - 1 - x) by omega] at t1
                        rw [show o2 + (tl + (m - 1 - y)) = o2 + (tl + m - 1 - y) by omega] at t2
                        by_cases he : ((X.getD (fl + (n - 1 - x)) ByteArray.empty).toList == (Y.getD (tl + (m - 1 - y)) ByteArray.empty).toList) = true
                        · have Hm : Hid ((My.Rev (My.Win (Eqs X Y) fl tl n m) n m) x y) := ⟨c1, c2, by omega, by omega, by omega, by omega, he⟩
                          clear rF rT rF' rT' hrF hrT
                          generalize X.getD (fl + (n - 1 - x)) ByteArray.empty = s1 at t1 he
                          generalize Y.getD (tl + (m - 1 - y)) ByteArray.empty = s2 at t2 he
                          go_wp2
                          go_quiet (fail)
                          go_wp2
                          refine Handed.intro (n - (x + 1)) (by omega) (hJ5 _ _ _ ?_)
                          refine ⟨⟨rfl, rfl, rfl, rfl, rfl, rfl, rfl, rfl, rfl, rfl, rfl, rfl, rfl, rfl, rfl⟩, rfl, rfl, rfl, rfl, ⟨x + 1, y + 1, c + 1, by go_num, by go_num, by have := Hx.out; omega, by have := Hy.out; omega, rfl, fun i hi => ?_⟩, Z1.out.drewN _⟩
                          by_cases hic : i < c
                          · exact Hrun.out i hic
                          · have e : i = c := by omega
                            rw [e, ← Hx.out, ← Hy.out]; exact Hm.out
                        · have hne : ((X.getD (fl + (n - 1 - x)) ByteArray.empty).toList == (Y.getD (tl + (m - 1 - y)) ByteArray.empty).toList) = false := by simpa using he
                          have Hm : Hid (¬ (My.Rev (My.Win (Eqs X Y) fl tl n m) n m) x y) := fun h => he h.2.2.2.2.2.2
                          clear rF rT rF' rT' hrF hrT he
                          generalize X.getD (fl + (n - 1 - x)) ByteArray.empty = s1 at t1 hne
                          generalize Y.getD (tl + (m - 1 - y)) ByteArray.empty = s2 at t2 hne
                          go_wp2
                          go_quiet (fail)
                          go_wp2
                          exact ⟨⟨rfl, rfl, rfl, rfl, rfl, rfl, rfl, rfl, rfl, rfl, rfl, rfl, rfl, rfl, rfl⟩, rfl, rfl, rfl, rfl, ⟨⟨c, congrArg (fun z : Nat => Value.int .i64 (z : Int)) Hx.out, congrArg (fun z : Nat => Value.int .i64 (z : Int)) Hy.out, Hrun.out, by rw [← Hx.out, ← Hy.out]; exact Hm.out⟩⟩, Z1.out.drewN _⟩
                      · have c2' : decide ((y : Int) < (m : Int)) = false := by simp; omega
                        have Hm : Hid (¬ (My.Rev (My.Win (Eqs X Y) fl tl n m) n m) x y) := fun h => c2 h.2.1
                        clear rF rT
                        go_wp2
                        go_quiet (fail)
                        go_wp2
                        exact ⟨⟨rfl, rfl, rfl, rfl, rfl, rfl, rfl, rfl, rfl, rfl, rfl, rfl, rfl, rfl, rfl⟩, rfl, rfl, rfl, rfl, ⟨⟨c, congrArg (fun z : Nat => Value.int .i64 (z : Int)) Hx.out, congrArg (fun z : Nat => Value.int .i64 (z : Int)) Hy.out, Hrun.out, by rw [← Hx.out, ← Hy.out]; exact Hm.out⟩⟩, Z1.out.drewN _⟩
                    · have c1' : decide ((x : Int) < (n : Int)) = false := by simp; omega
                      have Hm : Hid (¬ (My.Rev (My.Win (Eqs X Y) fl tl n m) n m) x y) := fun h => c1 h.1
                      clear rF rT
                      go_wp2
                      go_quiet (fail)
                      go_wp2
                      exact ⟨⟨rfl, rfl, rfl, rfl, rfl, rfl, rfl, rfl, rfl, rfl, rfl, rfl, rfl, rfl, rfl⟩, rfl, rfl, rfl, rfl, ⟨⟨c, congrArg (fun z : Nat => Value.int .i64 (z : Int)) Hx.out, congrArg (fun z : Nat => Value.int .i64 (z : Int)) Hy.out, Hrun.out, by rw [← Hx.out, ← Hy.out]; exact Hm.out⟩⟩, Z1.out.drewN _⟩
                clear hKb
                cases bd
                · rw [hb2 rfl] at i1
                  clear hb1 hb2 i2 Z2 HL HR
                  go_wp2
                  exact ⟨⟨rfl, rfl, rfl, rfl, rfl, rfl, rfl, rfl, rfl, rfl, rfl, rfl, rfl, rfl, rfl⟩, rfl, rfl, congrArg (Value.int .i64) (by omega), Z1.out⟩
                · rw [hb1 rfl] at i2
                  clear hb1 hb2 i1 Z2 HL HR
                  go_wp2
                  exact ⟨⟨rfl, rfl, rfl, rfl, rfl, rfl, rfl, rfl, rfl, rfl, rfl, rfl, rfl, rfl, rfl⟩, rfl, rfl, rfl, Z1.out⟩
              clear hKa
              have mk : ∀ bd : Bool, (bd = true → k = -(d : Int) ∨ (k ≠ d ∧ fL < fR)) → (bd = false → ¬ (k = -(d : Int) ∨ (k ≠ d ∧ fL < fR))) → Pick (.bool bd) fL fR s := by
                intro bd h1 h2
                have := Hes.out
                refine ⟨⟨bd, rfl, fun h => ?_, fun h => ?_⟩⟩
                · rw [← this]; unfold My.from'; rw [if_pos (h1 h)]
                · rw [← this]; unfold My.from'; rw [if_neg (h2 h)]; omega
              have Mk := hide mk
              clear mk
              by_cases hk0 : k = -(d : Int)
              · have b1 : (k == -(d : Int)) = true := by simp [hk0]
                have M1 := hide (Mk.out true (fun _ => Or.inl hk0) (fun h => by cases h))
                clear hk0
                go_quiet (fail)
                go_wp2
                exact ⟨⟨rfl, rfl, rfl, rfl, rfl, rfl, rfl, rfl, rfl, rfl, rfl, rfl, rfl, rfl, rfl⟩, rfl, rfl, M1.out, Z1.out.drewN _⟩
              · have b1 : (k == -(d : Int)) = false := by simp [hk0]
                by_cases hkd2 : k = (d : Int)
                · have b2 : (k != (d : Int)) = false := by simp [hkd2]
                  have M1 := hide (Mk.out false (fun h => by cases h) (fun _ h => h.elim (fun h => hk0 h) (fun h => h.1 hkd2)))
                  clear hk0 hkd2
                  go_quiet (fail)
                  go_wp2
                  exact ⟨⟨rfl, rfl, rfl, rfl, rfl, rfl, rfl, rfl, rfl, rfl, rfl, rfl, rfl, rfl, rfl⟩, rfl, rfl, M1.out, Z1.out.drewN _⟩
                · have b2 : (k != (d : Int)) = true := by simp [hkd2]
                  by_cases hlt : fL < fR
                  · have M1 := hide (Mk.out true (fun _ => Or.inr ⟨hkd2, hlt⟩) (fun h => by cases h))
                    clear hk0 hkd2
                    go_quiet (fail)
                    go_wp2
                    exact ⟨⟨rfl, rfl, rfl, rfl, rfl, rfl, rfl, rfl, rfl, rfl, rfl, rfl, rfl, rfl, rfl⟩, rfl, rfl, M1.out, Z1.out.drewN _⟩
                  · have M1 := hide (Mk.out false (fun h => by cases h) (fun _ h => h.elim (fun h => hk0 h) (fun h => hlt h.2)))
                    clear hk0 hkd2
                    go_quiet (fail)
                    go_wp2
                    exact ⟨⟨rfl, rfl, rfl, rfl, rfl, rfl, rfl, rfl, rfl, rfl, rfl, rfl, rfl, rfl, rfl⟩, rfl, rfl, M1.out, Z1.out.drewN _⟩
            · have hnext : Srch (My.Win (Eqs X Y) fl tl n m) n m (q + 1) (d + 1) fw bw := hhf.last (by omega)
              have htime := My.in_time hnext.least hdist
              have hd0 : ((d : Int) == 1024) = false := by simp; omega
              have Y1 : Hid (St w0 wr S O F B cap N (.slice aF nF cF) (.slice aT nT cT) l fw bw) := hst
              have Y2 := hide hnext
              clear hst hhf hnext
              go_wp2
              refine Handed.intro (q - d) (by omega) (hJ1 _ _ _ ?_)
              exact ⟨⟨rfl, rfl, rfl, rfl, rfl, rfl, rfl, rfl, rfl, rfl, rfl, rfl, rfl, rfl, rfl⟩, d + 1, _, _, by omega, by omega, by omega, by go_num, Y1.out, Y2.out⟩
    · skip
      have htime := My.in_time hsr.least hdist
      exact absurd htime.2 (by omega)

end Go.Proofs.Qxb6606138aDoor

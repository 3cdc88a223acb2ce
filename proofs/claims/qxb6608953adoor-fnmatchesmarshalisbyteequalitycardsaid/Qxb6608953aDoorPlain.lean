/-
  Seat b6608953aD: the plain side: how a text is escaped, cleaned and read back; no Go in sight.
-/
import Derived.Lib.ValidLaws
import Derived.Lib.MapLaws
import Derived.Lib.IndexMore
namespace Go.Proofs.Qxb6608953aDoor
open Go.Lib

def hexD (d : Nat) : UInt8 := if d < 10 then UInt8.ofNat (48 + d) else UInt8.ofNat (87 + d)

/-- One rune, escaped; m: as Marshal does. -/
def esc1 (m : Bool) (r sz : Nat) (bs : List UInt8) : List UInt8 :=
  if r = 65533 ∧ sz = 1 then [92, 117, 102, 102, 102, 100]
  else if r = 34 ∨ r = 92 then [92, UInt8.ofNat r]
  else if r = 10 then [92, 110]
  else if r = 13 then [92, 114]
  else if r = 9 then [92, 116]
  else if m = true ∧ r = 8 then [92, 98]
  else if m = true ∧ r = 12 then [92, 102]
  else if r < 32 ∨ (m = true ∧ (r = 60 ∨ r = 62 ∨ r = 38)) then [92, 117, 48, 48, hexD (r / 16), hexD (r % 16)]
  else if r = 8232 ∨ r = 8233 then [92, 117, 50, 48, 50, hexD (r % 16)]
  else bs

def esc (m : Bool) : Nat → List UInt8 → List UInt8
  | 0, _ => []
  | n + 1, l => if l = [] then [] else esc1 m (decodeL l).1 (decodeL l).2 (l.take (decodeL l).2) ++ esc m n (l.drop (decodeL l).2)

def san1 (r sz : Nat) (bs : List UInt8) : List UInt8 := if r = 65533 ∧ sz = 1 then [239, 191, 189] else bs

def san : Nat → List UInt8 → List UInt8
  | 0, _ => []
  | n + 1, l => if l = [] then [] else san1 (decodeL l).1 (decodeL l).2 (l.take (decodeL l).2) ++ san n (l.drop (decodeL l).2)

/-- The value of a hexadecimal digit. -/
def hexV (c : UInt8) : Option Nat :=
  if 48 ≤ c.toNat ∧ c.toNat ≤ 57 then some (c.toNat - 48)
  else if 97 ≤ c.toNat ∧ c.toNat ≤ 102 then some (c.toNat - 97 + 10)
  else if 65 ≤ c.toNat ∧ c.toNat ≤ 70 then some (c.toNat - 65 + 10)
  else none

/-- The UTF-8 text of v, below 65536. -/
def enc (v : Nat) : List UInt8 :=
  if v < 128 then [UInt8.ofNat v]
  else if v < 2048 then [UInt8.ofNat (192 + v / 64), UInt8.ofNat (128 + v % 64)]
  else [UInt8.ofNat (224 + v / 4096), UInt8.ofNat (128 + v / 64 % 64), UInt8.ofNat (128 + v % 64)]

/-- The short escapes. -/
def simp1 (e : UInt8) : Option UInt8 :=
  if e = 34 ∨ e = 92 ∨ e = 47 then some e
  else if e = 110 then some 10
  else if e = 114 then some 13
  else if e = 116 then some 9
  else if e = 98 then some 8
  else if e = 102 then some 12
  else none

/-- The text reads back as. -/
inductive Une : List UInt8 → List UInt8 → Prop
  | nil : Une [] []
  | raw (c : UInt8) (t o : List UInt8) (hc : c ≠ 92) (h : Une t o) : Une (c :: t) (c :: o)
  | uni (a b c d : UInt8) (p q r s : Nat) (t o : List UInt8) (ha : hexV a = some p) (hb : hexV b = some q) (hc : hexV c = some r) (hd : hexV d = some s)
      (hv : ¬ (55296 ≤ ((p * 16 + q) * 16 + r) * 16 + s ∧ ((p * 16 + q) * 16 + r) * 16 + s ≤ 57343)) (h : Une t o) :
      Une (92 :: 117 :: a :: b :: c :: d :: t) (enc (((p * 16 + q) * 16 + r) * 16 + s) ++ o)
  | short (e b : UInt8) (t o : List UInt8) (he : simp1 e = some b) (h : Une t o) : Une (92 :: e :: t) (b :: o)

theorem Une.raws : ∀ (bs : List UInt8) {t o : List UInt8}, (∀ b ∈ bs, b ≠ 92) → Une t o → Une (bs ++ t) (bs ++ o)
  | [], _, _, _, h => h
  | b :: bs, _, _, hb, h => .raw b _ _ (hb b (by simp)) (Une.raws bs (fun x hx => hb x (by simp [hx])) h)

theorem take_high (l : List UInt8) (hne : l ≠ []) (h0 : 128 ≤ (l.getD 0 0).toNat) : ∀ b ∈ l.take (decodeL l).2, 128 ≤ b.toNat := by
  have hl : 0 < l.length := List.length_pos_iff.2 hne
  intro b hb
  obtain ⟨k, hk, rfl⟩ := List.mem_iff_getElem.1 hb
  have hk' : k < (decodeL l).2 ∧ k < l.length := by
    have := hk
    simp at this
    omega
  rw [List.getElem_take]
  have hg : ∀ (h : k < l.length), l[k] = l.getD k 0 := fun h => by simp [List.getD_eq_getElem?_getD, h]
  rw [hg hk'.2]
  have hk1 := hk'.1
  rw [decodeL_N] at hk1
  rcases decodeN_shape l.length (l.getD 0 0).toNat (l.getD 1 0).toNat (l.getD 2 0).toNat (l.getD 3 0).toNat with ⟨c, e⟩ | ⟨c1, c2, c3, cv, e⟩ | ⟨c1, c2, c3, c4, cv, cs, e⟩ | ⟨c1, c2, c3, c4, c5, cv, cw, e⟩ | e
  · omega
  · rw [e] at hk1
    have : k = 0 ∨ k = 1 := by simp at hk1; omega
    rcases this with rfl | rfl <;> omega
  · rw [e] at hk1
    have : k = 0 ∨ k = 1 ∨ k = 2 := by simp at hk1; omega
    rcases this with rfl | rfl | rfl <;> omega
  · rw [e] at hk1
    have : k = 0 ∨ k = 1 ∨ k = 2 ∨ k = 3 := by simp at hk1; omega
    rcases this with rfl | rfl | rfl | rfl <;> omega
  · rw [e] at hk1
    have : k = 0 := by simp at hk1; omega
    subst this
    exact h0

/-- A rune from 128 on begins with a byte from 128 on. -/
theorem rune_high (l : List UInt8) (h0 : 128 ≤ (l.getD 0 0).toNat) : 128 ≤ (decodeL l).1 := by
  rw [decodeL_N]
  rcases decodeN_shape l.length (l.getD 0 0).toNat (l.getD 1 0).toNat (l.getD 2 0).toNat (l.getD 3 0).toNat with ⟨c, e⟩ | ⟨c1, c2, c3, cv, e⟩ | ⟨c1, c2, c3, c4, cv, cs, e⟩ | ⟨c1, c2, c3, c4, c5, cv, cw, e⟩ | e <;> rw [e] <;> dsimp only <;> omega

/-- The two kinds of head. -/
theorem head_kind (l : List UInt8) (hne : l ≠ []) : (∃ c t, l = c :: t ∧ c.toNat < 128 ∧ decodeL l = (c.toNat, 1)) ∨ (128 ≤ (decodeL l).1 ∧ ∀ b ∈ l.take (decodeL l).2, 128 ≤ b.toNat) := by
  by_cases h0 : 128 ≤ (l.getD 0 0).toNat
  · exact .inr ⟨rune_high l h0, take_high l hne h0⟩
  · cases l with
    | nil => exact absurd rfl hne
    | cons c t =>
      have hc : c.toNat < 128 := by simpa using h0
      exact .inl ⟨c, t, rfl, hc, decodeL_ascii c t hc⟩

theorem three {l : List UInt8} (h : 2 < l.length) : ∃ a b c t, l = a :: b :: c :: t := by
  match l, h with
  | a :: b :: c :: t, _ => exact ⟨a, b, c, t, rfl⟩
  | [], h => exact absurd h (by decide)
  | [_], h => exact absurd h (by simp)
  | [_, _], h => exact absurd h (by simp)

/-- U+2028 and U+2029 stand as their three bytes. -/
theorem sep_bytes (l : List UInt8) (h : (decodeL l).1 = 8232 ∨ (decodeL l).1 = 8233) : l.take (decodeL l).2 = [226, 128, UInt8.ofNat ((decodeL l).1 - 8064)] := by
  rw [decodeL_N] at h ⊢
  have b0 := (l.getD 0 0).toNat_lt
  have b1 := (l.getD 1 0).toNat_lt
  have b2 := (l.getD 2 0).toNat_lt
  rcases decodeN_shape l.length (l.getD 0 0).toNat (l.getD 1 0).toNat (l.getD 2 0).toNat (l.getD 3 0).toNat with ⟨c, e⟩ | ⟨c1, c2, c3, cv, e⟩ | ⟨c1, c2, c3, c4, cv, cs, e⟩ | ⟨c1, c2, c3, c4, c5, cv, cw, e⟩ | e
  · rw [e] at h; dsimp only at h; omega
  · rw [e] at h; dsimp only at h; omega
  · rw [e] at h ⊢
    dsimp only at h ⊢
    obtain ⟨a, b, c, t, rfl⟩ := three c2
    simp only [List.getD_cons_zero, List.getD_cons_succ] at *
    have e0 : a = 226 := by apply UInt8.toNat.inj; show _ = 226; omega
    have e1 : b = 128 := by apply UInt8.toNat.inj; show _ = 128; omega
    have e2 : c = UInt8.ofNat (a.toNat % 16 * 4096 + b.toNat % 64 * 64 + c.toNat % 64 - 8064) := by
      apply UInt8.toNat.inj
      rw [UInt8.toNat_ofNat']
      omega
    rw [← e2, e0, e1]
    rfl
  · rw [e] at h; dsimp only at h; omega
  · rw [e] at h; dsimp only at h; omega

theorem hexV_hexD : ∀ d : Fin 16, hexV (hexD d.val) = some d.val := by decide
theorem hexV_hex (d : Nat) (h : d < 16) : hexV (hexD d) = some d := hexV_hexD ⟨d, h⟩

/-- One rune reads back. -/
theorem une1 (l : List UInt8) (hne : l ≠ []) {t o : List UInt8} (h : Une t o) :
    Une (esc1 false (decodeL l).1 (decodeL l).2 (l.take (decodeL l).2) ++ t) (san1 (decodeL l).1 (decodeL l).2 (l.take (decodeL l).2) ++ o) := by
  rcases head_kind l hne with ⟨c, t', rfl, hc, hd⟩ | ⟨hr, hb⟩
  · rw [hd]
    have hs : san1 c.toNat 1 ((c :: t').take 1) = [c] := by
      unfold san1
      rw [if_neg (by omega)]
      rfl
    show Une (esc1 false c.toNat 1 ((c :: t').take 1) ++ t) (san1 c.toNat 1 ((c :: t').take 1) ++ o)
    rw [hs]
    have hof : UInt8.ofNat c.toNat = c := by simp
    unfold esc1
    rw [if_neg (by omega)]
    split
    · rename_i h1
      rw [hof]
      refine .short c c _ _ ?_ h
      have : c = 34 ∨ c = 92 := by
        rcases h1 with h1 | h1
        · left; apply UInt8.toNat.inj; exact h1
        · right; apply UInt8.toNat.inj; exact h1
      rcases this with rfl | rfl <;> rfl
    split
    · rename_i h1
      have : c = 10 := UInt8.toNat.inj h1
      subst this
      exact .short 110 10 _ _ rfl h
    split
    · rename_i h1
      have : c = 13 := UInt8.toNat.inj h1
      subst this
      exact .short 114 13 _ _ rfl h
    split
    · rename_i h1
      have : c = 9 := UInt8.toNat.inj h1
      subst this
      exact .short 116 9 _ _ rfl h
    rw [if_neg (by simp), if_neg (by simp)]
    split
    · rename_i h1
      have hlt : c.toNat < 32 := by simpa using h1
      have := Une.uni 48 48 (hexD (c.toNat / 16)) (hexD (c.toNat % 16)) 0 0 (c.toNat / 16) (c.toNat % 16) t o rfl rfl (hexV_hex _ (by omega)) (hexV_hex _ (by omega)) (by omega) h
      have hv : ((0 * 16 + 0) * 16 + c.toNat / 16) * 16 + c.toNat % 16 = c.toNat := by omega
      rw [hv] at this
      have he : enc c.toNat = [c] := by
        unfold enc
        rw [if_pos (by omega), hof]
      rw [he] at this
      exact this
    rw [if_neg (by omega)]
    rename_i h1 _ _ _ _
    refine .raw c _ _ ?_ h
    rintro rfl
    exact h1 (.inr rfl)
  · unfold esc1
    split
    · rename_i h1
      have hs : san1 (decodeL l).1 (decodeL l).2 (l.take (decodeL l).2) = [239, 191, 189] := by
        unfold san1
        rw [if_pos h1]
      rw [hs]
      exact Une.uni 102 102 102 100 15 15 15 13 t o rfl rfl rfl rfl (by omega) h
    · rename_i h0
      have hs : san1 (decodeL l).1 (decodeL l).2 (l.take (decodeL l).2) = l.take (decodeL l).2 := by
        unfold san1
        rw [if_neg h0]
      rw [hs, if_neg (by omega), if_neg (by omega), if_neg (by omega), if_neg (by omega), if_neg (by simp), if_neg (by simp), if_neg (by simp; omega)]
      split
      · rename_i h1
        rw [sep_bytes l h1]
        rcases h1 with h1 | h1
        · rw [h1]
          exact Une.uni 50 48 50 (hexD 8) 2 0 2 8 t o rfl rfl rfl (hexV_hex 8 (by omega)) (by omega) h
        · rw [h1]
          exact Une.uni 50 48 50 (hexD 9) 2 0 2 9 t o rfl rfl rfl (hexV_hex 9 (by omega)) (by omega) h
      · refine Une.raws _ (fun b hb' => ?_) h
        have := hb b hb'
        rintro rfl
        simp at this

theorem une_esc : ∀ (n : Nat) (l : List UInt8), Une (esc false n l) (san n l)
  | 0, _ => .nil
  | n + 1, l => by
    unfold esc san
    by_cases hne : l = []
    · rw [if_pos hne, if_pos hne]; exact .nil
    · rw [if_neg hne, if_neg hne]
      exact une1 l hne (une_esc n _)

/-- The five bytes that Marshal writes in another way. -/
def spec (b : UInt8) : Bool := b == 60 || b == 62 || b == 38 || b == 8 || b == 12

theorem esc1_same (l : List UInt8) (hne : l ≠ []) (h : ∀ b ∈ l.take (decodeL l).2, spec b = false) :
    esc1 true (decodeL l).1 (decodeL l).2 (l.take (decodeL l).2) = esc1 false (decodeL l).1 (decodeL l).2 (l.take (decodeL l).2) := by
  have hn : (decodeL l).1 ≠ 60 ∧ (decodeL l).1 ≠ 62 ∧ (decodeL l).1 ≠ 38 ∧ (decodeL l).1 ≠ 8 ∧ (decodeL l).1 ≠ 12 := by
    rcases head_kind l hne with ⟨c, t', rfl, hc, hd⟩ | ⟨hr, hb⟩
    · rw [hd] at h ⊢
      have := h c (by simp)
      simp only [spec, Bool.or_eq_false_iff, beq_eq_false_iff_ne] at this
      obtain ⟨⟨⟨⟨h1, h2⟩, h3⟩, h4⟩, h5⟩ := this
      refine ⟨fun e => h1 (UInt8.toNat.inj e), fun e => h2 (UInt8.toNat.inj e), fun e => h3 (UInt8.toNat.inj e), fun e => h4 (UInt8.toNat.inj e), fun e => h5 (UInt8.toNat.inj e)⟩
    · omega
  obtain ⟨h1, h2, h3, h4, h5⟩ := hn
  unfold esc1
  simp only [h1, h2, h3, h4, h5, and_false, or_false, if_false]

/-- A special byte in the head is the head. -/
theorem head_spec (l : List UInt8) (hne : l ≠ []) (b : UInt8) (hb : b ∈ l.take (decodeL l).2) (hs : spec b = true) : ∃ t, l = b :: t ∧ decodeL l = (b.toNat, 1) := by
  rcases head_kind l hne with ⟨c, t', rfl, hc, hd⟩ | ⟨hr, hh⟩
  · rw [hd] at hb
    have : b = c := by simpa using hb
    subst this
    exact ⟨t', rfl, hd⟩
  · have := hh b hb
    exfalso
    have hlt : b.toNat < 128 := by
      simp only [spec, Bool.or_eq_true, beq_iff_eq] at hs
      rcases hs with (((rfl | rfl) | rfl) | rfl) | rfl <;> decide
    omega

theorem esc_same : ∀ (n : Nat) (l : List UInt8), (∀ b ∈ l, spec b = false) → esc true n l = esc false n l
  | 0, _, _ => rfl
  | n + 1, l, h => by
    unfold esc
    by_cases hne : l = []
    · rw [if_pos hne, if_pos hne]
    · rw [if_neg hne, if_neg hne, esc1_same l hne (fun b hb => h b (List.mem_of_mem_take hb)), esc_same n _ (fun b hb => h b (List.mem_of_mem_drop hb))]

theorem spec_diff (b : UInt8) (hs : spec b = true) (t t' : List UInt8) : esc1 true b.toNat 1 [b] ++ t ≠ esc1 false b.toNat 1 [b] ++ t' := by
  simp only [spec, Bool.or_eq_true, beq_iff_eq] at hs
  rcases hs with (((rfl | rfl) | rfl) | rfl) | rfl <;> simp [esc1, hexD]

theorem esc_diff : ∀ (n : Nat) (l : List UInt8), l.length ≤ n → (∃ b ∈ l, spec b = true) → esc true n l ≠ esc false n l
  | 0, l, hl, ⟨b, hb, _⟩ => by
    have : l = [] := List.length_eq_zero_iff.1 (by omega)
    subst this
    cases hb
  | n + 1, l, hl, ⟨b, hb, hs⟩ => by
    have hne : l ≠ [] := by rintro rfl; cases hb
    have hw := decodeL_width l
    unfold esc
    rw [if_neg hne, if_neg hne]
    by_cases hx : ∃ c ∈ l.take (decodeL l).2, spec c = true
    · obtain ⟨c, hc, hcs⟩ := hx
      obtain ⟨t, rfl, hd⟩ := head_spec l hne c hc hcs
      rw [hd]
      exact spec_diff c hcs _ _
    · have hno : ∀ c ∈ l.take (decodeL l).2, spec c = false := fun c hc => by
        cases h : spec c with
        | false => rfl
        | true => exact absurd ⟨c, hc, h⟩ hx
      rw [esc1_same l hne hno]
      intro he
      have he' := List.append_cancel_left he
      refine esc_diff n _ (by rw [List.length_drop]; omega) ⟨b, ?_, hs⟩ he'
      have hsp : b ∈ l.take (decodeL l).2 ∨ b ∈ l.drop (decodeL l).2 := by
        rw [← List.mem_append, List.take_append_drop]; exact hb
      rcases hsp with h1 | h1
      · rw [hno b h1] at hs; cases hs
      · exact h1

/-- **The plain law of Marshal's five characters.** -/
theorem marshal_law (l : List UInt8) : (!l.any spec) = (esc false l.length l == esc true l.length l) := by
  cases h : l.any spec with
  | false =>
    have hn : ∀ b ∈ l, spec b = false := fun b hb => by
      cases hs : spec b with
      | false => rfl
      | true => rw [List.any_eq_true.2 ⟨b, hb, hs⟩] at h; cases h
    rw [esc_same _ l hn]; simp
  | true =>
    have := esc_diff l.length l (Nat.le_refl _) (by simpa using List.any_eq_true.1 h)
    symm
    simp
    exact fun e => this e.symm

end Go.Proofs.Qxb6608953aDoor

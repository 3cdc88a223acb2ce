/-
  Seat b6609191aD: rows that a call owns and grows: where a grown row lies; what an append leaves as it was.
-/
import Derived.Test.Qxb6609191aDoorProg
import Derived.Laws.AppendOwn
import Derived.OwnWalk
import Derived.Below
import Derived.WalkKit
import Derived.Lib.Bytealg
namespace Go.Proofs.Qxb6609191aDoor
open Go.RowKit Go.Lib

theorem Tryd.info5 : (Tryd.prog.info? 5).map (fun i => (i.zero, i.size, i.bytes)) = some (some (.int .u8 0), 1, 1) := by kernel_rfl
theorem Tryd.info22 : (Tryd.prog.info? 22).map (fun i => (i.zero, i.size, i.bytes)) = some (some (.slice none 0 0), 1, 24) := by kernel_rfl

/-- A fact that no tactic looks into. -/
structure Shut (p : Prop) : Prop where
  out : p

/-- A byte, as memory holds it. -/
def bv (b : UInt8) : Value := .int .u8 b.toNat

/-- The row of a value that an append hands back lies where the old one lay, or it is new. -/
def Lies (w : World) (v v' : Value) : Prop := v'.ownBlock = v.ownBlock ∨ ∀ k, v'.ownBlock = some k → w.heap.size ≤ k

section
variable {P : Program} (w : World)

/-- append onto an owned row: a slice of cells that are there. -/
theorem run_app (base : Nat) (t ty e : TypeId) (i : TypeInfo) (z : Value) (bytes : Nat) (ht : P.underlying t = some (.slice e)) (hi : P.info? e = some i) (hz : i.zero = some z)
    (hsize : i.size = 1) (hby : i.bytes = bytes) (hzs : z.cells.size = 1)
    (v : Value) (n : Nat) (xs : List Value) (hown : w.ownsRow base e 1 v n xs)
    (a : Addr) (c : Nat) (news : List Value) (hnews : ∀ j u, news[j]? = some u → w.cell? (a.add j) = some u) (h1 : ∀ u ∈ news, u.oneCell' = true)
    (h63 : n + news.length ≤ maxLen) (hbytes : (n + news.length) * bytes ≤ 140737488355328) (hbase : base ≤ w.heap.size) :
    ∃ v' w', (Builtin.append_ #[t, t] ty #[v, .slice (some a) news.length c]).run P w = .ok v' w' ∧ w'.ownsRow base e 1 v' (n + news.length) (xs ++ news) ∧ w.grownBy w' v.ownBlock ∧ Lies w v v' := by
  obtain ⟨v', w', hr, h2, h3, h4⟩ := run_append_own (P := P) w base t ty e i z 1 bytes ht hi hz hsize hby hzs (by omega) v n xs hown a news.length c news (by omega) hnews h1 h63 hbytes hbase
  refine ⟨v', w', hr, h2, h3, ?_⟩
  rcases hown.2 with ⟨rfl, rfl⟩ | ⟨g, cap, cur, rfl, hbg, hg, hnc, hcm, hcs, htake⟩
  · have hx : xs = [] := List.eq_nil_of_length_eq_zero (by simpa using hown.1)
    subst hx
    obtain ⟨v2, w2, hr2, h22, _, _⟩ := run_append_own (P := P) w w.heap.size t ty e i z 1 bytes ht hi hz hsize hby hzs (by omega) (.slice none 0 0) 0 [] (World.ownsRow_nil _ _ _ _) a news.length c news (by omega) hnews h1 h63 hbytes (Nat.le_refl _)
    rw [hr] at hr2
    obtain ⟨rfl, rfl⟩ : v' = v2 ∧ w' = w2 := by
      injection hr2 with e1 e2
      exact ⟨e1, e2⟩
    exact .inr fun k hk => (h22.lt k hk).1
  · by_cases hroom : n + news.length ≤ cap
    · have hrr := run_append_room (P := P) w t ty e i ht hi g n cap cur hg a news.length c news (by rw [hsize]; omega) hnews h1 hroom (by rw [hsize]; omega)
      rw [hr] at hrr
      injection hrr with e1 e2
      exact .inl (by rw [e1]; rfl)
    · have holds : ∀ j u, xs[j]? = some u → w.cell? ((⟨g, 0, none⟩ : Addr).add j) = some u := hown.cells (g := g) rfl
      have hrr := run_append_grow (P := P) w t ty e i z ht hi hz ⟨g, 0, none⟩ n cap xs (by rw [hsize, hown.1]) holds a news.length c news (by rw [hsize]; omega) hnews (by omega) (by simp only [maxLen] at h63; omega) (growslice_fits (by omega) (by rw [hby]; exact hbytes))
      rw [hr] at hrr
      injection hrr with e1 e2
      exact .inr fun k hk => by
        rw [e1] at hk
        simp only [Value.ownBlock, Option.some.injEq] at hk
        omega

/-- append onto an owned row: nil. -/
theorem run_app_nil (t ty e : TypeId) (i : TypeInfo) (ht : P.underlying t = some (.slice e)) (hi : P.info? e = some i) (v : Value) (n : Nat) (xs : List Value) (base : Nat) (hown : w.ownsRow base e 1 v n xs) :
    (Builtin.append_ #[t, t] ty #[v, .slice none 0 0]).run P w = .ok v w := by
  rcases hown.2 with ⟨rfl, rfl⟩ | ⟨g, cap, cur, rfl, hbg, hg, hnc, hcm, hcs, htake⟩
  · simp [Builtin.append_, run_underlying ht, sizeOf, typeInfo, hi, Builtin.lenOf, Builtin.firstCells]
  · simp [Builtin.append_, run_underlying ht, sizeOf, typeInfo, hi, Builtin.lenOf, Builtin.firstCells, hnc]
    rfl
end

/-- The slice v reads as the bytes l; where it holds any it does not lie in the block x. -/
def Rb (w : World) (x : Option Nat) (v : Value) (l : List UInt8) : Prop :=
  ∃ ad cap, v = .slice ad l.length cap ∧ l.length ≤ cap ∧ ((ad = none ∧ l = [] ∧ cap = 0) ∨
    ∃ b off, ad = some ⟨b, off, none⟩ ∧ (l = [] ∨ (x ≠ some b ∧ ∃ cur, w.heap[b]? = some (.cells cur 5) ∧ ∀ i, i < l.length → cur[off + i]? = some (bv (l.getD i 0)))))

theorem cell_of_block {w : World} {b i : Nat} {cur : Array Value} {t : TypeId} {v : Value} (h : w.heap[b]? = some (.cells cur t)) (hc : cur[i]? = some v) : w.cell? ⟨b, i, none⟩ = some v := by
  simp [World.cell?, h, hc]

theorem addr_add (b off i : Nat) : (⟨b, off, none⟩ : Addr).add i = ⟨b, off + i, none⟩ := by
  by_cases h : i = 0
  · subst h; simp [Addr.add]
  · simp [Addr.add, h]

theorem Rb.nil (w : World) (x : Option Nat) : Rb w x (.slice none 0 0) [] := ⟨none, 0, rfl, Nat.le_refl _, .inl ⟨rfl, rfl, rfl⟩⟩

/-- The same bytes in another world. -/
theorem Rb.same {w w' : World} {x x' : Option Nat} {v : Value} {l : List UInt8} (h : Rb w x v l)
    (hs : ∀ b cur, w.heap[b]? = some (.cells cur 5) → x ≠ some b → w'.heap[b]? = w.heap[b]? ∧ x' ≠ some b) : Rb w' x' v l := by
  obtain ⟨ad, cap, h1, h2, h3⟩ := h
  refine ⟨ad, cap, h1, h2, ?_⟩
  rcases h3 with h3 | ⟨b, off, h4, h5⟩
  · exact .inl h3
  · refine .inr ⟨b, off, h4, ?_⟩
    rcases h5 with h5 | ⟨h5, cur, h6, h7⟩
    · exact .inl h5
    · obtain ⟨e1, e2⟩ := hs b cur h6 h5
      exact .inr ⟨e2, cur, by rw [e1]; exact h6, h7⟩

/-- The cells of a slice that reads. -/
theorem Rb.at {w : World} {x : Option Nat} {v : Value} {l : List UInt8} (h : Rb w x v l) (hn : l ≠ []) :
    ∃ b off cap, v = .slice (some ⟨b, off, none⟩) l.length cap ∧ l.length ≤ cap ∧ x ≠ some b ∧ (∃ cur, w.heap[b]? = some (.cells cur 5)) ∧ ∀ i, i < l.length → w.cell? ⟨b, off + i, none⟩ = some (bv (l.getD i 0)) := by
  obtain ⟨ad, cap, h1, h2, h3⟩ := h
  rcases h3 with ⟨_, h3, _⟩ | ⟨b, off, rfl, h5⟩
  · exact absurd h3 hn
  · rcases h5 with h5 | ⟨h5, cur, h6, h7⟩
    · exact absurd h5 hn
    · exact ⟨b, off, cap, h1, h2, h5, ⟨cur, h6⟩, fun i hi => cell_of_block h6 (h7 i hi)⟩

theorem Rb.val {w : World} {x : Option Nat} {v : Value} {l : List UInt8} (h : Rb w x v l) : ∃ ad cap, v = .slice ad l.length cap ∧ l.length ≤ cap := by
  obtain ⟨ad, cap, h1, h2, _⟩ := h
  exact ⟨ad, cap, h1, h2⟩

/-- A part of a slice that reads. -/
theorem Rb.part {w : World} {x : Option Nat} {b off n cap : Nat} {l : List UInt8} (h : Rb w x (.slice (some ⟨b, off, none⟩) n cap) l) (i j : Nat) (hij : i ≤ j) (hj : j ≤ l.length) :
    Rb w x (.slice (some ⟨b, off + i, none⟩) (j - i) (cap - i)) ((l.drop i).take (j - i)) := by
  obtain ⟨ad, c, h1, h2, h3⟩ := h
  injection h1 with h1 h1b h1c
  subst h1 h1c
  have hl : ((l.drop i).take (j - i)).length = j - i := by rw [List.length_take, List.length_drop]; omega
  refine ⟨_, _, by rw [hl], by rw [hl]; omega, .inr ⟨b, off + i, rfl, ?_⟩⟩
  rcases h3 with ⟨h3, _⟩ | ⟨b', off', h4, h5⟩
  · cases h3
  · injection h4 with h4
    injection h4 with h4 h4b
    subst h4 h4b
    rcases h5 with rfl | ⟨h5, cur, h6, h7⟩
    · exact .inl (by simp)
    · refine .inr ⟨h5, cur, h6, fun k hk => ?_⟩
      rw [hl] at hk
      rw [Nat.add_assoc, h7 (i + k) (by omega)]
      congr 2
      simp only [List.getD_eq_getElem?_getD]
      rw [List.getElem?_take, if_pos hk, List.getElem?_drop]

theorem Rb.news {w : World} {x : Option Nat} {ad : Addr} {c n : Nat} {m : List UInt8} (h : Rb w x (.slice (some ad) n c) m) : ∀ j u, (m.map bv)[j]? = some u → w.cell? (ad.add j) = some u := by
  intro j u hj
  obtain ⟨ad', cap, h1, h2, h3⟩ := h
  injection h1 with h1 h1b h1c
  rcases h3 with ⟨h3, _⟩ | ⟨b, off, h4, h5⟩
  · rw [h3] at h1; cases h1
  · rw [h4] at h1
    injection h1 with h1
    subst h1
    rcases h5 with rfl | ⟨h5, cur, h6, h7⟩
    · simp at hj
    · rw [addr_add]
      rw [List.getElem?_map] at hj
      obtain ⟨y, hy, rfl⟩ := Option.map_eq_some_iff.1 hj
      have hlt : j < m.length := (List.getElem?_eq_some_iff.1 hy).1
      refine cell_of_block h6 ?_
      rw [h7 j hlt, List.getD_eq_getElem?_getD, hy]
      rfl

theorem bv_one (m : List UInt8) : ∀ u ∈ m.map bv, u.oneCell' = true := by
  intro u hu
  obtain ⟨b, _, rfl⟩ := List.mem_map.1 hu
  rfl

/-- append(buf, x...) of bytes. -/
theorem wp_app5 {w : World} {o : Oper} {a : Act} {K : Act → World → Prop} {Q : Exit → Act → World → Prop} (s y : Operand)
    (ho : o.op = .call { callee := .builtin .append, args := #[s, y], argTypes := #[22, 22] }) (B : Nat) (v vx : Value) (l m : List UInt8) (x : Option Nat)
    (hs : a.eval s = v) (hy : a.eval y = vx) (hown : w.ownsRow B 5 1 v l.length (l.map bv)) (hx : Rb w x vx m) (hlen : l.length + m.length ≤ 140737488355328) (hB : B ≤ w.heap.size)
    (h : ∀ v' w', w'.ownsRow B 5 1 v' (l ++ m).length ((l ++ m).map bv) → w.grownBy w' v.ownBlock → Lies w v v' → K (a.put o.dst v') w') : o.wp Tryd.prog a w K Q := by
  obtain ⟨i, hi, hz, hsz, hby⟩ := info_parts Tryd.info5
  have key : ∃ v' w', (Builtin.append_ #[22, 22] o.type #[v, vx]).run Tryd.prog w = .ok v' w' ∧ w'.ownsRow B 5 1 v' (l ++ m).length ((l ++ m).map bv) ∧ w.grownBy w' v.ownBlock ∧ Lies w v v' := by
    obtain ⟨ad, cap, h1, h2, h3⟩ := id hx
    rcases h3 with ⟨rfl, rfl, rfl⟩ | ⟨b, off, rfl, h5⟩
    · subst h1
      refine ⟨v, w, ?_, ?_, ⟨rfl, rfl, rfl, Nat.le_refl _, fun _ _ _ => rfl⟩, .inl rfl⟩
      · exact run_app_nil w 22 o.type 5 i Tryd.underlying22 hi v _ _ B hown
      · rw [List.append_nil]; exact hown
    · subst h1
      have hn := hx.news
      have := run_app (P := Tryd.prog) w B 22 o.type 5 i (.int .u8 0) 1 Tryd.underlying22 hi hz hsz hby rfl v l.length (l.map bv) hown ⟨b, off, none⟩ cap (m.map bv) hn (bv_one m) (by rw [List.length_map]; simp only [maxLen]; omega) (by rw [List.length_map]; omega) hB
      rw [List.length_map] at this
      obtain ⟨v', w', r1, r2, r3, r4⟩ := this
      exact ⟨v', w', r1, by rw [List.length_append, List.map_append]; exact r2, r3, r4⟩
  obtain ⟨v', w', hr, h2, h3, h4⟩ := key
  unfold Oper.wp execOp
  simp only [ho, resolve, invoke, builtin, Sem.run_bind, Sem.run_pure, Result.andThen_ok, List.map_toArray, List.map_cons, List.map_nil, hs, hy, hr]
  exact h v' w' h2 h3 h4

/-- append(list, line). -/
theorem wp_app22 {w : World} {o : Oper} {a : Act} {K : Act → World → Prop} {Q : Exit → Act → World → Prop} (s y : Operand)
    (ho : o.op = .call { callee := .builtin .append, args := #[s, y], argTypes := #[29, 29] }) (B : Nat) (v e : Value) (es : List Value) (ad : Addr) (c : Nat)
    (hs : a.eval s = v) (hy : a.eval y = .slice (some ad) 1 c) (hown : w.ownsRow B 22 1 v es.length es) (hc : w.cell? ad = some e) (h1 : e.oneCell' = true) (hlen : es.length + 1 ≤ 2097152) (hB : B ≤ w.heap.size)
    (h : ∀ v' w', w'.ownsRow B 22 1 v' (es ++ [e]).length (es ++ [e]) → w.grownBy w' v.ownBlock → Lies w v v' → K (a.put o.dst v') w') : o.wp Tryd.prog a w K Q := by
  obtain ⟨i, hi, hz, hsz, hby⟩ := info_parts Tryd.info22
  have := run_app (P := Tryd.prog) w B 29 o.type 22 i (.slice none 0 0) 24 Tryd.underlying29 hi hz hsz hby rfl v es.length es hown ad c [e] (by
      intro j u hj
      rcases j with _ | j
      · simp at hj; subst hj; simpa [Addr.add] using hc
      · simp at hj) (by simpa using h1) (by simp only [maxLen, List.length_cons, List.length_nil]; omega) (by simp only [List.length_cons, List.length_nil]; omega) hB
  obtain ⟨v', w', hr, h2, h3, h4⟩ := this
  simp only [List.length_cons, List.length_nil, Nat.zero_add] at hr h2
  unfold Oper.wp execOp
  simp only [ho, resolve, invoke, builtin, Sem.run_bind, Sem.run_pure, Result.andThen_ok, List.map_toArray, List.map_cons, List.map_nil, hs, hy, hr]
  exact h v' w' (by rw [List.length_append]; exact h2) h3 h4

end Go.Proofs.Qxb6609191aDoor

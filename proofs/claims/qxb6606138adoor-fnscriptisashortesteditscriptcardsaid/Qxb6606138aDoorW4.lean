import Derived.Test.Qxb6606138aDoorW3
import Derived.Test.Qxb6606138aDoorSearch
namespace Go.Proofs.Qxb6606138aDoor
open Go.RowKit

def opv (O n cap : Nat) : Value := .slice (some ⟨O, 0, none⟩) n cap
def u8s (l : List Int) : List Value := l.map (Value.int .u8)

/-- The making of a script, as memory holds it: the struct at S, the ops so far in O, the two rows of the searches in F and B; of the world w0 nothing has turned. -/
structure St (w0 w : World) (S O F B cap N : Nat) (fv tv : Value) (l fw bw : List Int) : Prop where
  struct' : Blk w S 42 [fv, tv, opv O l.length cap, opv F N N, opv B N N]
  ops : w.ownsRow 0 38 1 (opv O l.length cap) l.length (u8s l)
  fwd : Ib w F 3 .i64 fw
  bwd : Ib w B 3 .i64 bw
  fl : fw.length = N
  bl : bw.length = N
  so : S ≠ O
  sf : S ≠ F
  sb : S ≠ B
  of : O ≠ F
  ob : O ≠ B
  fb : F ≠ B
  s0 : w0.heap.size ≤ S
  o0 : w0.heap.size ≤ O
  f0 : w0.heap.size ≤ F
  b0 : w0.heap.size ≤ B
  below : Below w0.heap.size w0 w

theorem St.drewN {w0 w : World} {S O F B cap N : Nat} {fv tv : Value} {l fw bw : List Int} (h : St w0 w S O F B cap N fv tv l fw bw) (q : Nat) : St w0 (w.drewN q) S O F B cap N fv tv l fw bw :=
  { h with struct' := h.struct', ops := h.ops, fwd := h.fwd, bwd := h.bwd, below := below_drewN h.below q }

/-- Behind an append and the store of its answer. -/
theorem St.pushed {w0 w w1 : World} {S O F B cap N : Nat} {fv tv : Value} {l fw bw : List Int} (h : St w0 w S O F B cap N fv tv l fw bw) (ob : Obj) (x : Int)
    (hown : w1.ownsRow 0 38 1 (opv O (l.length + 1) cap) (l.length + 1) (u8s l ++ [.int .u8 x])) (hg : (w.alloc ob).grownBy w1 (some O)) :
    St w0 (w1.setCell ⟨S, 2, none⟩ (opv O (l.length + 1) cap)) S O F B cap N fv tv (l ++ [x]) fw bw := by
  have hS := (h.struct'.alloc ob).grown hg (by simp; exact h.so)
  have hF := (h.fwd.alloc ob).grown hg (by simp; exact fun e => h.of e.symm)
  have hB := (h.bwd.alloc ob).grown hg (by simp; exact fun e => h.ob e.symm)
  have hl : (l ++ [x]).length = l.length + 1 := by simp
  refine { h with struct' := ?_, ops := ?_, fwd := hF.set_ne _ h.sf, bwd := hB.set_ne _ h.sb, below := ?_ }
  · rw [hl]; exact hS.set 2 _
  · rw [hl]
    have e : u8s (l ++ [x]) = u8s l ++ [.int .u8 x] := by simp [u8s]
    rw [e]
    obtain ⟨h1, h2⟩ := hown
    refine ⟨h1, ?_⟩
    rcases h2 with h2 | ⟨g, cp, cur, hv, hg2, hh, r⟩
    · exact Or.inl h2
    · have hO : g = O := by unfold opv at hv; simp at hv; exact hv.1.symm
      subst hO
      exact Or.inr ⟨g, cp, cur, hv, hg2, by rw [Below.heap_setCell _ _ _ _ (fun e => h.so e.symm)]; exact hh, r⟩
  · exact ((h.below.alloc h.below.size ob).grown hg (by have := h.below.size; simp; omega) (fun k e => by cases e; exact h.o0)).setCell h.s0 _

set_option maxHeartbeats 400000 in
theorem add_any (w0 : World) (S O F B cap N : Nat) (fv tv : Value) (l fw bw : List Int) (o : Int) (c : Nat) (hcap : cap ≤ 1048576) (hc : l.length + c ≤ cap) (w : World) (h : St w0 w S O F B cap N fv tv l fw bw) :
    Calls Tryd.prog 29 #[.pointer (some ⟨S, 0, none⟩), .int .u8 o, .int .i64 c] w fun e w' => e = .returned (.tuple #[]) ∧ St w0 w' S O F B cap N fv tv (l ++ List.replicate c o) fw bw := by
  obtain ⟨i0, hi, hz0, hz1, hz2⟩ := info_parts Tryd.info38
  go_enter Tryd.func29, Tryd.ntmps29
  go_wp2
  go_loopw [7] (fun t7 wr => ∃ k : Nat, k ≤ c ∧ t7 = .int .i64 k ∧ St w0 wr S O F B cap N fv tv (l ++ List.replicate k o) fw bw) (fun t7 _ => c - (intOf t7).toNat)
  case atStart => exact ⟨0, Nat.zero_le _, rfl, by simpa using h⟩
  case round =>
    clear h
    obtain ⟨k, hk, rfl, h⟩ := hrel
    by_cases hlt : k < c
    · have hS2 : wr.cell? ⟨S, 2, none⟩ = some (opv O (l ++ List.replicate k o).length cap) := h.struct'.cell rfl
      have X : Hid (St w0 wr S O F B cap N fv tv (l ++ List.replicate k o) fw bw) := h
      have X2 : Hid (wr.ownsRow 0 38 1 (opv O (l ++ List.replicate k o).length cap) (l ++ List.replicate k o).length (u8s (l ++ List.replicate k o))) := h.ops
      have hll : (l ++ List.replicate k o).length + 1 ≤ cap := by simp; omega
      have XE : Hid (l ++ List.replicate (k + 1) o = (l ++ List.replicate k o) ++ [o]) := by
        show l ++ List.replicate (k + 1) o = (l ++ List.replicate k o) ++ [o]
        rw [List.replicate_succ', List.append_assoc]
      clear h
      generalize l ++ List.replicate k o = lk at *
      unfold opv at hS2
      go_wp2_with (at_builtin; refine wpList_append_fits _ rfl _ _ 29 rfl 0 38 i0 1 Tryd.underlying29 hi hz1 O lk.length cap (u8s lk) rfl (X2.out.alloc _) ⟨wr.heap.size, 0, none⟩ 1 1 [.int .u8 o] rfl rfl (cell_one_new _ _ _) (by intro u hu; simp at hu; subst hu; rfl) hll ?_)
      intro w1 hown hg
      have R := X.out.pushed _ o hown hg
      have hS := (X.out.struct'.alloc _).grown hg (by simp; exact X.out.so)
      have f2 := hS.frozen 2
      have c2 : w1.cell? ⟨S, 2, none⟩ = some (opv O lk.length cap) := hS.cell rfl
      have XR : Hid (St w0 (w1.setCell ⟨S, 2, none⟩ (opv O (lk.length + 1) cap)) S O F B cap N fv tv (lk ++ [o]) fw bw) := R
      clear R hown hg hS hS2
      unfold opv at c2 XR
      go_wp2
      go_roundw
      case rel => exact ⟨k + 1, by omega, by go_num, by rw [XE.out]; exact XR.out⟩
      case measure => simp [intOf]; omega
    · go_wp2
      go_end0
      obtain rfl : k = c := by omega
      exact ⟨rfl, h⟩

end Go.Proofs.Qxb6606138aDoor

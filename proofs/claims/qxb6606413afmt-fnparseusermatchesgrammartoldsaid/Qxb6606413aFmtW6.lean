/-
  Seat b6606413aF: User.String, ZZparseUser, the bound; FnParseUserInvertsString.
-/
import Derived.Test.Qxb6606413aFmtUser
namespace Go.Proofs.Qxb6606413aFmt
open Go.RowKit Go.Lib
open Go.Extern.Stop Go.Stop Go.Extern

set_option maxHeartbeats 1600000 in
set_option maxRecDepth 100000 in
theorem userString (ty id rel : ByteArray) (w : World) (h1 : ty.size ≤ 10000000) (h2 : id.size ≤ 10000000) (h3 : rel.size ≤ 10000000) :
    Calls Tryf.prog 8 #[.agg #[.string ty, .string id, .string rel]] w fun e w' => e = .returned (.string (uStr ty id rel)) ∧ Below w.heap.size w w' := by
  have hb0 : Below w.heap.size w (w.alloc (.cells #[.string ty, .string id, .string rel] 24)) := (Below.refl _ w).alloc (Nat.le_refl _) _
  cases hR : rel.toList.isEmpty with
  | true =>
    have hu : uStr ty id rel = ty ++ ⟨#[58]⟩ ++ id := by unfold uStr; rw [if_pos hR]
    rw [hu]
    go_enter Tryf.func8, Tryf.ntmps8
    go_wp2
    go_ret
    exact ⟨rfl, hb0⟩
  | false =>
    have hu : uStr ty id rel = ty ++ ⟨#[58]⟩ ++ id ++ ⟨#[35]⟩ ++ rel := by unfold uStr; rw [hR, if_neg (by simp)]
    rw [hu]
    go_enter Tryf.func8, Tryf.ntmps8
    go_wp2
    go_ret
    exact ⟨rfl, hb0⟩

set_option maxHeartbeats 1600000 in
set_option maxRecDepth 100000 in
theorem zzParseUser (F : Interp) (fm : Bool) (s : ByteArray) (w : World) (hF : F.told.answers w.tape) (hT : Tabs w) (hs : s.size ≤ 1000000000) :
    Calls Tryf.prog 12 #[.bool fm, .string s] w fun e w' => Usr (puOK fm s) (bef 58 s) (bef 35 (aft 58 s)) (aft 35 (aft 58 s)) e ∧ Below w.heap.size w w' := by
  have hb0 : Below w.heap.size w (w.alloc (.cells #[.string ⟨#[]⟩, .string ⟨#[]⟩, .string ⟨#[]⟩] 24)) := (Below.refl _ w).alloc (Nat.le_refl _) _
  have k1 := parseUser F fm s _ (by rw [hb0.tape]; exact hF) (hT.below hb0) hs
  generalize bef 58 s = ty at *
  generalize bef 35 (aft 58 s) = id at *
  generalize aft 35 (aft 58 s) = rl at *
  generalize puOK fm s = ok at *
  have hkeep : ∀ w1, Below (w.heap.size + 1) (w.alloc (.cells #[.string ⟨#[]⟩, .string ⟨#[]⟩, .string ⟨#[]⟩] 24)) w1 → w1.heap[w.heap.size]? = some (.cells #[.string ⟨#[]⟩, .string ⟨#[]⟩, .string ⟨#[]⟩] 24) := fun w1 h => by
    rw [h.block _ (by omega)]
    exact heap_alloc_new w _
  have hc : ∀ w1 : World, w1.heap[w.heap.size]? = some (.cells #[.string ⟨#[]⟩, .string ⟨#[]⟩, .string ⟨#[]⟩] 24) → (w1.cell? ⟨w.heap.size, 0, none⟩ = some (.string ⟨#[]⟩) ∧ w1.cell? ⟨w.heap.size, 1, none⟩ = some (.string ⟨#[]⟩) ∧ w1.cell? ⟨w.heap.size, 2, none⟩ = some (.string ⟨#[]⟩)) ∧ w1.frozen? ⟨w.heap.size, 0, none⟩ = false ∧ w1.frozen? ⟨w.heap.size, 1, none⟩ = false ∧ w1.frozen? ⟨w.heap.size, 2, none⟩ = false := fun w1 h => by
    simp [World.cell?, World.frozen?, h]
  have Hk := hide hkeep
  have Hc := hide hc
  clear hkeep hc
  cases ok with
  | true =>
    go_enter Tryf.func12, Tryf.ntmps12
    go_wp2_with (go_at_call 17; refine k1.mono ?_; rintro e w1 ⟨he, hb1⟩; have he' : e = .returned (.tuple #[.agg #[.string ty, .string id, .string rl], .nilIface]) := he; subst he'; clear he; obtain ⟨⟨ca, cb, cc⟩, fa, fb, fc⟩ := Hc.out w1 (Hk.out w1 (by simpa using hb1)))
    (try simp only [Exit.inBlock, Exit.then])
    refine bodyPost_ret (v := .tuple #[.agg #[.string ty, .string id, .string rl], .nilIface]) ?_ rfl ⟨rfl, ?_⟩
    · rw [results_cell_tmp rfl]
      go_simp
    · exact (((bstep hb0 hb1).setCell (by simp) _).setCell (by simp) _).setCell (by simp) _
  | false =>
    go_enter Tryf.func12, Tryf.ntmps12
    go_wp2_with (go_at_call 17; refine k1.mono ?_; rintro e w1 ⟨⟨a1, rfl⟩, hb1⟩; obtain ⟨⟨ca, cb, cc⟩, fa, fb, fc⟩ := Hc.out w1 (Hk.out w1 (by simpa using hb1)))
    (try simp only [Exit.inBlock, Exit.then])
    refine bodyPost_ret (v := .tuple #[.agg #[.string ⟨#[]⟩, .string ⟨#[]⟩, .string ⟨#[]⟩], .iface 80 (.pointer (some a1))]) ?_ rfl ⟨⟨_, rfl⟩, ?_⟩
    · rw [results_cell_tmp rfl]
      go_simp
    · exact (((bstep hb0 hb1).setCell (by simp) _).setCell (by simp) _).setCell (by simp) _

/-- A bound's answer: whatever it says, where it says true the sizes are small. -/
def Bnd (ok : Prop) (e : Ending) : Prop := ∃ b : Bool, e = .returned (.bool b) ∧ (b = true → ok)

set_option maxHeartbeats 1600000 in
set_option maxRecDepth 100000 in
theorem bytes3 (a b c : ByteArray) (w : World) (h1 : a.size ≤ 140737488355328) (h2 : b.size ≤ 140737488355328) (h3 : c.size ≤ 140737488355328) :
    Calls Tryf.prog 14 #[.string a, .string b, .string c] w fun e w' => Bnd True e ∧ w' = w := by
  go_enter Tryf.func14, Tryf.ntmps14
  go_wp2
  all_goals
    go_ret
    exact ⟨⟨_, rfl, fun _ => trivial⟩, rfl⟩

end Go.Proofs.Qxb6606413aFmt

/-
  THE SHELL OF A PROOF OF 'Rows.LawS3377BModelSaid', turned from the shell of another law of this farm; the walk lies in the text Law.
-/
import Derived.Test.YbulkbqxkRows
import Derived.Test.YbulkbqxkLaw
import Derived.WalkKit
import Derived.ProofKit
import Derived.OpenShut
import Derived.ShutString
import Derived.SliceStrings
import Derived.ChangeOld
import Derived.Below
import Derived.SizedLaws
namespace Go.Proofs.Ybulkbqxk.lawS3377BModel
open Go.ChangeShapes Go.WideShapes Go.ChangeAt Go.RowKit
open Go.ChangeMaps (open_string shut_string)
set_option linter.unusedVariables false

theorem own : ownKnob Yba.prog.godebug = none := by kernel_rfl
theorem laidOut : laidOutB Yba.prog = true := by kernel_rfl

/-- what the walk is told of the slice of strings: it is nil, or its elements are strings of which none is longer than the reach -/
def IsStrs (w : World) (a : Option Addr) (len cap : Nat) : Prop :=
  (a = none ∧ len = 0) ∨ ∃ (x : Addr) (zs : List ByteArray), a = some x ∧ len ≤ zs.length ∧ (∀ i, i < zs.length → w.cell? (x.add i) = some (.string (zs.getD i ByteArray.empty))) ∧ ∀ s ∈ zs.take len, s.size ≤ 140737488355328

set_option maxHeartbeats 1000000 in
theorem long (a : Option Addr) (len cap : Nat) (key : ByteArray) (w : World) (h : 1024 < len) :
    Calls Yba.prog 3 #[.slice a len cap, .string key] w fun e w' => e = .returned (.bool true) ∧ Below w.heap.size w w' := by
  have q : (1024 : Int) < (len : Int) := by omega
  go_enter Yba.func3, Yba.ntmps3
  go_wp2
  go_ret
  exact ⟨rfl, Below.refl _ _⟩

theorem walk (a : Option Addr) (len cap : Nat) (key : ByteArray) (w : World) (w0 : IsStrs w a len cap) (w1 : key.size ≤ maxLen) :
    Calls Yba.prog 3 #[.slice a len cap, .string key] w fun e w' => e = .returned (.bool true) ∧ Below w.heap.size w w' := by
  unfold maxLen at w1
  by_cases hl : len ≤ 1024
  · rcases w0 with ⟨rfl, rfl⟩ | ⟨x, zs, rfl, hz, hc, hs⟩
    · exact model_law _ none 0 cap rfl key w hl (by omega) (build_nil 0 cap w)
    · refine model_law _ (some x) len cap rfl key w hl (by omega) ?_
      rcases Nat.eq_zero_or_pos len with h0 | h0
      · subst h0
        exact build_walk _ w [] 0 ((Any.slices_Clone_string_zero Yba.laysClone x cap w).mono fun e w' h => h) hl (fun s hs => by cases hs)
      · obtain ⟨b, off, sp⟩ := x
        have e0 := hc 0 (by omega)
        have hsp : sp = none := by
          cases sp with
          | none => rfl
          | some t => simp [Addr.add, World.cell?] at e0; split at e0 <;> simp at e0
        subst hsp
        refine build_walk _ w ((zs.take len).map (·.data.toList)) len ((clone_c b off len cap zs w hz (by omega) (fun j hj => ?_)).mono fun e w' ⟨v', he, hown, hnn, hbel⟩ => ⟨v', he, by rw [Lib.map_encStr]; exact hown, hnn, hbel⟩) hl ?_
        · have := hc j hj
          rwa [show (⟨b, off, none⟩ : Addr).add j = ⟨b, off + j, none⟩ from by unfold Addr.add; split <;> simp_all] at this
        · intro s hs'
          obtain ⟨z, hzm, rfl⟩ := List.mem_map.1 hs'
          have h2 := hs z hzm
          have h3 : z.data.toList.length = z.size := by simp
          omega
  · exact long a len cap key w (by omega)

theorem weights_mem {H : Type} (zs : List ByteArray) (s : ByteArray) (h : s ∈ zs) : s.size ∈ DataW.weightsAll (H := H) Yba.prog 9 (strs zs) := by
  induction zs with
  | nil => cases h
  | cons z r ih =>
    simp only [strs, List.map_cons, DataW.weightsAll, DataW.weights, List.mem_append]
    rcases List.mem_cons.1 h with h | h
    · subst h
      exact Or.inl (by simp)
    · exact Or.inr (ih h)

set_option maxRecDepth 100000 in
theorem lifted (os : Os) (started : os.Started) (H : Type) (enc : TypeId × Value → H) :
    ReturnsInHanded {} Yba.checked os 3 .any (Rows.lawS3377BModelSpec.pre6 enc Yba.prog Yba.f3 Rows.lawS3377BModelRow.domain false) (Rows.lawS3377BModelSpec.post enc Yba.prog Yba.f3 false true false false) := by
  refine returnsInHanded_of_change_sized (C := Yba.checked) own started (by kernel_rfl) Yba.func3
    (ChangeSpec.witness6 (enc := enc) (C := Yba.checked) false ⟨#[], #[.slice none 0 0, .string ByteArray.empty], []⟩ 8 (by kernel_rfl) (by kernel_rfl) (by kernel_rfl) (by kernel_rfl)) ?_
  intro W base args ds gs before hval0 hW hcnd hreach _
  have hval : ∀ (j : Nat) t v, Yba.f3.params[j]? = some t → args[j]? = some v → Value.okWide Yba.prog W .any base t v := hval0
  have hW' := hW
  obtain ⟨p, q, hA0, hV, rfl, hfz, hnd⟩ := hW
  have hA : DataW.TrodAll enc Yba.prog W 0 (fun _ => true) true Yba.f3.params.toList args.toList ds p := hA0
  rw [Yba.params3] at hA hval
  obtain ⟨v0, vs0, d0, ds0, p0, q0, hargs, rfl, rfl, h0, r0⟩ := trodAll_cons hA
  obtain ⟨v1, vs1, d1, ds1, p1, q1, rfl, rfl, rfl, h1, r1⟩ := trodAll_cons r0
  obtain ⟨rfl, rfl, rfl⟩ := trodAll_nil r1
  obtain rfl : args = #[v0, v1] := by cases args; simp_all
  obtain ⟨rfl, rfl⟩ := trodVars_none hV
  obtain ⟨a0, len0, cap0, rfl⟩ := okWide_slice Yba.underlying22 (hval 0 22 v0 rfl rfl)
  have k0 := h0
  have lt0 : ∀ x ∈ p0, x.block < W.heap.size := by obtain ⟨m, hm⟩ := k0; exact DataW.trod_lt m _ _ _ hm
  have w0 : IsStrs W a0 len0 cap0 := by
    obtain ⟨fuel, hf⟩ := h0
    rcases open_strings Yba.underlying22 Yba.underlying9 (by kernel_rfl) hf with ⟨hcs, _⟩ | ⟨x, l, c, zs, hcs, _, hl, hm, hz, hx, hcell, _⟩
    · simp [Value.cells] at hcs
      obtain ⟨rfl, rfl, rfl⟩ := hcs
      exact .inl ⟨rfl, rfl⟩
    · simp [Value.cells] at hcs
      obtain ⟨rfl, rfl, rfl⟩ := hcs
      have hz' : zs.length = cap0 := by simpa using hz
      refine .inr ⟨_, zs, rfl, by omega, hcell, fun s hs => ?_⟩
      have ed : d0 = .slice (strs (zs.take len0)) (strs (zs.drop len0)) := congrArg Prod.fst hx
      have hmem := weights_mem (H := H) _ s hs
      have := List.all_eq_true.1 hreach s.size (DataW.weights_mem_each (j := 0) (t := 22) (d := d0) (by rw [Yba.params3]; rfl) rfl s.size (by
        rw [ed]
        simp only [DataW.weights]
        exact List.mem_cons_of_mem _ (List.mem_append_left _ hmem)))
      have h2 : s.size ≤ reachBytes := by simpa using this
      have := reachBytes_lt
      omega
  obtain ⟨x1, rfl, rfl, rfl, s1⟩ := open_string Yba.underlying9 (hval 1 9 v1 rfl rfl) h1
  clear hA0 hval0
  refine (walk a0 len0 cap0 x1 W w0 s1).mono fun e W' ⟨he, bel⟩ => ?_
  subst he
  exact ⟨_, rfl, _, _, _, [], _, [], hW', trodAll_mk1 (shut_bool Yba.underlying4 _), (trodAll_cons_mk (Below.trod laidOut (by kernel_rfl) (of_decide_eq_true (by kernel_rfl)) k0 bel lt0) (trodAll_cons_mk (shut_string Yba.underlying9 s1) trodAll_mk0)), rfl, bel.frame _, fun h => by cases h⟩

theorem over : Rows.lawS3377BModelRow.holds Yba.pinned (OpenSpec.ofChange Rows.lawS3377BModelSpec) :=
  OpenClaim.holds_of_wide 3 Yba.f3 rfl rfl rfl rfl rfl rfl rfl ⟨rfl, rfl, rfl, rfl, rfl⟩ rfl rfl rfl rfl rfl (by kernel_rfl) Yba.func3 (by kernel_rfl)
    (of_decide_eq_true (by kernel_rfl)) (by unfold Func.isWrapper; first | (rw [if_pos (by decide +kernel)]; kernel_rfl) | (rw [if_neg (by decide +kernel)]; exact ⟨rfl, rfl⟩))
    (fun os started H enc _ => lifted os started H enc)

/-- ████ THE STATEMENT ████ -/
theorem proved : Rows.LawS3377BModelSaid := over
#print axioms proved
end Go.Proofs.Ybulkbqxk.lawS3377BModel

/-
  THE SHELL OF A PROOF OF 'Rows.LawS3374BPickedSaid', turned from the shell of another law of this farm; the walk lies in YbulkbqvuPicked.lean.
-/
import Derived.Test.YbulkbqvuRows
import Derived.Test.YbulkbqvuPicked
import Derived.WalkKit
import Derived.ProofKit
import Derived.OpenShut
import Derived.ShutString
import Derived.SliceStrings
import Derived.ChangeOld
import Derived.Below
namespace Go.Proofs.Ybulkbqvu.lawS3374BPicked
open Go.ChangeShapes Go.WideShapes Go.ChangeAt Go.RowKit
open Go.ChangeMaps (open_string shut_string)
set_option linter.unusedVariables false

theorem own : ownKnob Yba.prog.godebug = none := by kernel_rfl
theorem laidOut : laidOutB Yba.prog = true := by kernel_rfl

/-- what the walk is told of the slice of strings: it is nil, or its elements are the strings ss -/
def IsStrs (w : World) (a : Option Addr) (len : Nat) (ss : Nat → ByteArray) : Prop :=
  (a = none ∧ len = 0) ∨ ∃ x, a = some x ∧ Strs w a len ss

theorem strs_of_cells {w : World} {x : Addr} {len : Nat} {zs : List ByteArray} (hl : len ≤ zs.length)
    (h : ∀ i, i < zs.length → w.cell? (x.add i) = some (.string (zs.getD i ByteArray.empty))) : Strs w (some x) len (fun j => zs.getD j ByteArray.empty) := fun j hj => by
  obtain ⟨b, off, sp⟩ := x
  have e0 := h 0 (by omega)
  have hsp : sp = none := by
    cases sp with
    | none => rfl
    | some t => simp [Addr.add, World.cell?] at e0; split at e0 <;> simp at e0
  subst hsp
  refine ⟨b, off, rfl, ?_⟩
  have := h j (by omega)
  rwa [show (⟨b, off, none⟩ : Addr).add j = ⟨b, off + j, none⟩ from by unfold Addr.add; split <;> simp_all] at this

theorem walk (a : Option Addr) (len cap : Nat) (ss : Nat → ByteArray) (k : Int) (w : World) (w0 : IsStrs w a len ss) (w1 : (Lit.int .u64 k).wf = true) :
    Calls Yba.prog 4 #[.slice a len cap, .int .u64 k] w fun e w' => e = .returned (.bool true) ∧ Below w.heap.size w w' := by
  have b1 := bounds_u64 w1
  rcases w0 with ⟨rfl, rfl⟩ | ⟨x, rfl, h⟩
  · exact picked_none none cap k w
  · by_cases h0 : len = 0
    · subst h0
      exact picked_none (some x) cap k w
    · by_cases hl : len ≤ 4096
      · have p1 : (0 : Int) ≤ k % (len : Int) := Int.emod_nonneg _ (by omega)
        have p2 : k % (len : Int) < (len : Int) := Int.emod_lt_of_pos _ (by omega)
        exact picked_some x len cap ss k (k % (len : Int)).toNat w h hl (by omega) b1.1 (by omega) (by omega)
      · exact picked_long (some x) len cap k w (by omega)

set_option maxRecDepth 100000 in
theorem lifted (os : Os) (started : os.Started) (H : Type) (enc : TypeId × Value → H) :
    ReturnsInHanded {} Yba.checked os 4 .any (Rows.lawS3374BPickedSpec.pre6 enc Yba.prog Yba.f4 Rows.lawS3374BPickedRow.domain false) (Rows.lawS3374BPickedSpec.post enc Yba.prog Yba.f4 false true false false) := by
  refine returnsInHanded_of_change (C := Yba.checked) own started (by kernel_rfl) Yba.func4
    (ChangeSpec.witness6 (enc := enc) (C := Yba.checked) false ⟨#[], #[.slice none 0 0, .int .u64 0], []⟩ 8 (by kernel_rfl) (by kernel_rfl) (by kernel_rfl) (by kernel_rfl)) ?_
  intro W base args ds gs before hval0 hW hcnd _
  have hval : ∀ (j : Nat) t v, Yba.f4.params[j]? = some t → args[j]? = some v → Value.okWide Yba.prog W .any base t v := hval0
  have hW' := hW
  obtain ⟨p, q, hA0, hV, rfl, hfz, hnd⟩ := hW
  have hA : DataW.TrodAll enc Yba.prog W 0 (fun _ => true) true Yba.f4.params.toList args.toList ds p := hA0
  rw [Yba.params4] at hA hval
  obtain ⟨v0, vs0, d0, ds0, p0, q0, hargs, rfl, rfl, h0, r0⟩ := trodAll_cons hA
  obtain ⟨v1, vs1, d1, ds1, p1, q1, rfl, rfl, rfl, h1, r1⟩ := trodAll_cons r0
  obtain ⟨rfl, rfl, rfl⟩ := trodAll_nil r1
  obtain rfl : args = #[v0, v1] := by cases args; simp_all
  obtain ⟨rfl, rfl⟩ := trodVars_none hV
  obtain ⟨a0, len0, cap0, rfl⟩ := okWide_slice Yba.underlying22 (hval 0 22 v0 rfl rfl)
  have k0 := h0
  have lt0 : ∀ x ∈ p0, x.block < W.heap.size := by obtain ⟨m, hm⟩ := k0; exact DataW.trod_lt m _ _ _ hm
  obtain ⟨ss, w0⟩ : ∃ ss, IsStrs W a0 len0 ss := by
    obtain ⟨fuel, hf⟩ := h0
    rcases open_strings Yba.underlying22 Yba.underlying9 (by kernel_rfl) hf with ⟨hcs, _⟩ | ⟨x, l, c, zs, hcs, _, hl, hm, hz, _, hcell, _⟩
    · simp [Value.cells] at hcs
      obtain ⟨rfl, rfl, rfl⟩ := hcs
      exact ⟨fun _ => ByteArray.empty, .inl ⟨rfl, rfl⟩⟩
    · simp [Value.cells] at hcs
      obtain ⟨rfl, rfl, rfl⟩ := hcs
      have hz' : zs.length = cap0 := by simpa using hz
      exact ⟨_, .inr ⟨_, rfl, strs_of_cells (by omega) hcell⟩⟩
  obtain ⟨k1, rfl, rfl, rfl, w1⟩ := open_int Yba.underlying28 (hval 1 28 v1 rfl rfl) h1
  clear hA0 hval0
  refine (walk a0 len0 cap0 ss k1 W w0 w1).mono fun e W' ⟨he, bel⟩ => ?_
  subst he
  exact ⟨_, rfl, _, _, _, [], _, [], hW', trodAll_mk1 (shut_bool Yba.underlying4 _), (trodAll_cons_mk (Below.trod laidOut (by kernel_rfl) (of_decide_eq_true (by kernel_rfl)) k0 bel lt0) (trodAll_cons_mk (shut_int Yba.underlying28 w1) trodAll_mk0)), rfl, bel.frame _, fun h => by cases h⟩

theorem over : Rows.lawS3374BPickedRow.holds Yba.pinned (OpenSpec.ofChange Rows.lawS3374BPickedSpec) :=
  OpenClaim.holds_of_wide 4 Yba.f4 rfl rfl rfl rfl rfl rfl rfl ⟨rfl, rfl, rfl, rfl, rfl⟩ rfl rfl rfl rfl rfl (by kernel_rfl) Yba.func4 (by kernel_rfl)
    (of_decide_eq_true (by kernel_rfl)) (by unfold Func.isWrapper; first | (rw [if_pos (by decide +kernel)]; kernel_rfl) | (rw [if_neg (by decide +kernel)]; exact ⟨rfl, rfl⟩))
    (fun os started H enc _ => lifted os started H enc)

/-- ████ THE STATEMENT ████ -/
theorem proved : Rows.LawS3374BPickedSaid := over
#print axioms proved
end Go.Proofs.Ybulkbqvu.lawS3374BPicked

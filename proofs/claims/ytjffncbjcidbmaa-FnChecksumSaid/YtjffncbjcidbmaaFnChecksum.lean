/-
  For every list of numbers of 16 bits, laws.FnChecksum returns true.
-/
import Derived.Test.YtjffncbjcidbmaaFnChecksumW
import Derived.Test.YtjffncbjcidbmaaRows
import Derived.WalkKit
import Derived.ProofKit
import Derived.OpenShut
import Derived.ShutString
import Derived.ChangeOld
import Derived.Below
import Derived.SizedLaws
namespace Go.Proofs.Ytjffncbjcidbmaa.fnChecksum
open Go.ChangeShapes Go.WideShapes Go.ChangeAt Go.RowKit
set_option linter.unusedVariables false

theorem own : ownKnob Try.prog.godebug = none := by kernel_rfl
theorem laidOut : laidOutB Try.prog = true := by kernel_rfl
theorem bytes_words : Try.prog.bytesOf 26 = 2 := by kernel_rfl
theorem argRow_words {W : World} {x : Addr} {len cap : Nat} {zs : List Int} (hl : len ≤ cap) (hz : zs.length = cap) (hcell : ∀ i, i < zs.length → W.cell? (x.add i) = some (.int .u16 (zs.getD i 0))) (hwz : ∀ n ∈ zs, (Lit.int .u16 n).wf = true) :
    Row16 W (.slice (some x) len cap) (zs.take len) ∧ ∀ i, 0 ≤ (zs.take len).getD i 0 ∧ (zs.take len).getD i 0 ≤ 65535 := by
  have hlen : (zs.take len).length = len := by rw [List.length_take]; omega
  have hg : ∀ i, i < len → (zs.take len).getD i 0 = zs.getD i 0 := fun i hi => by simp [List.getD, hi]
  refine ⟨⟨some x, cap, by rw [hlen], fun hne => ?_⟩, fun i => ?_⟩
  · have h0 : 0 < len := by
      rcases Nat.eq_zero_or_pos len with h | h
      · subst h; exact absurd rfl hne
      · exact h
    obtain ⟨b, off, spot⟩ := x
    have hc := hcell 0 (by omega)
    have hspot : spot = none := by simpa [Addr.add] using World.cell?_spot hc
    subst hspot
    refine ⟨b, off, rfl, ?_, fun i hi => ?_⟩
    · rcases Nat.lt_or_ge b W.heap.size with h | h
      · exact h
      · exfalso
        have hb : W.heap[b]? = none := Array.getElem?_eq_none h
        simp [World.cell?, Addr.add, hb] at hc
    · rw [hlen] at hi
      rw [hg i hi]
      have hc := hcell i (by omega)
      by_cases hi0 : i = 0
      · subst hi0; simpa [Addr.add] using hc
      · simpa [Addr.add, hi0] using hc
  · by_cases hi : i < len
    · rw [hg i hi]
      have hm : zs.getD i 0 ∈ zs := by
        have : i < zs.length := by omega
        simp [List.getD, this]
      have := bounds_u16 (hwz _ hm)
      omega
    · have : (zs.take len)[i]? = none := List.getElem?_eq_none (by omega)
      simp [List.getD, this]

set_option maxRecDepth 100000 in
theorem lifted (os : Os) (started : os.Started) (H : Type) (enc : TypeId × Value → H) :
    ReturnsInHanded {} Try.checked os 3 .any (Rows.fnChecksumSpec.pre6 enc Try.prog Try.f3 Rows.fnChecksumRow.domain false) (Rows.fnChecksumSpec.post enc Try.prog Try.f3 false true false false) := by
  refine returnsInHanded_of_change_sized (C := Try.checked) own started (by kernel_rfl) Try.func3
    (ChangeSpec.witness6 (enc := enc) (C := Try.checked) false ⟨#[], #[.slice none 0 0], []⟩ 8 (by kernel_rfl) (by kernel_rfl) (by kernel_rfl) (by kernel_rfl)) ?_
  intro W base args ds gs before hval0 hW hcnd hsz0 _
  have hsz : (DataW.weightsEach Try.prog (Try.f3.params.toList ++ Rows.fnChecksumSpec.plain.varTypes Try.prog) (ds ++ gs)).all (· ≤ reachBytes) = true := hsz0
  have hval : ∀ (j : Nat) t v, Try.f3.params[j]? = some t → args[j]? = some v → Value.okWide Try.prog W .any base t v := hval0
  have hW' := hW
  obtain ⟨p, q, hA0, hV, rfl, hfz, hnd⟩ := hW
  have hA : DataW.TrodAll enc Try.prog W 0 (fun _ => true) true Try.f3.params.toList args.toList ds p := hA0
  rw [Try.params3] at hA hval hsz
  obtain ⟨v0, vs0, d0, ds0, p0, q0, hargs, rfl, rfl, h0, r0⟩ := trodAll_cons hA
  obtain ⟨rfl, rfl, rfl⟩ := trodAll_nil r0
  obtain rfl : args = #[v0] := by cases args; simp_all
  obtain ⟨rfl, rfl⟩ := trodVars_none hV
  obtain ⟨a0, len0, cap0, rfl⟩ := okWide_slice Try.underlying22 (hval 0 22 v0 rfl rfl)
  have k0 := h0
  have lt0 : ∀ x ∈ p0, x.block < W.heap.size := by obtain ⟨m, hm⟩ := k0; exact DataW.trod_lt m _ _ _ hm
  obtain ⟨z0, R0, K0, S0⟩ : ∃ xs, Row16 W (.slice a0 len0 cap0) xs ∧ (∀ i, 0 ≤ xs.getD i 0 ∧ xs.getD i 0 ≤ 65535) ∧ xs.length * 2 ≤ 140737488351232 := by
    obtain ⟨fuel, hf⟩ := h0
    rcases open_ints Try.underlying22 Try.underlying26 (by kernel_rfl) hf with ⟨hcs, _⟩ | ⟨x, l, c, zs, hcs, _, hl, hm, hz, hx, hcell, hwz⟩
    · simp [Value.cells] at hcs
      obtain ⟨rfl, rfl, rfl⟩ := hcs
      exact ⟨[], ⟨none, 0, rfl, fun h => absurd rfl h⟩, fun i => by simp, by simp⟩
    · simp [Value.cells] at hcs
      obtain ⟨rfl, rfl, rfl⟩ := hcs
      have hd : d0 = .slice (lits .u16 (zs.take len0)) (lits .u16 (zs.drop len0)) := congrArg Prod.fst hx
      have sz := sized_slice hsz (j := 0) (t := 22) (e := 26) (elems := lits .u16 (zs.take len0)) (spare := lits .u16 (zs.drop len0)) rfl (congrArg some hd) Try.underlying22
      rw [bytes_words] at sz
      simp only [lits, List.length_map, List.length_take, List.length_drop, reachBytes] at sz
      obtain ⟨hr, hw⟩ := argRow_words hl (by simpa using hz) hcell hwz
      exact ⟨zs.take len0, hr, hw, by rw [List.length_take]; omega⟩
  clear hA0 hval0
  refine (walk (.slice a0 len0 cap0) z0 R0 K0 S0).mono fun e W' ⟨he, bel⟩ => ?_
  subst he
  exact ⟨_, rfl, _, _, _, [], _, [], hW', trodAll_mk1 (shut_bool Try.underlying4 _), (trodAll_cons_mk (Below.trod laidOut (by kernel_rfl) (of_decide_eq_true (by kernel_rfl)) k0 bel lt0) trodAll_mk0), rfl, bel.frame _, fun h => by cases h⟩

theorem over : Rows.fnChecksumRow.holds Try.pinned (OpenSpec.ofChange Rows.fnChecksumSpec) :=
  OpenClaim.holds_of_wide 3 Try.f3 rfl rfl rfl rfl rfl rfl rfl ⟨rfl, rfl, rfl, rfl, rfl⟩ rfl rfl rfl rfl rfl (by kernel_rfl) Try.func3 (by kernel_rfl)
    (of_decide_eq_true (by kernel_rfl)) (by unfold Func.isWrapper; first | (rw [if_pos (by decide +kernel)]; kernel_rfl) | (rw [if_neg (by decide +kernel)]; exact ⟨rfl, rfl⟩))
    (fun os started H enc _ => lifted os started H enc)

theorem proved : Rows.FnChecksumSaid :=
  over
#print axioms proved
end Go.Proofs.Ytjffncbjcidbmaa.fnChecksum

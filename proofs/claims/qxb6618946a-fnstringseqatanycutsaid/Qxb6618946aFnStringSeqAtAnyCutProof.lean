import Derived.Test.Qxb6618946aLaw
import Derived.ProofKit
import Derived.SliceStrings
namespace Go.Proofs.Qxb6618946a.fnStringSeqAtAnyCut
open Go.ChangeShapes Go.WideShapes Go.ChangeAt Go.RowKit
set_option linter.unusedVariables false

theorem own : ownKnob Try.prog.godebug = none := by kernel_rfl
theorem laidOut : laidOutB Try.prog = true := by kernel_rfl
theorem cells5 : Try.prog.cellsOf 5 = 1 := by kernel_rfl
theorem cells9 : Try.prog.cellsOf 9 = 1 := by kernel_rfl

theorem u8_of {z : Int} (h : (Lit.int .u8 z).wf = true) : ((UInt8.ofNat z.toNat).toNat : Int) = z := by
  have h1 : IntKind.u8.min = 0 := rfl
  have h2 : IntKind.u8.max = 255 := rfl
  simp only [Lit.wf, Bool.and_eq_true, decide_eq_true_eq] at h
  rw [UInt8.toNat_ofNat']
  omega
/-- The bytes of the first argument. -/
theorem bytes_open {H : Type} {enc : TypeId × Value → H} {W : World} {a0 : Option Addr} {len cap : Nat} {d : DataW H} {p : List MemPlace} (h : DataW.Trod enc Try.prog W 0 (fun _ => true) true 22 (.slice a0 len cap) d p) :
    ∃ l : List UInt8, l.length = len ∧ len ≤ maxLen ∧ Reads W (.slice a0 len cap) l := by
  obtain ⟨fuel, hf⟩ := h
  rcases open_ints Try.underlying22 Try.underlying5 cells5 hf with ⟨hcs, hx⟩ | ⟨a, len', cap', zs, hcs, _, hl, hm, hz, hx, hcell, hwf⟩
  · simp [Value.cells] at hcs
    obtain ⟨rfl, rfl, rfl⟩ := hcs
    exact ⟨[], rfl, Nat.zero_le _, .inl ⟨rfl, rfl⟩⟩
  · simp [Value.cells] at hcs
    obtain ⟨rfl, rfl, rfl⟩ := hcs
    simp only [if_true] at hz
    have hll : ((zs.take len).map (fun z => UInt8.ofNat z.toNat)).length = len := by rw [List.length_map, List.length_take]; omega
    refine ⟨(zs.take len).map (fun z => UInt8.ofNat z.toNat), hll, Nat.le_trans hl hm, .inr ⟨a, cap, by rw [hll], fun j u hj => ?_⟩⟩
    have hjl := (List.getElem?_eq_some_iff.1 hj).1
    rw [Lib.byteCells_length, hll] at hjl
    have hjz : j < zs.length := by omega
    have e1 : (Lib.byteCells ((zs.take len).map (fun z => UInt8.ofNat z.toNat)))[j]? = some (.int .u8 (zs.getD j 0)) := by
      simp only [Lib.byteCells, List.getElem?_map, List.getElem?_take_of_lt hjl, List.getElem?_eq_getElem hjz, Option.map_some, List.getD, Option.getD_some]
      rw [u8_of (hwf _ (List.getElem_mem hjz))]
    rw [hcell j hjz, ← hj, e1]
/-- The strings of the third. -/
theorem strs_open {H : Type} {enc : TypeId × Value → H} {W : World} {a0 : Option Addr} {len cap : Nat} {d : DataW H} {p : List MemPlace} (h : DataW.Trod enc Try.prog W 0 (fun _ => true) true 31 (.slice a0 len cap) d p) :
    ∃ ss : List ByteArray, ss.length = len ∧ len ≤ maxLen ∧ (∀ j, (sAt ss j).size ≤ maxLen) ∧ ReadsS W (.slice a0 len cap) ss := by
  obtain ⟨fuel, hf⟩ := h
  rcases open_strings Try.underlying31 Try.underlying9 cells9 hf with ⟨hcs, hx⟩ | ⟨a, len', cap', ss, hcs, _, hl, hm, hz, hx, hcell, hws⟩
  · simp [Value.cells] at hcs
    obtain ⟨rfl, rfl, rfl⟩ := hcs
    exact ⟨[], rfl, Nat.zero_le _, fun j => by simp [sAt], .inl ⟨rfl, rfl⟩⟩
  · simp [Value.cells] at hcs
    obtain ⟨rfl, rfl, rfl⟩ := hcs
    simp only [if_true] at hz
    have hll : (ss.take len).length = len := by rw [List.length_take]; omega
    refine ⟨ss.take len, hll, Nat.le_trans hl hm, fun j => ?_, .inr ⟨a, cap, by rw [hll], fun j hj => ?_⟩⟩
    · by_cases hj : j < (ss.take len).length
      · have : sAt (ss.take len) j = (ss.take len)[j] := by rw [sAt, List.getD, List.getElem?_eq_getElem hj, Option.getD_some]
        rw [this]
        exact hws _ (List.mem_of_mem_take (List.getElem_mem hj))
      · have : sAt (ss.take len) j = ByteArray.empty := by simp [sAt, List.getD, List.getElem?_eq_none (Nat.le_of_not_lt hj)]
        rw [this]
        exact Nat.zero_le _
    · rw [hll] at hj
      rw [hcell j (by omega)]
      simp [sAt, List.getD, List.getElem?_take_of_lt hj]

set_option maxRecDepth 100000 in
theorem lifted (os : Os) (started : os.Started) (H : Type) (enc : TypeId × Value → H) :
    ReturnsInHanded {} Try.checked os 4 .any (Rows.fnStringSeqAtAnyCutSpec.pre6 enc Try.prog Try.f4 Rows.fnStringSeqAtAnyCutRow.domain false) (Rows.fnStringSeqAtAnyCutSpec.post enc Try.prog Try.f4 false true false false) := by
  refine returnsInHanded_of_change (C := Try.checked) own started (by kernel_rfl) Try.func4
    (ChangeSpec.witness6 (enc := enc) (C := Try.checked) false ⟨#[], #[.slice none 0 0, .int .i64 0, .slice none 0 0, .int .i64 0], []⟩ 8 (by kernel_rfl) (by kernel_rfl) (by kernel_rfl) (by kernel_rfl)) ?_
  intro W base args ds gs before hval0 hW hcnd _
  have hval : ∀ (j : Nat) t v, Try.f4.params[j]? = some t → args[j]? = some v → Value.okWide Try.prog W .any base t v := hval0
  have hW' := hW
  obtain ⟨p, q, hA0, hV, rfl, hfz, hnd⟩ := hW
  have hA : DataW.TrodAll enc Try.prog W 0 (fun _ => true) true Try.f4.params.toList args.toList ds p := hA0
  rw [Try.params4] at hA hval
  obtain ⟨v0, v1, v2, v3, d0, d1, d2, d3, p0, p1, p2, p3, rfl, rfl, rfl, h0, h1, h2, h3⟩ := trodAll_four hA
  obtain ⟨rfl, rfl⟩ := trodVars_none hV
  obtain ⟨a0, len0, cap0, rfl⟩ := okWide_slice Try.underlying22 (hval 0 22 v0 rfl rfl)
  obtain ⟨n, rfl, rfl, rfl, wn⟩ := open_int Try.underlying3 (hval 1 3 v1 rfl rfl) h1
  obtain ⟨a2, len2, cap2, rfl⟩ := okWide_slice Try.underlying31 (hval 2 31 v2 rfl rfl)
  obtain ⟨k, rfl, rfl, rfl, wk⟩ := open_int Try.underlying3 (hval 3 3 v3 rfl rfl) h3
  obtain ⟨lb, hlb, hmb, rb⟩ := bytes_open h0
  obtain ⟨ss, hls, hms, hsm, rs⟩ := strs_open h2
  clear hA0 hval0
  simp only [List.append_nil] at hW'
  have hlt0 : ∀ x ∈ p0, x.block < W.heap.size := fun x hx => by simpa using hW'.lt x (by simp [hx])
  have hlt2 : ∀ x ∈ p2, x.block < W.heap.size := fun x hx => by simpa using hW'.lt x (by simp [hx])
  refine (law_calls a0 len0 cap0 lb n a2 len2 cap2 ss k W hlb hmb hls hms hsm rb rs).mono fun e W' ⟨he, hb⟩ => ?_
  subst he
  refine ⟨_, rfl, _, _, _, [], p0 ++ ([] ++ (p2 ++ [])), [], hW', ?_, ?_, rfl, hb.frame _, fun h => by cases h⟩
  · exact trodAll_mk1 (shut_bool Try.underlying4 _)
  · exact trodAll_mk4 (Below.trod laidOut (by kernel_rfl) (of_decide_eq_true (by kernel_rfl)) h0 hb hlt0) (shut_int Try.underlying3 wn) (Below.trod laidOut (by kernel_rfl) (of_decide_eq_true (by kernel_rfl)) h2 hb hlt2) (shut_int Try.underlying3 wk)

theorem over : Rows.fnStringSeqAtAnyCutRow.holds Try.pinned (OpenSpec.ofChange Rows.fnStringSeqAtAnyCutSpec) :=
  OpenClaim.holds_of_wide 4 Try.f4 rfl rfl rfl rfl rfl rfl rfl ⟨rfl, rfl, rfl, rfl, rfl⟩ rfl rfl rfl rfl rfl (by kernel_rfl) Try.func4 (by kernel_rfl)
    (of_decide_eq_true (by kernel_rfl)) (by unfold Func.isWrapper; first | (rw [if_pos (by decide +kernel)]; kernel_rfl) | (rw [if_neg (by decide +kernel)]; exact ⟨rfl, rfl⟩))
    (fun os started H enc _ => lifted os started H enc)

/-- ████ THE STATEMENT ████ -/
theorem proved : Rows.FnStringSeqAtAnyCutSaid :=
  over
#print axioms proved
end Go.Proofs.Qxb6618946a.fnStringSeqAtAnyCut

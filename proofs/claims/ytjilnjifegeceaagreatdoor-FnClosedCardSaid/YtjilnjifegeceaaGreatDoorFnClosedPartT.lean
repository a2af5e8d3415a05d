/-
  A part of the proof that laws.FnClosed returns true at every input: the walk's own rules and the contracts of functions, in build order.
  Its conditions are those of the statement: see the last text.
-/
import Derived.Test.YtjilnjifegeceaaGreatDoorTie
import Derived.Test.YtjilnjifegeceaaGreatDoorCards
import Derived.ProofKit
import Derived.OpenShut
import Derived.LaidMore
import Derived.Lay
import Derived.SevenTiedAt
import Derived.Stop.Joined
import Derived.Test.YtjilnjifegeceaaGreatDoorFnClosedPartS

/-
  FnClosed: the lifted proof.
-/
namespace Go.Proofs.YtjilnjifegeceaaGreatDoor
open Go.ChangeShapes Go.RowKit
set_option maxRecDepth 100000

theorem ownKnob_none : ownKnob Tryz.prog.godebug = none := by kernel_rfl

def propsL : List (DataW Unit) := match (Rows.laid_unicode_properties : DataW Unit) with | .agg l => l | _ => []
theorem props_caps : ((List.range 26).all fun i => match propsL[65 + i]? with | some (.lit (.int .u8 n)) => n == 160 | _ => false) = true := by kernel_rfl

theorem props_laid {W : World} (h : laidMetH Tryz.prog Rows.fnClosedRow.laid W) : Props (Hw W) := by
  rw [MakeChecks.laidMetH_plain _ _ _ (by kernel_rfl)] at h
  obtain ⟨ps, ⟨-, -, -, -, -, -, -, -, -, -, ⟨g, t, cs, fuel, p, q, hg, ht, hv, hd, -, -⟩, -⟩, -, -⟩ := h
  obtain rfl := Option.some.inj ((show Tryz.prog.globalNamed "unicode.properties" = some 5 by kernel_rfl).symm.trans hg)
  obtain rfl := Option.some.inj ((show (Tryz.prog.globals[5]?).map (·.type) = some 364 by kernel_rfl).symm.trans ht)
  obtain ⟨xs, m, -, ex, -, hl, hel⟩ := DataW.trod_array Tryz.underlying364 hd
  have he : propsL = xs.map (·.1) := by
    have h1 : (Rows.laid_unicode_properties : DataW Unit) = .agg (xs.map (·.1)) := (Prod.mk.inj ex).1
    unfold propsL
    rw [h1]
  unfold World.var? at hv
  rw [hg, Option.bind_some] at hv
  cases hh : W.heap[(5 : Nat)]? with
  | none => rw [hh] at hv; cases hv
  | some o =>
    rw [hh] at hv
    cases o with
    | cells c T fr =>
      have hcc : c = cs := by simpa using hv
      subst hcc
      refine ⟨c, T, fr, hh, fun u h0 h1 => ?_⟩
      have hx := List.all_eq_true.1 props_caps (u - 65) (List.mem_range.2 (by omega))
      have hu : 65 + (u - 65) = u := by omega
      rw [hu, he, List.getElem?_map] at hx
      obtain ⟨y, hy⟩ : ∃ y, xs[u]? = some y := ⟨_, List.getElem?_eq_getElem (by omega)⟩
      rw [hy] at hx
      have hE := hel u (by omega)
      rw [hy, show Tryz.prog.cellsOf 5 = 1 by kernel_rfl, Nat.mul_one] at hE
      obtain ⟨z, e1, e2, -⟩ := DataW.trod_int Tryz.underlying5 hE
      rw [e2] at hx
      have hz : z = 160 := by simpa using hx
      subst hz
      have h3 : ((c.toList.drop u).take 1)[0]? = some (.int .u8 160) := by rw [e1]; rfl
      simpa using h3
    | _ => simp at hv

theorem Ext.below {w w' : World} (h : Ext No w w') : Below w.heap.size w w' := ⟨h.os, h.tape, h.output, h.size, fun k hk => h.block k hk fun h => h⟩

theorem weights_each {H : Type} {ts : List TypeId} {ds : List (DataW H)} {t : TypeId} {d : DataW H} (h : (DataW.weightsEach Tryz.prog (t :: ts) (d :: ds)).all (· ≤ reachBytes) = true) : (∀ z ∈ d.weights Tryz.prog t, z ≤ reachBytes) ∧ (DataW.weightsEach Tryz.prog ts ds).all (· ≤ reachBytes) = true := by
  simp only [DataW.weightsEach, List.all_append, Bool.and_eq_true] at h
  exact ⟨fun z hz => by simpa using List.all_eq_true.1 h.1 z hz, h.2⟩

theorem fnClosed_lifted (os : Os) (started : os.Started) (H : Type) (enc : TypeId × Value → H) :
    ReturnsInHanded {} Tryz.checked os 6 .any (fun w args => (Rows.fnClosedSpec.pre enc Tryz.prog Tryz.f6 [] false w args ∧ laidMetH Tryz.prog Rows.fnClosedRow.laid w) ∧ sizedMet enc Tryz.prog Tryz.f6 (OpenSpec.ofChange Rows.fnClosedSpec) false w args)
      (Rows.fnClosedSpec.post enc Tryz.prog Tryz.f6 false true false false) := by
  refine returnsInHanded_of_change_and (C := Tryz.checked) (X := fun w _ => laidMetH Tryz.prog Rows.fnClosedRow.laid w) (fun _ _ _ hh h => h.of_heap hh) ownKnob_none started (by kernel_rfl) Tryz.func6
    (ChangeSpec.witness_shaped (enc := enc) (C := Tryz.checked) (os := os) (X := fun w _ => laidMetH Tryz.prog Rows.fnClosedRow.laid w) false (World.laidAll Tryz.prog os Rows.fnClosedRow.laid)
      #[.slice none 0 0, .agg #[.int .i64 0, .int .i64 0, .int .i64 0, .bool false, .slice none 0 0, .string ⟨#[]⟩], .agg #[.int .i64 0, .int .i64 0, .int .i64 0, .bool false, .slice none 0 0, .string ⟨#[]⟩], .int .i64 0] 8 (World.laidAll_os _ _ _)
      (World.shaped_of_ZipB (by kernel_rfl) (by kernel_rfl)) (by kernel_rfl) (by kernel_rfl) (by kernel_rfl)
      (by rw [MakeChecks.laidMetH_plain _ _ _ (by kernel_rfl)]; exact laidMet_laidAll _ (by kernel_rfl) (by kernel_rfl))) ?_
  intro W base args ds gs before hval0 hW _ hwt hL _
  have hval : ∀ (j : Nat) t v, Tryz.f6.params[j]? = some t → args[j]? = some v → Value.okWide Tryz.prog W .any base t v := hval0
  have hW' := hW
  obtain ⟨p, q, hA0, hV, rfl, _, _⟩ := hW
  have hA : DataW.TrodAll enc Tryz.prog W 0 (fun _ => true) true Tryz.f6.params.toList args.toList ds p := hA0
  have hlt : ∀ x ∈ p ++ q, x.block < W.heap.size := fun x hx => hW'.lt x hx
  rw [Tryz.params6] at hA hval
  obtain ⟨v0, vs, d0, ds1, p0, q0, e0, rfl, rfl, h0, hA⟩ := trodAll_cons hA
  obtain ⟨v1, vs, d1, ds2, p1, q1, rfl, rfl, rfl, h1, hA⟩ := trodAll_cons hA
  obtain ⟨v2, vs, d2, ds3, p2, q2, rfl, rfl, rfl, h2, hA⟩ := trodAll_cons hA
  obtain ⟨v3, vs, d3, ds4, p3, q3, rfl, rfl, rfl, h3, hA⟩ := trodAll_cons hA
  obtain ⟨rfl, rfl, rfl⟩ := trodAll_nil hA
  obtain rfl : args = #[v0, v1, v2, v3] := by cases args; simp_all
  obtain ⟨rfl, rfl⟩ := trodVars_none hV
  have o0 := hval 0 _ v0 rfl rfl
  have o1 := hval 1 _ v1 rfl rfl
  have o2 := hval 2 _ v2 rfl rfl
  have o3 := hval 3 _ v3 rfl rfl
  have hwt' : (DataW.weightsEach Tryz.prog [22, 26, 26, 3] [d0, d1, d2, d3]).all (· ≤ reachBytes) = true := by
    have := hwt
    rw [Tryz.params6] at this
    exact this
  obtain ⟨k0, hwt'⟩ := weights_each hwt'
  obtain ⟨k1, hwt'⟩ := weights_each hwt'
  obtain ⟨k2, hwt'⟩ := weights_each hwt'
  obtain ⟨k3, hwt'⟩ := weights_each hwt'
  obtain ⟨a0, len0, cap0, rfl⟩ := WideShapes.okWide_slice Tryz.underlying22 o0
  obtain ⟨ca1, rfl, -⟩ := WideShapes.okWide_struct Tryz.underlying26 o1
  obtain ⟨ca2, rfl, -⟩ := WideShapes.okWide_struct Tryz.underlying26 o2
  obtain ⟨n3, rfl⟩ := WideShapes.okWide_int Tryz.underlying3 o3
  obtain ⟨f0, t0⟩ := h0
  obtain ⟨f1, t1⟩ := h1
  obtain ⟨f2, t2⟩ := h2
  obtain ⟨dl0, pp0, dcap0, hv0, hx0, hc0, hl0⟩ := read_decls (v := .slice a0 len0 cap0) t0 k0
  injection hv0 with e1 e2 e3
  subst e1
  subst e2
  subst e3
  obtain ⟨x1, hx1⟩ := read_type f1 ca1.toList _ t1 k1
  obtain ⟨x2, hx2⟩ := read_type f2 ca2.toList _ t2 k2
  refine (law_closed (params := n3) W (hw_agree W) (props_laid hL) hx0 hx1 hx2 hc0 hl0).mono fun e W' ⟨v, he, hv, hE⟩ => ?_
  subst hv
  refine ⟨_, he, ?_⟩
  have hb := hE.below
  have sp : ∀ {t : TypeId} {v : Value} {d : DataW H} {ps : List MemPlace}, Tryz.prog.readableRec t = true → t < Tryz.prog.types.size → DataW.Trod enc Tryz.prog W 0 (fun _ => true) true t v d ps → (∀ x ∈ ps, x.block < W.heap.size) → DataW.Trod enc Tryz.prog W' 0 (fun b => decide (b < W.heap.size)) true t v d ps :=
    fun hr hrow h hl => Below.trod (by kernel_rfl) hr hrow h hb hl
  refine ⟨_, _, _, [], p0 ++ (p1 ++ (p2 ++ (p3 ++ []))), [], hW', trodAll_mk1 (shut_bool Tryz.underlying4 _), ?_, rfl, hb.frame _, fun h => by cases h⟩
  rw [Tryz.params6]
  have l0 : ∀ x ∈ p0, x.block < W.heap.size := fun x hx => hlt x (by simp [hx])
  have l1 : ∀ x ∈ p1, x.block < W.heap.size := fun x hx => hlt x (by simp [hx])
  have l2 : ∀ x ∈ p2, x.block < W.heap.size := fun x hx => hlt x (by simp [hx])
  have l3 : ∀ x ∈ p3, x.block < W.heap.size := fun x hx => hlt x (by simp [hx])
  exact trodAll_cons_mk (sp (by kernel_rfl) (of_decide_eq_true (by kernel_rfl)) ⟨f0, t0⟩ l0) (trodAll_cons_mk (sp (by kernel_rfl) (of_decide_eq_true (by kernel_rfl)) ⟨f1, t1⟩ l1) (trodAll_cons_mk (sp (by kernel_rfl) (of_decide_eq_true (by kernel_rfl)) ⟨f2, t2⟩ l2) (trodAll_cons_mk (sp (by kernel_rfl) (of_decide_eq_true (by kernel_rfl)) h3 l3) rfl)))

end Go.Proofs.YtjilnjifegeceaaGreatDoor

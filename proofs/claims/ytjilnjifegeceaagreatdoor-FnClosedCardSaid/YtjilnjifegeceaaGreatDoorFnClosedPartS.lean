/-
  A part of the proof that laws.FnClosed returns true at every input: the walk's own rules and the contracts of functions, in build order.
  Its conditions are those of the statement: see the last text.
-/
import Derived.Test.YtjilnjifegeceaaGreatDoorFnClosedPartR

/-
  Identical types, third part: fields, parameters.
-/
namespace Go.Proofs.YtjilnjifegeceaaGreatDoor
set_option maxRecDepth 100000
set_option maxHeartbeats 4000000
attribute [local irreducible] Calls execOp

theorem r138 {G G' A : Prop} (ag : A) (k : G') (h : Hid G' → A → G := by intro k_ ag_; (first | (refine cD_guard ?_; refine D_unwanted rfl rfl ?_) | (refine cD_move ?_; refine D_val0 (fun _ _ => R_move) rfl rfl ?_) | (refine cD_load ?_; refine D_val0 (fun w he => R_loadH (ag_ w he) rfl (by assumption) (by rfl)) rfl rfl ?_) | (refine cD_fieldAddr ?_; refine D_val0 (fun _ _ => R_fa rfl) rfl rfl ?_) | (refine cD_nilCheck ?_; refine D_val0 (fun _ _ => R_nil rfl) rfl rfl ?_) | (refine cD_assign ?_; refine D_val0 (fun _ _ => R_assign) rfl rfl ?_) | (refine cD_extract ?_; refine D_val0 (fun _ _ => R_extract rfl rfl) rfl rfl ?_) | (refine cD_typeAssert ?_; first | refine D_val0 (fun _ _ => R_taY rfl) rfl rfl ?_ | refine D_val0 (fun _ _ => R_taN rfl rfl) rfl rfl ?_ | refine D_val0 (fun _ _ => R_taNil rfl) rfl rfl ?_) | (refine cD_call ?_; refine D_val0 (fun _ _ => R_len rfl) rfl rfl ?_) | (refine cD_pick ?_; first | refine D_val0 (fun _ _ => R_pickT rfl) rfl rfl ?_ | refine D_val0 (fun _ _ => R_pickF rfl) rfl rfl ?_) | (refine cD_eql ?_; first | refine D_val0 (fun _ _ => R_eqPN rfl rfl) rfl rfl ?_ | refine D_val0 (fun _ _ => R_eqI rfl rfl) rfl rfl ?_ | refine D_val0 (fun _ _ => R_eqB rfl rfl) rfl rfl ?_ | refine D_val0 (fun _ _ => R_eqIfN rfl rfl) rfl rfl ?_ | refine D_val0 (fun _ _ => R_eqIfNN rfl) rfl rfl ?_) | (refine cD_neq ?_; first | refine D_val0 (fun _ _ => R_nePN rfl rfl) rfl rfl ?_ | refine D_val0 (fun _ _ => R_neI rfl rfl) rfl rfl ?_ | refine D_val0 (fun _ _ => R_neB rfl rfl) rfl rfl ?_ | refine D_val0 (fun _ _ => R_neIfN rfl rfl) rfl rfl ?_ | refine D_val0 (fun _ _ => R_neIfNN rfl) rfl rfl ?_) | (refine cD_lss ?_; refine D_val0 (fun _ _ => R_ltI rfl rfl) rfl rfl ?_) | (refine cD_makeInterface ?_; refine D_val0 (fun _ _ => R_mkI) rfl rfl ?_) | (refine cD_not ?_; refine D_val0 (fun _ _ => R_not rfl) rfl rfl ?_) | (refine cD_add ?_; refine D_val0 (fun _ _ => R_addI rfl rfl) rfl rfl ?_)); exact k_.out) : G := h ⟨k⟩ ag
theorem r139 {G G' : Prop} (k : G') (h : Hid G' → G := by intro k_; (repeat (first | (refine cL ?_; first | (refine cL_guard ?_; refine L_unwanted rfl rfl rfl ?_) | (refine cL_move ?_; refine L_val R_move rfl rfl rfl ?_) | (refine cL_load ?_; first | refine L_val (R_loadB rfl (by assumption) (by rfl)) rfl rfl rfl ?_ | refine L_val (R_loadH (by assumption) rfl (by assumption) (by rfl)) rfl rfl rfl ?_) | (refine cL_fieldAddr ?_; refine L_val (R_fa rfl) rfl rfl rfl ?_) | (refine cL_nilCheck ?_; refine L_val (R_nil rfl) rfl rfl rfl ?_) | (refine cL_assign ?_; refine L_val R_assign rfl rfl rfl ?_) | (refine cL_extract ?_; refine L_val (R_extract rfl rfl) rfl rfl rfl ?_) | (refine cL_typeAssert ?_; first | refine L_val (R_taY rfl) rfl rfl rfl ?_ | refine L_val (R_taN rfl rfl) rfl rfl rfl ?_ | refine L_val (R_taNil rfl) rfl rfl rfl ?_) | (refine cL_call ?_; refine L_val (R_len rfl) rfl rfl rfl ?_) | (refine cL_pick ?_; first | refine L_val (R_pickT rfl) rfl rfl rfl ?_ | refine L_val (R_pickF rfl) rfl rfl rfl ?_) | (refine cL_eql ?_; first | refine L_val (R_eqPN rfl rfl) rfl rfl rfl ?_ | refine L_val (R_eqI rfl rfl) rfl rfl rfl ?_ | refine L_val (R_eqB rfl rfl) rfl rfl rfl ?_ | refine L_val (R_eqIfN rfl rfl) rfl rfl rfl ?_ | refine L_val (R_eqIfNN rfl) rfl rfl rfl ?_) | (refine cL_neq ?_; first | refine L_val (R_nePN rfl rfl) rfl rfl rfl ?_ | refine L_val (R_neI rfl rfl) rfl rfl rfl ?_ | refine L_val (R_neB rfl rfl) rfl rfl rfl ?_ | refine L_val (R_neIfN rfl rfl) rfl rfl rfl ?_ | refine L_val (R_neIfNN rfl) rfl rfl rfl ?_) | (refine cL_lss ?_; refine L_val (R_ltI rfl rfl) rfl rfl rfl ?_) | (refine cL_makeInterface ?_; refine L_val R_mkI rfl rfl rfl ?_) | (refine cL_not ?_; refine L_val (R_not rfl) rfl rfl rfl ?_) | (refine cL_add ?_; refine L_val (R_addI rfl rfl) rfl rfl rfl ?_) | refine L_nil ?_) | refine G_seq ?_ | refine G_region ?_ | refine G_skip ?_ | refine G_block ?_ | refine G_end ?_ | refine G_true rfl ?_ | refine G_false rfl ?_)); exact k_.out) : G := h ⟨k⟩

def fieldB (nms nms' : List ByteArray) (r : Nat → Bool) (j : Nat) : Bool := beqB (nms[j]?.getD ⟨#[]⟩) (nms'[j]?.getD ⟨#[]⟩) && r j

section
variable {H : Hp} {c a b : Nat} (w : World) (hA : Agree H w) (hc : Cmp H c)
include hA hc

theorem id_struct {nms nms' : List ByteArray} {vs vs' : List Value} {sl sl' : Value} {r : Nat → Bool} (hp : Props H) (hx : H a = some (Ob [sl, .slice none 0 0] 184)) (hy : H b = some (Ob [sl', .slice none 0 0] 184))
    (hs : VarSl H nms vs sl) (hs' : VarSl H nms' vs' sl') (hcap : ∀ s ∈ nms, capital s) (hbd : vs.length < 9223372036854775808)
    (e : (Nat.beq 111 111 && peq (some ⟨a, 0, none⟩) (some ⟨b, 0, none⟩)) = false)
    (ih : ∀ i v v', vs[i]? = some v → vs'[i]? = some v' → ∀ w', Agree H w' → IdSays c v v' (r i) w') :
    IdSays c (.iface 111 (ptr a)) (.iface 111 (ptr b)) (decide (vs.length = vs'.length) && (List.range vs.length).all (fieldB nms nms' r)) w := by
  have hl : LiveH H a := ⟨_, _, _, hx⟩
  have hl' : LiveH H b := ⟨_, _, _, hy⟩
  unfold Cmp at hc
  obtain ⟨b1, cap, xs, rfl, h2, h3⟩ := hs
  obtain ⟨b1', cap', xs', rfl, h2', h3'⟩ := hs'
  cases hlen : decide (vs.length = vs'.length) with
  | false =>
    have en : ((vs.length : Int) == (vs'.length : Int)) = false := by
      have := of_decide_eq_false hlen
      simp
      omega
    (refine calls_enter Tryz.func37 Tryz.ntmps37 rfl rfl ?_)
    (repeat (first | (refine cL ?_; first | (refine cL_guard ?_; refine L_unwanted rfl rfl rfl ?_) | (refine cL_call ?_; first | refine L_callI (unalias_any _ _ _ rfl) rfl rfl ?_ | refine L_callI (numFields_any _ hA hx) rfl rfl ?_ | refine L_callI (numFields_any _ hA hy) rfl rfl ?_) | (refine cL_eql ?_; first | refine L_valB (R_eqIf rfl rfl (hA.live hl) (hA.live hl')) e rfl rfl rfl ?_ | refine L_valB (R_eqI rfl rfl) en rfl rfl rfl ?_)) | refine r137 ?_))
    (refine G_retF rfl ?_)
    exact ⟨_, rfl, rfl, Ext.refl _ _⟩
  | true =>
    have hle := of_decide_eq_true hlen
    have en : ((vs.length : Int) == (vs'.length : Int)) = true := by rw [hle]; simp
    simp only [Bool.true_and]
    (refine calls_enter Tryz.func37 Tryz.ntmps37 rfl rfl ?_)
    (repeat (first | (refine cL ?_; first | (refine cL_guard ?_; refine L_unwanted rfl rfl rfl ?_) | (refine cL_call ?_; first | refine L_callI (unalias_any _ _ _ rfl) rfl rfl ?_ | refine L_callI (numFields_any _ hA hx) rfl rfl ?_ | refine L_callI (numFields_any _ hA hy) rfl rfl ?_) | (refine cL_eql ?_; first | refine L_valB (R_eqIf rfl rfl (hA.live hl) (hA.live hl')) e rfl rfl rfl ?_ | refine L_valB (R_eqI rfl rfl) en rfl rfl rfl ?_)) | refine r137 ?_))
    refine G_loop (CountI 195 194 vs.length [(0, ptr c), (3, .pointer none), (18, ptr a), (19, ptr b), (193, .slice (some ⟨b1, 0, none⟩) vs.length cap)] w fun i => ∀ j, j < i → fieldB nms nms' r j = true) (fun f _ _ => countM 195 194 f)
      ⟨rfl, Ext.refl _ _, _, 0, with_self ⟨rfl, rfl, rfl, rfl, rfl, rfl, rfl, trivial⟩, Nat.zero_le _, fun j hj => absurd hj (Nat.not_lt_zero j)⟩ ?_
    rintro f ds wr ⟨rfl, hext, f0, i, rfl, hi, hJ⟩
    have hAr : Agree H wr := hA.ext0 hext
    by_cases h : i < vs.length
    · have hb : decide ((i : Int) < (vs.length : Int)) = true := decide_eq_true (by omega)
      obtain ⟨v, hv⟩ : ∃ v, vs[i]? = some v := ⟨_, List.getElem?_eq_getElem h⟩
      obtain ⟨v', hv'⟩ : ∃ v', vs'[i]? = some v' := ⟨_, List.getElem?_eq_getElem (by omega)⟩
      obtain ⟨nm, av, pos, pkg, kd, n1, n2, n3⟩ := h3.get hv
      obtain ⟨nm', av', pos', pkg', kd', n1', n2', n3'⟩ := h3'.get hv'
      have hcn : capital nm := hcap _ (List.mem_of_getElem? n1)
      have hih := ih i v v' hv hv'
      have hfb : fieldB nms nms' r i = (beqB nm nm' && r i) := by simp [fieldB, n1, n1']
      have hneT : (!(((⟨#[]⟩ : ByteArray).toList) == ((⟨#[]⟩ : ByteArray).toList))) = false := by simp
      (repeat (first | (refine cL ?_; first | (refine cL_guard ?_; refine L_unwanted rfl rfl rfl ?_) | (refine cL_load ?_; first | refine L_val (R_loadH hAr rfl h2 n2) rfl rfl rfl ?_ | refine L_val (R_loadH hAr rfl h2' n2') rfl rfl rfl ?_) | (refine cL_lss ?_; refine L_valB (R_ltI rfl rfl) hb rfl rfl rfl ?_) | (refine cL_indexAddr ?_; refine L_valE (R_ia rfl rfl (by omega) (by omega)) (ia0 _ _) rfl rfl rfl ?_)) | refine r137 ?_))
      (refine G_draw No (0 :: 1 :: 2 :: 3 :: 4 :: 5 :: 6 :: 7 :: 8 :: 9 :: 10 :: 11 :: 12 :: 13 :: 14 :: 15 :: 16 :: 17 :: 18 :: 19 :: 20 :: 21 :: 22 :: 23 :: 24 :: 25 :: 26 :: 27 :: 28 :: 29 :: 30 :: 31 :: 32 :: 33 :: 34 :: 35 :: 36 :: 37 :: 38 :: 39 :: 40 :: 41 :: 42 :: 43 :: 44 :: 45 :: 46 :: 47 :: 48 :: 49 :: 50 :: 51 :: 52 :: 53 :: 54 :: 55 :: 56 :: 57 :: []) [] follows (by kernel_rfl) rfl ?_)
      have hAg : ∀ w', Ext No wr w' → Agree H w' := fun _ he => hAr.ext0 he
      cases hbn : beqB nm nm' with
      | false =>
        rw [hbn, Bool.false_and] at hfb
        (repeat (first | (refine cD_guard ?_; refine D_unwanted rfl rfl ?_) | (refine cD_call ?_; first | refine D_callQ (fun w he => Is.qt (tag_any w (by omega) (hAg w he) hx)) rfl ?_ | refine D_callQ (fun w he => Is.qt (tag_any w (by omega) (hAg w he) hy)) rfl ?_ | refine D_callQ (fun w he => Is.qt (hbn ▸ sameId_any w (hAg w he) hp hcn n3)) rfl ?_) | (refine cD_neq ?_; refine D_valB (fun _ _ => R_neS rfl rfl) hneT rfl rfl ?_) | refine r138 hAg ?_))
        refine D_nil fun w1 hw1 => ?_
        (refine r139 ?_)
        (refine G_retF rfl ?_)
        exact ⟨_, rfl, congrArg Value.bool (allR_false h hfb).symm, hext.trans hw1⟩
      | true =>
        rw [hbn, Bool.true_and] at hfb
        cases hr : r i with
        | false =>
          rw [hr] at hfb hih
          (repeat (first | (refine cD_guard ?_; refine D_unwanted rfl rfl ?_) | (refine cD_call ?_; first | refine D_callQ (fun w he => Is.qt (tag_any w (by omega) (hAg w he) hx)) rfl ?_ | refine D_callQ (fun w he => Is.qt (tag_any w (by omega) (hAg w he) hy)) rfl ?_ | refine D_callQ (fun w he => Is.qt (hbn ▸ sameId_any w (hAg w he) hp hcn n3)) rfl ?_ | refine D_callQ (fun w he => hih w (hAg w he)) rfl ?_) | (refine cD_neq ?_; refine D_valB (fun _ _ => R_neS rfl rfl) hneT rfl rfl ?_) | refine r138 hAg ?_))
          refine D_nil fun w1 hw1 => ?_
          (refine r139 ?_)
          (refine G_retF rfl ?_)
          exact ⟨_, rfl, congrArg Value.bool (allR_false h hfb).symm, hext.trans hw1⟩
        | true =>
          rw [hr] at hfb hih
          (repeat (first | (refine cD_guard ?_; refine D_unwanted rfl rfl ?_) | (refine cD_call ?_; first | refine D_callQ (fun w he => Is.qt (tag_any w (by omega) (hAg w he) hx)) rfl ?_ | refine D_callQ (fun w he => Is.qt (tag_any w (by omega) (hAg w he) hy)) rfl ?_ | refine D_callQ (fun w he => Is.qt (hbn ▸ sameId_any w (hAg w he) hp hcn n3)) rfl ?_ | refine D_callQ (fun w he => hih w (hAg w he)) rfl ?_) | (refine cD_neq ?_; refine D_valB (fun _ _ => R_neS rfl rfl) hneT rfl rfl ?_) | refine r138 hAg ?_))
          refine D_nil fun w1 hw1 => ?_
          (repeat (first | (refine cL ?_; first | (refine cL_guard ?_; refine L_unwanted rfl rfl rfl ?_) | (refine cL_add ?_; refine L_valE (R_addI rfl rfl) (succ_i64 h hbd) rfl rfl rfl ?_)) | refine r137 ?_))
          refine G_inv ⟨⟨rfl, hext.trans hw1, _, i + 1, with_self ⟨rfl, rfl, rfl, rfl, rfl, rfl, rfl, trivial⟩, h, fun j hj => ?_⟩, ?_⟩
          · rcases Nat.lt_succ_iff_lt_or_eq.1 hj with hj | rfl
            · exact hJ j hj
            · exact hfb
          · show ((vs.length : Int) - ((i + 1 : Nat) : Int)).toNat < ((vs.length : Int) - (i : Int)).toNat
            omega
    · have hb : decide ((i : Int) < (vs.length : Int)) = false := decide_eq_false (by omega)
      (repeat (first | (refine cL ?_; first | (refine cL_guard ?_; refine L_unwanted rfl rfl rfl ?_) | (refine cL_lss ?_; refine L_valB (R_ltI rfl rfl) hb rfl rfl rfl ?_)) | refine G_exit rfl ?_ | refine r137 ?_))
      (refine G_retF rfl ?_)
      exact ⟨_, rfl, congrArg Value.bool (allR_true fun j hj => hJ j (by omega)).symm, hext⟩
end
end Go.Proofs.YtjilnjifegeceaaGreatDoor

/-
  Identical types, fourth part: parameters, functions, defined types.
  Said in full.
-/
namespace Go.Proofs.YtjilnjifegeceaaGreatDoor
set_option maxRecDepth 100000
set_option maxHeartbeats 4000000
attribute [local irreducible] Calls execOp

section
variable {H : Hp} {c : Nat} (w : World) (hA : Agree H w) (hc : Cmp H c)
include hA hc

theorem id_tuple {vs vs' : List Value} {x y : Value} {r : Nat → Bool} (hx : TupIs H vs x) (hy : TupIs H vs' y) (hbd : vs.length < 9223372036854775808)
    (hsame : x = y → (decide (vs.length = vs'.length) && (List.range vs.length).all r) = true)
    (ih : ∀ i v v', vs[i]? = some v → vs'[i]? = some v' → ∀ w', Agree H w' → IdSays c v v' (r i) w') :
    IdSays c (.iface 115 x) (.iface 115 y) (decide (vs.length = vs'.length) && (List.range vs.length).all r) w := by
  unfold Cmp at hc
  rcases hx with ⟨rfl, rfl⟩ | ⟨a, sl, rfl, hx, hs, hne⟩
  · rcases hy with ⟨rfl, rfl⟩ | ⟨b, sl', rfl, hy, hs', hne'⟩
    · rw [hsame rfl]
      have e : (Nat.beq 115 115 && peq none none) = true := rfl
      (refine calls_enter Tryz.func37 Tryz.ntmps37 rfl rfl ?_)
      (repeat (first | (refine cL ?_; first | (refine cL_guard ?_; refine L_unwanted rfl rfl rfl ?_) | (refine cL_move ?_; refine L_val R_move rfl rfl rfl ?_) | (refine cL_load ?_; first | refine L_val (R_loadB rfl (by assumption) (by rfl)) rfl rfl rfl ?_ | refine L_val (R_loadH (by assumption) rfl (by assumption) (by rfl)) rfl rfl rfl ?_) | (refine cL_fieldAddr ?_; refine L_val (R_fa rfl) rfl rfl rfl ?_) | (refine cL_nilCheck ?_; refine L_val (R_nil rfl) rfl rfl rfl ?_) | (refine cL_assign ?_; refine L_val R_assign rfl rfl rfl ?_) | (refine cL_extract ?_; refine L_val (R_extract rfl rfl) rfl rfl rfl ?_) | (refine cL_typeAssert ?_; first | refine L_val (R_taY rfl) rfl rfl rfl ?_ | refine L_val (R_taN rfl rfl) rfl rfl rfl ?_ | refine L_val (R_taNil rfl) rfl rfl rfl ?_) | (refine cL_call ?_; first | refine L_callI (unalias_any _ _ _ rfl) rfl rfl ?_ | refine L_val (R_len rfl) rfl rfl rfl ?_) | (refine cL_pick ?_; first | refine L_val (R_pickT rfl) rfl rfl rfl ?_ | refine L_val (R_pickF rfl) rfl rfl rfl ?_) | (refine cL_eql ?_; first | refine L_valB (R_eqIf rfl rfl trivial trivial) e rfl rfl rfl ?_ | refine L_val (R_eqPN rfl rfl) rfl rfl rfl ?_ | refine L_val (R_eqI rfl rfl) rfl rfl rfl ?_ | refine L_val (R_eqB rfl rfl) rfl rfl rfl ?_ | refine L_val (R_eqIfN rfl rfl) rfl rfl rfl ?_ | refine L_val (R_eqIfNN rfl) rfl rfl rfl ?_) | (refine cL_neq ?_; first | refine L_val (R_nePN rfl rfl) rfl rfl rfl ?_ | refine L_val (R_neI rfl rfl) rfl rfl rfl ?_ | refine L_val (R_neB rfl rfl) rfl rfl rfl ?_ | refine L_val (R_neIfN rfl rfl) rfl rfl rfl ?_ | refine L_val (R_neIfNN rfl) rfl rfl rfl ?_) | (refine cL_lss ?_; refine L_val (R_ltI rfl rfl) rfl rfl rfl ?_) | (refine cL_makeInterface ?_; refine L_val R_mkI rfl rfl rfl ?_) | (refine cL_not ?_; refine L_val (R_not rfl) rfl rfl rfl ?_) | (refine cL_add ?_; refine L_val (R_addI rfl rfl) rfl rfl rfl ?_) | refine L_nil ?_) | refine G_seq ?_ | refine G_region ?_ | refine G_skip ?_ | refine G_block ?_ | refine G_end ?_ | refine G_true rfl ?_ | refine G_false rfl ?_))
      (refine G_retF rfl ?_)
      exact ⟨_, rfl, rfl, Ext.refl _ _⟩
    · have hl' : LiveH H b := ⟨_, _, _, hy⟩
      have hn : 0 < vs'.length := List.length_pos_iff.2 hne'
      have hd : (decide (([] : List Value).length = vs'.length) && (List.range ([] : List Value).length).all r) = false := by
        rw [decide_eq_false (by simp; omega)]; rfl
      rw [hd]
      obtain ⟨b1', cap', xs', rfl, h2', h3'⟩ := hs'
      have e : (Nat.beq 115 115 && peq none (some ⟨b, 0, none⟩)) = false := rfl
      have en : (((0 : Nat) : Int) == (vs'.length : Int)) = false := by simp; omega
      (refine calls_enter Tryz.func37 Tryz.ntmps37 rfl rfl ?_)
      (repeat (first | (refine cL ?_; first | (refine cL_guard ?_; refine L_unwanted rfl rfl rfl ?_) | (refine cL_move ?_; refine L_val R_move rfl rfl rfl ?_) | (refine cL_load ?_; first | refine L_val (R_loadB rfl (by assumption) (by rfl)) rfl rfl rfl ?_ | refine L_val (R_loadH (by assumption) rfl (by assumption) (by rfl)) rfl rfl rfl ?_) | (refine cL_fieldAddr ?_; refine L_val (R_fa rfl) rfl rfl rfl ?_) | (refine cL_nilCheck ?_; refine L_val (R_nil rfl) rfl rfl rfl ?_) | (refine cL_assign ?_; refine L_val R_assign rfl rfl rfl ?_) | (refine cL_extract ?_; refine L_val (R_extract rfl rfl) rfl rfl rfl ?_) | (refine cL_typeAssert ?_; first | refine L_val (R_taY rfl) rfl rfl rfl ?_ | refine L_val (R_taN rfl rfl) rfl rfl rfl ?_ | refine L_val (R_taNil rfl) rfl rfl rfl ?_) | (refine cL_call ?_; first | refine L_callI (unalias_any _ _ _ rfl) rfl rfl ?_ | refine L_callI (tupLen_nil _) rfl rfl ?_ | refine L_callI (tupLen_any _ hA hy) rfl rfl ?_ | refine L_val (R_len rfl) rfl rfl rfl ?_) | (refine cL_pick ?_; first | refine L_val (R_pickT rfl) rfl rfl rfl ?_ | refine L_val (R_pickF rfl) rfl rfl rfl ?_) | (refine cL_eql ?_; first | refine L_valB (R_eqIf rfl rfl trivial (hA.live hl')) e rfl rfl rfl ?_ | refine L_valB (R_eqI rfl rfl) en rfl rfl rfl ?_ | refine L_val (R_eqPN rfl rfl) rfl rfl rfl ?_ | refine L_val (R_eqI rfl rfl) rfl rfl rfl ?_ | refine L_val (R_eqB rfl rfl) rfl rfl rfl ?_ | refine L_val (R_eqIfN rfl rfl) rfl rfl rfl ?_ | refine L_val (R_eqIfNN rfl) rfl rfl rfl ?_) | (refine cL_neq ?_; first | refine L_val (R_nePN rfl rfl) rfl rfl rfl ?_ | refine L_val (R_neI rfl rfl) rfl rfl rfl ?_ | refine L_val (R_neB rfl rfl) rfl rfl rfl ?_ | refine L_val (R_neIfN rfl rfl) rfl rfl rfl ?_ | refine L_val (R_neIfNN rfl) rfl rfl rfl ?_) | (refine cL_lss ?_; refine L_val (R_ltI rfl rfl) rfl rfl rfl ?_) | (refine cL_makeInterface ?_; refine L_val R_mkI rfl rfl rfl ?_) | (refine cL_not ?_; refine L_val (R_not rfl) rfl rfl rfl ?_) | (refine cL_add ?_; refine L_val (R_addI rfl rfl) rfl rfl rfl ?_) | refine L_nil ?_) | refine G_seq ?_ | refine G_region ?_ | refine G_skip ?_ | refine G_block ?_ | refine G_end ?_ | refine G_true rfl ?_ | refine G_false rfl ?_))
      (refine G_retF rfl ?_)
      exact ⟨_, rfl, rfl, Ext.refl _ _⟩
  · have hl : LiveH H a := ⟨_, _, _, hx⟩
    obtain ⟨b1, cap, xs, rfl, h2, h3⟩ := hs
    rcases hy with ⟨rfl, rfl⟩ | ⟨b, sl', rfl, hy, hs', hne'⟩
    · have hn : 0 < vs.length := List.length_pos_iff.2 hne
      have hd : (decide (vs.length = ([] : List Value).length) && (List.range vs.length).all r) = false := by
        rw [decide_eq_false (by simp; exact hne)]; rfl
      rw [hd]
      have e : (Nat.beq 115 115 && peq (some ⟨a, 0, none⟩) none) = false := rfl
      have en : ((vs.length : Int) == ((0 : Nat) : Int)) = false := by simp; omega
      (refine calls_enter Tryz.func37 Tryz.ntmps37 rfl rfl ?_)
      (repeat (first | (refine cL ?_; first | (refine cL_guard ?_; refine L_unwanted rfl rfl rfl ?_) | (refine cL_move ?_; refine L_val R_move rfl rfl rfl ?_) | (refine cL_load ?_; first | refine L_val (R_loadB rfl (by assumption) (by rfl)) rfl rfl rfl ?_ | refine L_val (R_loadH (by assumption) rfl (by assumption) (by rfl)) rfl rfl rfl ?_) | (refine cL_fieldAddr ?_; refine L_val (R_fa rfl) rfl rfl rfl ?_) | (refine cL_nilCheck ?_; refine L_val (R_nil rfl) rfl rfl rfl ?_) | (refine cL_assign ?_; refine L_val R_assign rfl rfl rfl ?_) | (refine cL_extract ?_; refine L_val (R_extract rfl rfl) rfl rfl rfl ?_) | (refine cL_typeAssert ?_; first | refine L_val (R_taY rfl) rfl rfl rfl ?_ | refine L_val (R_taN rfl rfl) rfl rfl rfl ?_ | refine L_val (R_taNil rfl) rfl rfl rfl ?_) | (refine cL_call ?_; first | refine L_callI (unalias_any _ _ _ rfl) rfl rfl ?_ | refine L_callI (tupLen_nil _) rfl rfl ?_ | refine L_callI (tupLen_any _ hA hx) rfl rfl ?_ | refine L_val (R_len rfl) rfl rfl rfl ?_) | (refine cL_pick ?_; first | refine L_val (R_pickT rfl) rfl rfl rfl ?_ | refine L_val (R_pickF rfl) rfl rfl rfl ?_) | (refine cL_eql ?_; first | refine L_valB (R_eqIf rfl rfl (hA.live hl) trivial) e rfl rfl rfl ?_ | refine L_valB (R_eqI rfl rfl) en rfl rfl rfl ?_ | refine L_val (R_eqPN rfl rfl) rfl rfl rfl ?_ | refine L_val (R_eqI rfl rfl) rfl rfl rfl ?_ | refine L_val (R_eqB rfl rfl) rfl rfl rfl ?_ | refine L_val (R_eqIfN rfl rfl) rfl rfl rfl ?_ | refine L_val (R_eqIfNN rfl) rfl rfl rfl ?_) | (refine cL_neq ?_; first | refine L_val (R_nePN rfl rfl) rfl rfl rfl ?_ | refine L_val (R_neI rfl rfl) rfl rfl rfl ?_ | refine L_val (R_neB rfl rfl) rfl rfl rfl ?_ | refine L_val (R_neIfN rfl rfl) rfl rfl rfl ?_ | refine L_val (R_neIfNN rfl) rfl rfl rfl ?_) | (refine cL_lss ?_; refine L_val (R_ltI rfl rfl) rfl rfl rfl ?_) | (refine cL_makeInterface ?_; refine L_val R_mkI rfl rfl rfl ?_) | (refine cL_not ?_; refine L_val (R_not rfl) rfl rfl rfl ?_) | (refine cL_add ?_; refine L_val (R_addI rfl rfl) rfl rfl rfl ?_) | refine L_nil ?_) | refine G_seq ?_ | refine G_region ?_ | refine G_skip ?_ | refine G_block ?_ | refine G_end ?_ | refine G_true rfl ?_ | refine G_false rfl ?_))
      (refine G_retF rfl ?_)
      exact ⟨_, rfl, rfl, Ext.refl _ _⟩
    · have hl' : LiveH H b := ⟨_, _, _, hy⟩
      obtain ⟨b1', cap', xs', rfl, h2', h3'⟩ := hs'
      cases hpq : peq (some ⟨a, 0, none⟩) (some ⟨b, 0, none⟩) with
      | true =>
        have hab := peq_true hpq
        subst hab
        rw [hsame rfl]
        exact id_eq w hA hl rfl
      | false =>
        have e : (Nat.beq 115 115 && peq (some ⟨a, 0, none⟩) (some ⟨b, 0, none⟩)) = false := by rw [hpq]; rfl
        cases hlen : decide (vs.length = vs'.length) with
        | false =>
          have en : ((vs.length : Int) == (vs'.length : Int)) = false := by
            have := of_decide_eq_false hlen
            simp
            omega
          (refine calls_enter Tryz.func37 Tryz.ntmps37 rfl rfl ?_)
          (repeat (first | (refine cL ?_; first | (refine cL_guard ?_; refine L_unwanted rfl rfl rfl ?_) | (refine cL_move ?_; refine L_val R_move rfl rfl rfl ?_) | (refine cL_load ?_; first | refine L_val (R_loadB rfl (by assumption) (by rfl)) rfl rfl rfl ?_ | refine L_val (R_loadH (by assumption) rfl (by assumption) (by rfl)) rfl rfl rfl ?_) | (refine cL_fieldAddr ?_; refine L_val (R_fa rfl) rfl rfl rfl ?_) | (refine cL_nilCheck ?_; refine L_val (R_nil rfl) rfl rfl rfl ?_) | (refine cL_assign ?_; refine L_val R_assign rfl rfl rfl ?_) | (refine cL_extract ?_; refine L_val (R_extract rfl rfl) rfl rfl rfl ?_) | (refine cL_typeAssert ?_; first | refine L_val (R_taY rfl) rfl rfl rfl ?_ | refine L_val (R_taN rfl rfl) rfl rfl rfl ?_ | refine L_val (R_taNil rfl) rfl rfl rfl ?_) | (refine cL_call ?_; first | refine L_callI (unalias_any _ _ _ rfl) rfl rfl ?_ | refine L_callI (tupLen_any _ hA hx) rfl rfl ?_ | refine L_callI (tupLen_any _ hA hy) rfl rfl ?_ | refine L_val (R_len rfl) rfl rfl rfl ?_) | (refine cL_pick ?_; first | refine L_val (R_pickT rfl) rfl rfl rfl ?_ | refine L_val (R_pickF rfl) rfl rfl rfl ?_) | (refine cL_eql ?_; first | refine L_valB (R_eqIf rfl rfl (hA.live hl) (hA.live hl')) e rfl rfl rfl ?_ | refine L_valB (R_eqI rfl rfl) en rfl rfl rfl ?_ | refine L_val (R_eqPN rfl rfl) rfl rfl rfl ?_ | refine L_val (R_eqI rfl rfl) rfl rfl rfl ?_ | refine L_val (R_eqB rfl rfl) rfl rfl rfl ?_ | refine L_val (R_eqIfN rfl rfl) rfl rfl rfl ?_ | refine L_val (R_eqIfNN rfl) rfl rfl rfl ?_) | (refine cL_neq ?_; first | refine L_val (R_nePN rfl rfl) rfl rfl rfl ?_ | refine L_val (R_neI rfl rfl) rfl rfl rfl ?_ | refine L_val (R_neB rfl rfl) rfl rfl rfl ?_ | refine L_val (R_neIfN rfl rfl) rfl rfl rfl ?_ | refine L_val (R_neIfNN rfl) rfl rfl rfl ?_) | (refine cL_lss ?_; refine L_val (R_ltI rfl rfl) rfl rfl rfl ?_) | (refine cL_makeInterface ?_; refine L_val R_mkI rfl rfl rfl ?_) | (refine cL_not ?_; refine L_val (R_not rfl) rfl rfl rfl ?_) | (refine cL_add ?_; refine L_val (R_addI rfl rfl) rfl rfl rfl ?_) | refine L_nil ?_) | refine G_seq ?_ | refine G_region ?_ | refine G_skip ?_ | refine G_block ?_ | refine G_end ?_ | refine G_true rfl ?_ | refine G_false rfl ?_))
          (refine G_retF rfl ?_)
          exact ⟨_, rfl, rfl, Ext.refl _ _⟩
        | true =>
          have hle := of_decide_eq_true hlen
          have en : ((vs.length : Int) == (vs'.length : Int)) = true := by rw [hle]; simp
          simp only [Bool.true_and]
          (refine calls_enter Tryz.func37 Tryz.ntmps37 rfl rfl ?_)
          (repeat (first | (refine cL ?_; first | (refine cL_guard ?_; refine L_unwanted rfl rfl rfl ?_) | (refine cL_move ?_; refine L_val R_move rfl rfl rfl ?_) | (refine cL_load ?_; first | refine L_val (R_loadB rfl (by assumption) (by rfl)) rfl rfl rfl ?_ | refine L_val (R_loadH (by assumption) rfl (by assumption) (by rfl)) rfl rfl rfl ?_) | (refine cL_fieldAddr ?_; refine L_val (R_fa rfl) rfl rfl rfl ?_) | (refine cL_nilCheck ?_; refine L_val (R_nil rfl) rfl rfl rfl ?_) | (refine cL_assign ?_; refine L_val R_assign rfl rfl rfl ?_) | (refine cL_extract ?_; refine L_val (R_extract rfl rfl) rfl rfl rfl ?_) | (refine cL_typeAssert ?_; first | refine L_val (R_taY rfl) rfl rfl rfl ?_ | refine L_val (R_taN rfl rfl) rfl rfl rfl ?_ | refine L_val (R_taNil rfl) rfl rfl rfl ?_) | (refine cL_call ?_; first | refine L_callI (unalias_any _ _ _ rfl) rfl rfl ?_ | refine L_callI (tupLen_any _ hA hx) rfl rfl ?_ | refine L_callI (tupLen_any _ hA hy) rfl rfl ?_ | refine L_val (R_len rfl) rfl rfl rfl ?_) | (refine cL_pick ?_; first | refine L_val (R_pickT rfl) rfl rfl rfl ?_ | refine L_val (R_pickF rfl) rfl rfl rfl ?_) | (refine cL_eql ?_; first | refine L_valB (R_eqIf rfl rfl (hA.live hl) (hA.live hl')) e rfl rfl rfl ?_ | refine L_valB (R_eqI rfl rfl) en rfl rfl rfl ?_ | refine L_val (R_eqPN rfl rfl) rfl rfl rfl ?_ | refine L_val (R_eqI rfl rfl) rfl rfl rfl ?_ | refine L_val (R_eqB rfl rfl) rfl rfl rfl ?_ | refine L_val (R_eqIfN rfl rfl) rfl rfl rfl ?_ | refine L_val (R_eqIfNN rfl) rfl rfl rfl ?_) | (refine cL_neq ?_; first | refine L_val (R_nePN rfl rfl) rfl rfl rfl ?_ | refine L_val (R_neI rfl rfl) rfl rfl rfl ?_ | refine L_val (R_neB rfl rfl) rfl rfl rfl ?_ | refine L_val (R_neIfN rfl rfl) rfl rfl rfl ?_ | refine L_val (R_neIfNN rfl) rfl rfl rfl ?_) | (refine cL_lss ?_; refine L_val (R_ltI rfl rfl) rfl rfl rfl ?_) | (refine cL_makeInterface ?_; refine L_val R_mkI rfl rfl rfl ?_) | (refine cL_not ?_; refine L_val (R_not rfl) rfl rfl rfl ?_) | (refine cL_add ?_; refine L_val (R_addI rfl rfl) rfl rfl rfl ?_) | refine L_nil ?_) | refine G_seq ?_ | refine G_region ?_ | refine G_skip ?_ | refine G_block ?_ | refine G_end ?_ | refine G_true rfl ?_ | refine G_false rfl ?_))
          refine G_loop (CountI 307 306 vs.length [(0, ptr c), (3, .pointer none), (28, ptr b), (305, .slice (some ⟨b1, 0, none⟩) vs.length cap)] w fun i => ∀ j, j < i → r j = true) (fun f _ _ => countM 307 306 f)
            ⟨rfl, Ext.refl _ _, _, 0, with_self ⟨rfl, rfl, rfl, rfl, rfl, rfl, trivial⟩, Nat.zero_le _, fun j hj => absurd hj (Nat.not_lt_zero j)⟩ ?_
          rintro f ds wr ⟨rfl, hext, f0, i, rfl, hi, hJ⟩
          have hAr : Agree H wr := hA.ext0 hext
          by_cases h : i < vs.length
          · have hb : decide ((i : Int) < (vs.length : Int)) = true := decide_eq_true (by omega)
            obtain ⟨v, hv⟩ : ∃ v, vs[i]? = some v := ⟨_, List.getElem?_eq_getElem h⟩
            obtain ⟨v', hv'⟩ : ∃ v', vs'[i]? = some v' := ⟨_, List.getElem?_eq_getElem (by omega)⟩
            obtain ⟨nm, av, pos, pkg, kd, n1, n2, n3⟩ := h3.get hv
            obtain ⟨nm', av', pos', pkg', kd', n1', n2', n3'⟩ := h3'.get hv'
            have hih := ih i v v' hv hv'
            (repeat (first | (refine cL ?_; first | (refine cL_guard ?_; refine L_unwanted rfl rfl rfl ?_) | (refine cL_move ?_; refine L_val R_move rfl rfl rfl ?_) | (refine cL_load ?_; first | refine L_val (R_loadH hAr rfl h2 n2) rfl rfl rfl ?_ | refine L_val (R_loadH hAr rfl h2' n2') rfl rfl rfl ?_ | refine L_val (R_loadB rfl (by assumption) (by rfl)) rfl rfl rfl ?_ | refine L_val (R_loadH (by assumption) rfl (by assumption) (by rfl)) rfl rfl rfl ?_) | (refine cL_fieldAddr ?_; refine L_val (R_fa rfl) rfl rfl rfl ?_) | (refine cL_nilCheck ?_; refine L_val (R_nil rfl) rfl rfl rfl ?_) | (refine cL_assign ?_; refine L_val R_assign rfl rfl rfl ?_) | (refine cL_extract ?_; refine L_val (R_extract rfl rfl) rfl rfl rfl ?_) | (refine cL_typeAssert ?_; first | refine L_val (R_taY rfl) rfl rfl rfl ?_ | refine L_val (R_taN rfl rfl) rfl rfl rfl ?_ | refine L_val (R_taNil rfl) rfl rfl rfl ?_) | (refine cL_call ?_; refine L_val (R_len rfl) rfl rfl rfl ?_) | (refine cL_pick ?_; first | refine L_val (R_pickT rfl) rfl rfl rfl ?_ | refine L_val (R_pickF rfl) rfl rfl rfl ?_) | (refine cL_eql ?_; first | refine L_val (R_eqPN rfl rfl) rfl rfl rfl ?_ | refine L_val (R_eqI rfl rfl) rfl rfl rfl ?_ | refine L_val (R_eqB rfl rfl) rfl rfl rfl ?_ | refine L_val (R_eqIfN rfl rfl) rfl rfl rfl ?_ | refine L_val (R_eqIfNN rfl) rfl rfl rfl ?_) | (refine cL_neq ?_; first | refine L_val (R_nePN rfl rfl) rfl rfl rfl ?_ | refine L_val (R_neI rfl rfl) rfl rfl rfl ?_ | refine L_val (R_neB rfl rfl) rfl rfl rfl ?_ | refine L_val (R_neIfN rfl rfl) rfl rfl rfl ?_ | refine L_val (R_neIfNN rfl) rfl rfl rfl ?_) | (refine cL_lss ?_; first | refine L_valB (R_ltI rfl rfl) hb rfl rfl rfl ?_ | refine L_val (R_ltI rfl rfl) rfl rfl rfl ?_) | (refine cL_indexAddr ?_; refine L_valE (R_ia rfl rfl (by omega) (by omega)) (ia0 _ _) rfl rfl rfl ?_) | (refine cL_makeInterface ?_; refine L_val R_mkI rfl rfl rfl ?_) | (refine cL_not ?_; refine L_val (R_not rfl) rfl rfl rfl ?_) | (refine cL_add ?_; refine L_val (R_addI rfl rfl) rfl rfl rfl ?_) | refine L_nil ?_) | refine G_seq ?_ | refine G_region ?_ | refine G_skip ?_ | refine G_block ?_ | refine G_end ?_ | refine G_true rfl ?_ | refine G_false rfl ?_))
            (refine G_draw No (0 :: 1 :: 2 :: 3 :: 4 :: 5 :: 6 :: 7 :: 8 :: 9 :: 10 :: 11 :: 12 :: 13 :: []) [] follows (by kernel_rfl) rfl ?_)
            have hAg : ∀ w', Ext No wr w' → Agree H w' := fun _ he => hAr.ext0 he
            cases hr : r i with
            | false =>
              rw [hr] at hih
              (repeat (first | (refine cD_guard ?_; refine D_unwanted rfl rfl ?_) | (refine cD_move ?_; refine D_val0 (fun _ _ => R_move) rfl rfl ?_) | (refine cD_load ?_; refine D_val0 (fun w he => R_loadH (hAg w he) rfl (by assumption) (by rfl)) rfl rfl ?_) | (refine cD_fieldAddr ?_; refine D_val0 (fun _ _ => R_fa rfl) rfl rfl ?_) | (refine cD_nilCheck ?_; refine D_val0 (fun _ _ => R_nil rfl) rfl rfl ?_) | (refine cD_assign ?_; refine D_val0 (fun _ _ => R_assign) rfl rfl ?_) | (refine cD_extract ?_; refine D_val0 (fun _ _ => R_extract rfl rfl) rfl rfl ?_) | (refine cD_typeAssert ?_; first | refine D_val0 (fun _ _ => R_taY rfl) rfl rfl ?_ | refine D_val0 (fun _ _ => R_taN rfl rfl) rfl rfl ?_ | refine D_val0 (fun _ _ => R_taNil rfl) rfl rfl ?_) | (refine cD_call ?_; first | refine D_callQ (fun w he => hih w (hAg w he)) rfl ?_ | refine D_val0 (fun _ _ => R_len rfl) rfl rfl ?_) | (refine cD_pick ?_; first | refine D_val0 (fun _ _ => R_pickT rfl) rfl rfl ?_ | refine D_val0 (fun _ _ => R_pickF rfl) rfl rfl ?_) | (refine cD_eql ?_; first | refine D_val0 (fun _ _ => R_eqPN rfl rfl) rfl rfl ?_ | refine D_val0 (fun _ _ => R_eqI rfl rfl) rfl rfl ?_ | refine D_val0 (fun _ _ => R_eqB rfl rfl) rfl rfl ?_ | refine D_val0 (fun _ _ => R_eqIfN rfl rfl) rfl rfl ?_ | refine D_val0 (fun _ _ => R_eqIfNN rfl) rfl rfl ?_) | (refine cD_neq ?_; first | refine D_val0 (fun _ _ => R_nePN rfl rfl) rfl rfl ?_ | refine D_val0 (fun _ _ => R_neI rfl rfl) rfl rfl ?_ | refine D_val0 (fun _ _ => R_neB rfl rfl) rfl rfl ?_ | refine D_val0 (fun _ _ => R_neIfN rfl rfl) rfl rfl ?_ | refine D_val0 (fun _ _ => R_neIfNN rfl) rfl rfl ?_) | (refine cD_lss ?_; refine D_val0 (fun _ _ => R_ltI rfl rfl) rfl rfl ?_) | (refine cD_makeInterface ?_; refine D_val0 (fun _ _ => R_mkI) rfl rfl ?_) | (refine cD_not ?_; refine D_val0 (fun _ _ => R_not rfl) rfl rfl ?_) | (refine cD_add ?_; refine D_val0 (fun _ _ => R_addI rfl rfl) rfl rfl ?_)))
              refine D_nil fun w1 hw1 => ?_
              (repeat (first | (refine cL ?_; first | (refine cL_guard ?_; refine L_unwanted rfl rfl rfl ?_) | (refine cL_move ?_; refine L_val R_move rfl rfl rfl ?_) | (refine cL_load ?_; first | refine L_val (R_loadB rfl (by assumption) (by rfl)) rfl rfl rfl ?_ | refine L_val (R_loadH (by assumption) rfl (by assumption) (by rfl)) rfl rfl rfl ?_) | (refine cL_fieldAddr ?_; refine L_val (R_fa rfl) rfl rfl rfl ?_) | (refine cL_nilCheck ?_; refine L_val (R_nil rfl) rfl rfl rfl ?_) | (refine cL_assign ?_; refine L_val R_assign rfl rfl rfl ?_) | (refine cL_extract ?_; refine L_val (R_extract rfl rfl) rfl rfl rfl ?_) | (refine cL_typeAssert ?_; first | refine L_val (R_taY rfl) rfl rfl rfl ?_ | refine L_val (R_taN rfl rfl) rfl rfl rfl ?_ | refine L_val (R_taNil rfl) rfl rfl rfl ?_) | (refine cL_call ?_; refine L_val (R_len rfl) rfl rfl rfl ?_) | (refine cL_pick ?_; first | refine L_val (R_pickT rfl) rfl rfl rfl ?_ | refine L_val (R_pickF rfl) rfl rfl rfl ?_) | (refine cL_eql ?_; first | refine L_val (R_eqPN rfl rfl) rfl rfl rfl ?_ | refine L_val (R_eqI rfl rfl) rfl rfl rfl ?_ | refine L_val (R_eqB rfl rfl) rfl rfl rfl ?_ | refine L_val (R_eqIfN rfl rfl) rfl rfl rfl ?_ | refine L_val (R_eqIfNN rfl) rfl rfl rfl ?_) | (refine cL_neq ?_; first | refine L_val (R_nePN rfl rfl) rfl rfl rfl ?_ | refine L_val (R_neI rfl rfl) rfl rfl rfl ?_ | refine L_val (R_neB rfl rfl) rfl rfl rfl ?_ | refine L_val (R_neIfN rfl rfl) rfl rfl rfl ?_ | refine L_val (R_neIfNN rfl) rfl rfl rfl ?_) | (refine cL_lss ?_; refine L_val (R_ltI rfl rfl) rfl rfl rfl ?_) | (refine cL_makeInterface ?_; refine L_val R_mkI rfl rfl rfl ?_) | (refine cL_not ?_; refine L_val (R_not rfl) rfl rfl rfl ?_) | (refine cL_add ?_; refine L_val (R_addI rfl rfl) rfl rfl rfl ?_) | refine L_nil ?_) | refine G_seq ?_ | refine G_region ?_ | refine G_skip ?_ | refine G_block ?_ | refine G_end ?_ | refine G_true rfl ?_ | refine G_false rfl ?_))
              (refine G_retF rfl ?_)
              exact ⟨_, rfl, congrArg Value.bool (allR_false h hr).symm, hext.trans hw1⟩
            | true =>
              rw [hr] at hih
              (repeat (first | (refine cD_guard ?_; refine D_unwanted rfl rfl ?_) | (refine cD_move ?_; refine D_val0 (fun _ _ => R_move) rfl rfl ?_) | (refine cD_load ?_; refine D_val0 (fun w he => R_loadH (hAg w he) rfl (by assumption) (by rfl)) rfl rfl ?_) | (refine cD_fieldAddr ?_; refine D_val0 (fun _ _ => R_fa rfl) rfl rfl ?_) | (refine cD_nilCheck ?_; refine D_val0 (fun _ _ => R_nil rfl) rfl rfl ?_) | (refine cD_assign ?_; refine D_val0 (fun _ _ => R_assign) rfl rfl ?_) | (refine cD_extract ?_; refine D_val0 (fun _ _ => R_extract rfl rfl) rfl rfl ?_) | (refine cD_typeAssert ?_; first | refine D_val0 (fun _ _ => R_taY rfl) rfl rfl ?_ | refine D_val0 (fun _ _ => R_taN rfl rfl) rfl rfl ?_ | refine D_val0 (fun _ _ => R_taNil rfl) rfl rfl ?_) | (refine cD_call ?_; first | refine D_callQ (fun w he => hih w (hAg w he)) rfl ?_ | refine D_val0 (fun _ _ => R_len rfl) rfl rfl ?_) | (refine cD_pick ?_; first | refine D_val0 (fun _ _ => R_pickT rfl) rfl rfl ?_ | refine D_val0 (fun _ _ => R_pickF rfl) rfl rfl ?_) | (refine cD_eql ?_; first | refine D_val0 (fun _ _ => R_eqPN rfl rfl) rfl rfl ?_ | refine D_val0 (fun _ _ => R_eqI rfl rfl) rfl rfl ?_ | refine D_val0 (fun _ _ => R_eqB rfl rfl) rfl rfl ?_ | refine D_val0 (fun _ _ => R_eqIfN rfl rfl) rfl rfl ?_ | refine D_val0 (fun _ _ => R_eqIfNN rfl) rfl rfl ?_) | (refine cD_neq ?_; first | refine D_val0 (fun _ _ => R_nePN rfl rfl) rfl rfl ?_ | refine D_val0 (fun _ _ => R_neI rfl rfl) rfl rfl ?_ | refine D_val0 (fun _ _ => R_neB rfl rfl) rfl rfl ?_ | refine D_val0 (fun _ _ => R_neIfN rfl rfl) rfl rfl ?_ | refine D_val0 (fun _ _ => R_neIfNN rfl) rfl rfl ?_) | (refine cD_lss ?_; refine D_val0 (fun _ _ => R_ltI rfl rfl) rfl rfl ?_) | (refine cD_makeInterface ?_; refine D_val0 (fun _ _ => R_mkI) rfl rfl ?_) | (refine cD_not ?_; refine D_val0 (fun _ _ => R_not rfl) rfl rfl ?_) | (refine cD_add ?_; refine D_val0 (fun _ _ => R_addI rfl rfl) rfl rfl ?_)))
              refine D_nil fun w1 hw1 => ?_
              (repeat (first | (refine cL ?_; first | (refine cL_guard ?_; refine L_unwanted rfl rfl rfl ?_) | (refine cL_move ?_; refine L_val R_move rfl rfl rfl ?_) | (refine cL_load ?_; first | refine L_val (R_loadB rfl (by assumption) (by rfl)) rfl rfl rfl ?_ | refine L_val (R_loadH (by assumption) rfl (by assumption) (by rfl)) rfl rfl rfl ?_) | (refine cL_fieldAddr ?_; refine L_val (R_fa rfl) rfl rfl rfl ?_) | (refine cL_nilCheck ?_; refine L_val (R_nil rfl) rfl rfl rfl ?_) | (refine cL_assign ?_; refine L_val R_assign rfl rfl rfl ?_) | (refine cL_extract ?_; refine L_val (R_extract rfl rfl) rfl rfl rfl ?_) | (refine cL_typeAssert ?_; first | refine L_val (R_taY rfl) rfl rfl rfl ?_ | refine L_val (R_taN rfl rfl) rfl rfl rfl ?_ | refine L_val (R_taNil rfl) rfl rfl rfl ?_) | (refine cL_call ?_; refine L_val (R_len rfl) rfl rfl rfl ?_) | (refine cL_pick ?_; first | refine L_val (R_pickT rfl) rfl rfl rfl ?_ | refine L_val (R_pickF rfl) rfl rfl rfl ?_) | (refine cL_eql ?_; first | refine L_val (R_eqPN rfl rfl) rfl rfl rfl ?_ | refine L_val (R_eqI rfl rfl) rfl rfl rfl ?_ | refine L_val (R_eqB rfl rfl) rfl rfl rfl ?_ | refine L_val (R_eqIfN rfl rfl) rfl rfl rfl ?_ | refine L_val (R_eqIfNN rfl) rfl rfl rfl ?_) | (refine cL_neq ?_; first | refine L_val (R_nePN rfl rfl) rfl rfl rfl ?_ | refine L_val (R_neI rfl rfl) rfl rfl rfl ?_ | refine L_val (R_neB rfl rfl) rfl rfl rfl ?_ | refine L_val (R_neIfN rfl rfl) rfl rfl rfl ?_ | refine L_val (R_neIfNN rfl) rfl rfl rfl ?_) | (refine cL_lss ?_; refine L_val (R_ltI rfl rfl) rfl rfl rfl ?_) | (refine cL_makeInterface ?_; refine L_val R_mkI rfl rfl rfl ?_) | (refine cL_not ?_; refine L_val (R_not rfl) rfl rfl rfl ?_) | (refine cL_add ?_; first | refine L_valE (R_addI rfl rfl) (succ_i64 h hbd) rfl rfl rfl ?_ | refine L_val (R_addI rfl rfl) rfl rfl rfl ?_) | refine L_nil ?_) | refine G_seq ?_ | refine G_region ?_ | refine G_skip ?_ | refine G_block ?_ | refine G_end ?_ | refine G_true rfl ?_ | refine G_false rfl ?_))
              refine G_inv ⟨⟨rfl, hext.trans hw1, _, i + 1, with_self ⟨rfl, rfl, rfl, rfl, rfl, rfl, trivial⟩, h, fun j hj => ?_⟩, ?_⟩
              · rcases Nat.lt_succ_iff_lt_or_eq.1 hj with hj | rfl
                · exact hJ j hj
                · exact hr
              · show ((vs.length : Int) - ((i + 1 : Nat) : Int)).toNat < ((vs.length : Int) - (i : Int)).toNat
                omega
          · have hb : decide ((i : Int) < (vs.length : Int)) = false := decide_eq_false (by omega)
            (repeat (first | (refine cL ?_; first | (refine cL_guard ?_; refine L_unwanted rfl rfl rfl ?_) | (refine cL_move ?_; refine L_val R_move rfl rfl rfl ?_) | (refine cL_load ?_; first | refine L_val (R_loadB rfl (by assumption) (by rfl)) rfl rfl rfl ?_ | refine L_val (R_loadH (by assumption) rfl (by assumption) (by rfl)) rfl rfl rfl ?_) | (refine cL_fieldAddr ?_; refine L_val (R_fa rfl) rfl rfl rfl ?_) | (refine cL_nilCheck ?_; refine L_val (R_nil rfl) rfl rfl rfl ?_) | (refine cL_assign ?_; refine L_val R_assign rfl rfl rfl ?_) | (refine cL_extract ?_; refine L_val (R_extract rfl rfl) rfl rfl rfl ?_) | (refine cL_typeAssert ?_; first | refine L_val (R_taY rfl) rfl rfl rfl ?_ | refine L_val (R_taN rfl rfl) rfl rfl rfl ?_ | refine L_val (R_taNil rfl) rfl rfl rfl ?_) | (refine cL_call ?_; refine L_val (R_len rfl) rfl rfl rfl ?_) | (refine cL_pick ?_; first | refine L_val (R_pickT rfl) rfl rfl rfl ?_ | refine L_val (R_pickF rfl) rfl rfl rfl ?_) | (refine cL_eql ?_; first | refine L_val (R_eqPN rfl rfl) rfl rfl rfl ?_ | refine L_val (R_eqI rfl rfl) rfl rfl rfl ?_ | refine L_val (R_eqB rfl rfl) rfl rfl rfl ?_ | refine L_val (R_eqIfN rfl rfl) rfl rfl rfl ?_ | refine L_val (R_eqIfNN rfl) rfl rfl rfl ?_) | (refine cL_neq ?_; first | refine L_val (R_nePN rfl rfl) rfl rfl rfl ?_ | refine L_val (R_neI rfl rfl) rfl rfl rfl ?_ | refine L_val (R_neB rfl rfl) rfl rfl rfl ?_ | refine L_val (R_neIfN rfl rfl) rfl rfl rfl ?_ | refine L_val (R_neIfNN rfl) rfl rfl rfl ?_) | (refine cL_lss ?_; first | refine L_valB (R_ltI rfl rfl) hb rfl rfl rfl ?_ | refine L_val (R_ltI rfl rfl) rfl rfl rfl ?_) | (refine cL_makeInterface ?_; refine L_val R_mkI rfl rfl rfl ?_) | (refine cL_not ?_; refine L_val (R_not rfl) rfl rfl rfl ?_) | (refine cL_add ?_; refine L_val (R_addI rfl rfl) rfl rfl rfl ?_) | refine L_nil ?_) | refine G_exit rfl ?_ | refine G_seq ?_ | refine G_region ?_ | refine G_skip ?_ | refine G_block ?_ | refine G_end ?_ | refine G_true rfl ?_ | refine G_false rfl ?_))
            (refine G_retF rfl ?_)
            exact ⟨_, rfl, congrArg Value.bool (allR_true fun j hj => hJ j (by omega)).symm, hext⟩

theorem id_func {a b : Nat} {x y x' y' : Value} {d d' r q : Bool} (hx : H a = some (Ob [.pointer none, .pointer none, x, y, .bool d] 134)) (hy : H b = some (Ob [.pointer none, .pointer none, x', y', .bool d'] 134))
    (e : (Nat.beq 113 113 && peq (some ⟨a, 0, none⟩) (some ⟨b, 0, none⟩)) = false)
    (ih : ∀ w', Agree H w' → IdSays c (.iface 115 x) (.iface 115 x') r w') (ih2 : ∀ w', Agree H w' → IdSays c (.iface 115 y) (.iface 115 y') q w') :
    IdSays c (.iface 113 (ptr a)) (.iface 113 (ptr b)) ((d == d') && (r && q)) w := by
  have hl : LiveH H a := ⟨_, _, _, hx⟩
  have hl' : LiveH H b := ⟨_, _, _, hy⟩
  have hAg : ∀ w', Ext No w w' → Agree H w' := fun _ he => hA.ext0 he
  unfold Cmp at hc
  (refine calls_enter Tryz.func37 Tryz.ntmps37 rfl rfl ?_)
  (repeat (first | (refine cL ?_; first | (refine cL_guard ?_; refine L_unwanted rfl rfl rfl ?_) | (refine cL_move ?_; refine L_val R_move rfl rfl rfl ?_) | (refine cL_load ?_; first | refine L_val (R_loadB rfl (by assumption) (by rfl)) rfl rfl rfl ?_ | refine L_val (R_loadH (by assumption) rfl (by assumption) (by rfl)) rfl rfl rfl ?_) | (refine cL_fieldAddr ?_; refine L_val (R_fa rfl) rfl rfl rfl ?_) | (refine cL_nilCheck ?_; refine L_val (R_nil rfl) rfl rfl rfl ?_) | (refine cL_assign ?_; refine L_val R_assign rfl rfl rfl ?_) | (refine cL_extract ?_; refine L_val (R_extract rfl rfl) rfl rfl rfl ?_) | (refine cL_typeAssert ?_; first | refine L_val (R_taY rfl) rfl rfl rfl ?_ | refine L_val (R_taN rfl rfl) rfl rfl rfl ?_ | refine L_val (R_taNil rfl) rfl rfl rfl ?_) | (refine cL_call ?_; first | refine L_callI (unalias_any _ _ _ rfl) rfl rfl ?_ | refine L_val (R_len rfl) rfl rfl rfl ?_) | (refine cL_pick ?_; first | refine L_val (R_pickT rfl) rfl rfl rfl ?_ | refine L_val (R_pickF rfl) rfl rfl rfl ?_) | (refine cL_eql ?_; first | refine L_valB (R_eqIf rfl rfl (hA.live hl) (hA.live hl')) e rfl rfl rfl ?_ | refine L_val (R_eqPN rfl rfl) rfl rfl rfl ?_ | refine L_val (R_eqI rfl rfl) rfl rfl rfl ?_ | refine L_val (R_eqB rfl rfl) rfl rfl rfl ?_ | refine L_val (R_eqIfN rfl rfl) rfl rfl rfl ?_ | refine L_val (R_eqIfNN rfl) rfl rfl rfl ?_) | (refine cL_neq ?_; first | refine L_val (R_nePN rfl rfl) rfl rfl rfl ?_ | refine L_val (R_neI rfl rfl) rfl rfl rfl ?_ | refine L_val (R_neB rfl rfl) rfl rfl rfl ?_ | refine L_val (R_neIfN rfl rfl) rfl rfl rfl ?_ | refine L_val (R_neIfNN rfl) rfl rfl rfl ?_) | (refine cL_lss ?_; refine L_val (R_ltI rfl rfl) rfl rfl rfl ?_) | (refine cL_makeInterface ?_; refine L_val R_mkI rfl rfl rfl ?_) | (refine cL_not ?_; refine L_val (R_not rfl) rfl rfl rfl ?_) | (refine cL_add ?_; refine L_val (R_addI rfl rfl) rfl rfl rfl ?_) | refine L_nil ?_) | refine G_seq ?_ | refine G_region ?_ | refine G_skip ?_ | refine G_block ?_ | refine G_end ?_ | refine G_true rfl ?_ | refine G_false rfl ?_))
  (refine G_draw No (0 :: 1 :: 2 :: 3 :: 4 :: 5 :: 6 :: 7 :: 8 :: 9 :: 10 :: 11 :: 12 :: 13 :: 14 :: 15 :: 16 :: 17 :: 18 :: 19 :: 20 :: 21 :: 22 :: 23 :: 24 :: 25 :: 26 :: 27 :: 28 :: 29 :: 30 :: 31 :: 32 :: 33 :: []) [] follows (by kernel_rfl) rfl ?_)
  cases e0 : (d == d') with
  | false =>
    (repeat (first | (refine cD_guard ?_; refine D_unwanted rfl rfl ?_) | (refine cD_move ?_; refine D_val0 (fun _ _ => R_move) rfl rfl ?_) | (refine cD_load ?_; refine D_val0 (fun w he => R_loadH (hAg w he) rfl (by assumption) (by rfl)) rfl rfl ?_) | (refine cD_fieldAddr ?_; refine D_val0 (fun _ _ => R_fa rfl) rfl rfl ?_) | (refine cD_nilCheck ?_; refine D_val0 (fun _ _ => R_nil rfl) rfl rfl ?_) | (refine cD_assign ?_; refine D_val0 (fun _ _ => R_assign) rfl rfl ?_) | (refine cD_extract ?_; refine D_val0 (fun _ _ => R_extract rfl rfl) rfl rfl ?_) | (refine cD_typeAssert ?_; first | refine D_val0 (fun _ _ => R_taY rfl) rfl rfl ?_ | refine D_val0 (fun _ _ => R_taN rfl rfl) rfl rfl ?_ | refine D_val0 (fun _ _ => R_taNil rfl) rfl rfl ?_) | (refine cD_call ?_; refine D_val0 (fun _ _ => R_len rfl) rfl rfl ?_) | (refine cD_pick ?_; first | refine D_val0 (fun _ _ => R_pickT rfl) rfl rfl ?_ | refine D_val0 (fun _ _ => R_pickF rfl) rfl rfl ?_) | (refine cD_eql ?_; first | refine D_valB (fun _ _ => R_eqB rfl rfl) e0 rfl rfl ?_ | refine D_val0 (fun _ _ => R_eqPN rfl rfl) rfl rfl ?_ | refine D_val0 (fun _ _ => R_eqI rfl rfl) rfl rfl ?_ | refine D_val0 (fun _ _ => R_eqB rfl rfl) rfl rfl ?_ | refine D_val0 (fun _ _ => R_eqIfN rfl rfl) rfl rfl ?_ | refine D_val0 (fun _ _ => R_eqIfNN rfl) rfl rfl ?_) | (refine cD_neq ?_; first | refine D_val0 (fun _ _ => R_nePN rfl rfl) rfl rfl ?_ | refine D_val0 (fun _ _ => R_neI rfl rfl) rfl rfl ?_ | refine D_val0 (fun _ _ => R_neB rfl rfl) rfl rfl ?_ | refine D_val0 (fun _ _ => R_neIfN rfl rfl) rfl rfl ?_ | refine D_val0 (fun _ _ => R_neIfNN rfl) rfl rfl ?_) | (refine cD_lss ?_; refine D_val0 (fun _ _ => R_ltI rfl rfl) rfl rfl ?_) | (refine cD_makeInterface ?_; refine D_val0 (fun _ _ => R_mkI) rfl rfl ?_) | (refine cD_not ?_; refine D_val0 (fun _ _ => R_not rfl) rfl rfl ?_) | (refine cD_add ?_; refine D_val0 (fun _ _ => R_addI rfl rfl) rfl rfl ?_)))
    refine D_nil fun w1 hw1 => ?_
    (repeat (first | (refine cL ?_; first | (refine cL_guard ?_; refine L_unwanted rfl rfl rfl ?_) | (refine cL_move ?_; refine L_val R_move rfl rfl rfl ?_) | (refine cL_load ?_; first | refine L_val (R_loadB rfl (by assumption) (by rfl)) rfl rfl rfl ?_ | refine L_val (R_loadH (by assumption) rfl (by assumption) (by rfl)) rfl rfl rfl ?_) | (refine cL_fieldAddr ?_; refine L_val (R_fa rfl) rfl rfl rfl ?_) | (refine cL_nilCheck ?_; refine L_val (R_nil rfl) rfl rfl rfl ?_) | (refine cL_assign ?_; refine L_val R_assign rfl rfl rfl ?_) | (refine cL_extract ?_; refine L_val (R_extract rfl rfl) rfl rfl rfl ?_) | (refine cL_typeAssert ?_; first | refine L_val (R_taY rfl) rfl rfl rfl ?_ | refine L_val (R_taN rfl rfl) rfl rfl rfl ?_ | refine L_val (R_taNil rfl) rfl rfl rfl ?_) | (refine cL_call ?_; refine L_val (R_len rfl) rfl rfl rfl ?_) | (refine cL_pick ?_; first | refine L_val (R_pickT rfl) rfl rfl rfl ?_ | refine L_val (R_pickF rfl) rfl rfl rfl ?_) | (refine cL_eql ?_; first | refine L_val (R_eqPN rfl rfl) rfl rfl rfl ?_ | refine L_val (R_eqI rfl rfl) rfl rfl rfl ?_ | refine L_val (R_eqB rfl rfl) rfl rfl rfl ?_ | refine L_val (R_eqIfN rfl rfl) rfl rfl rfl ?_ | refine L_val (R_eqIfNN rfl) rfl rfl rfl ?_) | (refine cL_neq ?_; first | refine L_val (R_nePN rfl rfl) rfl rfl rfl ?_ | refine L_val (R_neI rfl rfl) rfl rfl rfl ?_ | refine L_val (R_neB rfl rfl) rfl rfl rfl ?_ | refine L_val (R_neIfN rfl rfl) rfl rfl rfl ?_ | refine L_val (R_neIfNN rfl) rfl rfl rfl ?_) | (refine cL_lss ?_; refine L_val (R_ltI rfl rfl) rfl rfl rfl ?_) | (refine cL_makeInterface ?_; refine L_val R_mkI rfl rfl rfl ?_) | (refine cL_not ?_; refine L_val (R_not rfl) rfl rfl rfl ?_) | (refine cL_add ?_; refine L_val (R_addI rfl rfl) rfl rfl rfl ?_) | refine L_nil ?_) | refine G_seq ?_ | refine G_region ?_ | refine G_skip ?_ | refine G_block ?_ | refine G_end ?_ | refine G_true rfl ?_ | refine G_false rfl ?_))
    (refine G_retF rfl ?_)
    exact ⟨_, rfl, rfl, hw1⟩
  | true =>
    cases r with
    | false =>
      (repeat (first | (refine cD_guard ?_; refine D_unwanted rfl rfl ?_) | (refine cD_move ?_; refine D_val0 (fun _ _ => R_move) rfl rfl ?_) | (refine cD_load ?_; refine D_val0 (fun w he => R_loadH (hAg w he) rfl (by assumption) (by rfl)) rfl rfl ?_) | (refine cD_fieldAddr ?_; refine D_val0 (fun _ _ => R_fa rfl) rfl rfl ?_) | (refine cD_nilCheck ?_; refine D_val0 (fun _ _ => R_nil rfl) rfl rfl ?_) | (refine cD_assign ?_; refine D_val0 (fun _ _ => R_assign) rfl rfl ?_) | (refine cD_extract ?_; refine D_val0 (fun _ _ => R_extract rfl rfl) rfl rfl ?_) | (refine cD_typeAssert ?_; first | refine D_val0 (fun _ _ => R_taY rfl) rfl rfl ?_ | refine D_val0 (fun _ _ => R_taN rfl rfl) rfl rfl ?_ | refine D_val0 (fun _ _ => R_taNil rfl) rfl rfl ?_) | (refine cD_call ?_; first | refine D_callQ (fun w he => ih w (hAg w he)) rfl ?_ | refine D_val0 (fun _ _ => R_len rfl) rfl rfl ?_) | (refine cD_pick ?_; first | refine D_val0 (fun _ _ => R_pickT rfl) rfl rfl ?_ | refine D_val0 (fun _ _ => R_pickF rfl) rfl rfl ?_) | (refine cD_eql ?_; first | refine D_valB (fun _ _ => R_eqB rfl rfl) e0 rfl rfl ?_ | refine D_val0 (fun _ _ => R_eqPN rfl rfl) rfl rfl ?_ | refine D_val0 (fun _ _ => R_eqI rfl rfl) rfl rfl ?_ | refine D_val0 (fun _ _ => R_eqB rfl rfl) rfl rfl ?_ | refine D_val0 (fun _ _ => R_eqIfN rfl rfl) rfl rfl ?_ | refine D_val0 (fun _ _ => R_eqIfNN rfl) rfl rfl ?_) | (refine cD_neq ?_; first | refine D_val0 (fun _ _ => R_nePN rfl rfl) rfl rfl ?_ | refine D_val0 (fun _ _ => R_neI rfl rfl) rfl rfl ?_ | refine D_val0 (fun _ _ => R_neB rfl rfl) rfl rfl ?_ | refine D_val0 (fun _ _ => R_neIfN rfl rfl) rfl rfl ?_ | refine D_val0 (fun _ _ => R_neIfNN rfl) rfl rfl ?_) | (refine cD_lss ?_; refine D_val0 (fun _ _ => R_ltI rfl rfl) rfl rfl ?_) | (refine cD_makeInterface ?_; refine D_val0 (fun _ _ => R_mkI) rfl rfl ?_) | (refine cD_not ?_; refine D_val0 (fun _ _ => R_not rfl) rfl rfl ?_) | (refine cD_add ?_; refine D_val0 (fun _ _ => R_addI rfl rfl) rfl rfl ?_)))
      refine D_nil fun w1 hw1 => ?_
      (repeat (first | (refine cL ?_; first | (refine cL_guard ?_; refine L_unwanted rfl rfl rfl ?_) | (refine cL_move ?_; refine L_val R_move rfl rfl rfl ?_) | (refine cL_load ?_; first | refine L_val (R_loadB rfl (by assumption) (by rfl)) rfl rfl rfl ?_ | refine L_val (R_loadH (by assumption) rfl (by assumption) (by rfl)) rfl rfl rfl ?_) | (refine cL_fieldAddr ?_; refine L_val (R_fa rfl) rfl rfl rfl ?_) | (refine cL_nilCheck ?_; refine L_val (R_nil rfl) rfl rfl rfl ?_) | (refine cL_assign ?_; refine L_val R_assign rfl rfl rfl ?_) | (refine cL_extract ?_; refine L_val (R_extract rfl rfl) rfl rfl rfl ?_) | (refine cL_typeAssert ?_; first | refine L_val (R_taY rfl) rfl rfl rfl ?_ | refine L_val (R_taN rfl rfl) rfl rfl rfl ?_ | refine L_val (R_taNil rfl) rfl rfl rfl ?_) | (refine cL_call ?_; refine L_val (R_len rfl) rfl rfl rfl ?_) | (refine cL_pick ?_; first | refine L_val (R_pickT rfl) rfl rfl rfl ?_ | refine L_val (R_pickF rfl) rfl rfl rfl ?_) | (refine cL_eql ?_; first | refine L_val (R_eqPN rfl rfl) rfl rfl rfl ?_ | refine L_val (R_eqI rfl rfl) rfl rfl rfl ?_ | refine L_val (R_eqB rfl rfl) rfl rfl rfl ?_ | refine L_val (R_eqIfN rfl rfl) rfl rfl rfl ?_ | refine L_val (R_eqIfNN rfl) rfl rfl rfl ?_) | (refine cL_neq ?_; first | refine L_val (R_nePN rfl rfl) rfl rfl rfl ?_ | refine L_val (R_neI rfl rfl) rfl rfl rfl ?_ | refine L_val (R_neB rfl rfl) rfl rfl rfl ?_ | refine L_val (R_neIfN rfl rfl) rfl rfl rfl ?_ | refine L_val (R_neIfNN rfl) rfl rfl rfl ?_) | (refine cL_lss ?_; refine L_val (R_ltI rfl rfl) rfl rfl rfl ?_) | (refine cL_makeInterface ?_; refine L_val R_mkI rfl rfl rfl ?_) | (refine cL_not ?_; refine L_val (R_not rfl) rfl rfl rfl ?_) | (refine cL_add ?_; refine L_val (R_addI rfl rfl) rfl rfl rfl ?_) | refine L_nil ?_) | refine G_seq ?_ | refine G_region ?_ | refine G_skip ?_ | refine G_block ?_ | refine G_end ?_ | refine G_true rfl ?_ | refine G_false rfl ?_))
      (refine G_retF rfl ?_)
      exact ⟨_, rfl, rfl, hw1⟩
    | true =>
      (repeat (first | (refine cD_guard ?_; refine D_unwanted rfl rfl ?_) | (refine cD_move ?_; refine D_val0 (fun _ _ => R_move) rfl rfl ?_) | (refine cD_load ?_; refine D_val0 (fun w he => R_loadH (hAg w he) rfl (by assumption) (by rfl)) rfl rfl ?_) | (refine cD_fieldAddr ?_; refine D_val0 (fun _ _ => R_fa rfl) rfl rfl ?_) | (refine cD_nilCheck ?_; refine D_val0 (fun _ _ => R_nil rfl) rfl rfl ?_) | (refine cD_assign ?_; refine D_val0 (fun _ _ => R_assign) rfl rfl ?_) | (refine cD_extract ?_; refine D_val0 (fun _ _ => R_extract rfl rfl) rfl rfl ?_) | (refine cD_typeAssert ?_; first | refine D_val0 (fun _ _ => R_taY rfl) rfl rfl ?_ | refine D_val0 (fun _ _ => R_taN rfl rfl) rfl rfl ?_ | refine D_val0 (fun _ _ => R_taNil rfl) rfl rfl ?_) | (refine cD_call ?_; first | refine D_callQ (fun w he => ih w (hAg w he)) rfl ?_ | refine D_callQ (fun w he => ih2 w (hAg w he)) rfl ?_ | refine D_val0 (fun _ _ => R_len rfl) rfl rfl ?_) | (refine cD_pick ?_; first | refine D_val0 (fun _ _ => R_pickT rfl) rfl rfl ?_ | refine D_val0 (fun _ _ => R_pickF rfl) rfl rfl ?_) | (refine cD_eql ?_; first | refine D_valB (fun _ _ => R_eqB rfl rfl) e0 rfl rfl ?_ | refine D_val0 (fun _ _ => R_eqPN rfl rfl) rfl rfl ?_ | refine D_val0 (fun _ _ => R_eqI rfl rfl) rfl rfl ?_ | refine D_val0 (fun _ _ => R_eqB rfl rfl) rfl rfl ?_ | refine D_val0 (fun _ _ => R_eqIfN rfl rfl) rfl rfl ?_ | refine D_val0 (fun _ _ => R_eqIfNN rfl) rfl rfl ?_) | (refine cD_neq ?_; first | refine D_val0 (fun _ _ => R_nePN rfl rfl) rfl rfl ?_ | refine D_val0 (fun _ _ => R_neI rfl rfl) rfl rfl ?_ | refine D_val0 (fun _ _ => R_neB rfl rfl) rfl rfl ?_ | refine D_val0 (fun _ _ => R_neIfN rfl rfl) rfl rfl ?_ | refine D_val0 (fun _ _ => R_neIfNN rfl) rfl rfl ?_) | (refine cD_lss ?_; refine D_val0 (fun _ _ => R_ltI rfl rfl) rfl rfl ?_) | (refine cD_makeInterface ?_; refine D_val0 (fun _ _ => R_mkI) rfl rfl ?_) | (refine cD_not ?_; refine D_val0 (fun _ _ => R_not rfl) rfl rfl ?_) | (refine cD_add ?_; refine D_val0 (fun _ _ => R_addI rfl rfl) rfl rfl ?_)))
      refine D_nil fun w1 hw1 => ?_
      (repeat (first | (refine cL ?_; first | (refine cL_guard ?_; refine L_unwanted rfl rfl rfl ?_) | (refine cL_move ?_; refine L_val R_move rfl rfl rfl ?_) | (refine cL_load ?_; first | refine L_val (R_loadB rfl (by assumption) (by rfl)) rfl rfl rfl ?_ | refine L_val (R_loadH (by assumption) rfl (by assumption) (by rfl)) rfl rfl rfl ?_) | (refine cL_fieldAddr ?_; refine L_val (R_fa rfl) rfl rfl rfl ?_) | (refine cL_nilCheck ?_; refine L_val (R_nil rfl) rfl rfl rfl ?_) | (refine cL_assign ?_; refine L_val R_assign rfl rfl rfl ?_) | (refine cL_extract ?_; refine L_val (R_extract rfl rfl) rfl rfl rfl ?_) | (refine cL_typeAssert ?_; first | refine L_val (R_taY rfl) rfl rfl rfl ?_ | refine L_val (R_taN rfl rfl) rfl rfl rfl ?_ | refine L_val (R_taNil rfl) rfl rfl rfl ?_) | (refine cL_call ?_; refine L_val (R_len rfl) rfl rfl rfl ?_) | (refine cL_pick ?_; first | refine L_val (R_pickT rfl) rfl rfl rfl ?_ | refine L_val (R_pickF rfl) rfl rfl rfl ?_) | (refine cL_eql ?_; first | refine L_val (R_eqPN rfl rfl) rfl rfl rfl ?_ | refine L_val (R_eqI rfl rfl) rfl rfl rfl ?_ | refine L_val (R_eqB rfl rfl) rfl rfl rfl ?_ | refine L_val (R_eqIfN rfl rfl) rfl rfl rfl ?_ | refine L_val (R_eqIfNN rfl) rfl rfl rfl ?_) | (refine cL_neq ?_; first | refine L_val (R_nePN rfl rfl) rfl rfl rfl ?_ | refine L_val (R_neI rfl rfl) rfl rfl rfl ?_ | refine L_val (R_neB rfl rfl) rfl rfl rfl ?_ | refine L_val (R_neIfN rfl rfl) rfl rfl rfl ?_ | refine L_val (R_neIfNN rfl) rfl rfl rfl ?_) | (refine cL_lss ?_; refine L_val (R_ltI rfl rfl) rfl rfl rfl ?_) | (refine cL_makeInterface ?_; refine L_val R_mkI rfl rfl rfl ?_) | (refine cL_not ?_; refine L_val (R_not rfl) rfl rfl rfl ?_) | (refine cL_add ?_; refine L_val (R_addI rfl rfl) rfl rfl rfl ?_) | refine L_nil ?_) | refine G_seq ?_ | refine G_region ?_ | refine G_skip ?_ | refine G_block ?_ | refine G_end ?_ | refine G_true rfl ?_ | refine G_false rfl ?_))
      (refine G_retF rfl ?_)
      exact ⟨_, rfl, rfl, hw1⟩
end
end Go.Proofs.YtjilnjifegeceaaGreatDoor

/-
  Identical types, fifth part: defined types; and the whole: the comparer says whether two types are identical.
  Said in full.
-/
namespace Go.Proofs.YtjilnjifegeceaaGreatDoor
set_option maxRecDepth 100000
set_option maxHeartbeats 4000000
attribute [local irreducible] Calls execOp

section
variable {H : Hp} {c a b : Nat} (w : World) (hA : Agree H w) (hc : Cmp H c)
include hA hc

theorem id_named {vs vs' : List Value} {d d' o o' : Nat} {cc cc' : Value} {rr rr' : List Value} {r : Nat → Bool} (hx : ArgsOf H a vs) (hy : ArgsOf H b vs') (ho : Orig H a d) (ho' : Orig H b d')
    (hd : H d = some (Ob (cc :: ptr o :: rr) 148)) (hd' : H d' = some (Ob (cc' :: ptr o' :: rr') 148)) (hol : LiveH H o) (hol' : LiveH H o') (hl : LiveH H a) (hl' : LiveH H b)
    (hbd : vs.length < 9223372036854775808)
    (e : (Nat.beq 80 80 && peq (some ⟨a, 0, none⟩) (some ⟨b, 0, none⟩)) = false)
    (ih : ∀ i v v', vs[i]? = some v → vs'[i]? = some v' → ∀ w', Agree H w' → Calls Tryz.prog 23 #[v, v'] w' (Ret (Qt (.bool (r i)) w'))) :
    IdSays c (.iface 80 (ptr a)) (.iface 80 (ptr b)) (decide (vs.length = vs'.length) && ((List.range vs.length).all r && peq (some ⟨o, 0, none⟩) (some ⟨o', 0, none⟩))) w := by
  unfold Cmp at hc
  obtain ⟨tx, px, capx, hx1, hx2, hx3⟩ := hx
  obtain ⟨ty', py, capy, hy1, hy2, hy3⟩ := hy
  cases hlen : decide (vs.length = vs'.length) with
  | false =>
    have en : ((vs.length : Int) != (vs'.length : Int)) = true := by
      have := of_decide_eq_false hlen
      simp
      omega
    (refine calls_enter Tryz.func37 Tryz.ntmps37 rfl rfl ?_)
    (repeat (first | (refine cL ?_; first | (refine cL_guard ?_; refine L_unwanted rfl rfl rfl ?_) | (refine cL_move ?_; refine L_val R_move rfl rfl rfl ?_) | (refine cL_load ?_; first | refine L_val (R_loadB rfl (by assumption) (by rfl)) rfl rfl rfl ?_ | refine L_val (R_loadH (by assumption) rfl (by assumption) (by rfl)) rfl rfl rfl ?_) | (refine cL_fieldAddr ?_; refine L_val (R_fa rfl) rfl rfl rfl ?_) | (refine cL_nilCheck ?_; refine L_val (R_nil rfl) rfl rfl rfl ?_) | (refine cL_assign ?_; refine L_val R_assign rfl rfl rfl ?_) | (refine cL_extract ?_; refine L_val (R_extract rfl rfl) rfl rfl rfl ?_) | (refine cL_typeAssert ?_; first | refine L_val (R_taY rfl) rfl rfl rfl ?_ | refine L_val (R_taN rfl rfl) rfl rfl rfl ?_ | refine L_val (R_taNil rfl) rfl rfl rfl ?_) | (refine cL_call ?_; first | refine L_callI (unalias_any _ _ _ rfl) rfl rfl ?_ | refine L_callI (asNamed_yes _ _) rfl rfl ?_ | refine L_callI (hx1 _ hA) rfl rfl ?_ | refine L_callI (hx2 _ hA) rfl rfl ?_ | refine L_callI (hy1 _ hA) rfl rfl ?_ | refine L_callI (hy2 _ hA) rfl rfl ?_ | refine L_val (R_len rfl) rfl rfl rfl ?_) | (refine cL_pick ?_; first | refine L_val (R_pickT rfl) rfl rfl rfl ?_ | refine L_val (R_pickF rfl) rfl rfl rfl ?_) | (refine cL_eql ?_; first | refine L_valB (R_eqIf rfl rfl (hA.live hl) (hA.live hl')) e rfl rfl rfl ?_ | refine L_val (R_eqPN rfl rfl) rfl rfl rfl ?_ | refine L_val (R_eqI rfl rfl) rfl rfl rfl ?_ | refine L_val (R_eqB rfl rfl) rfl rfl rfl ?_ | refine L_val (R_eqIfN rfl rfl) rfl rfl rfl ?_ | refine L_val (R_eqIfNN rfl) rfl rfl rfl ?_) | (refine cL_neq ?_; first | refine L_valB (R_neI rfl rfl) en rfl rfl rfl ?_ | refine L_val (R_nePN rfl rfl) rfl rfl rfl ?_ | refine L_val (R_neI rfl rfl) rfl rfl rfl ?_ | refine L_val (R_neB rfl rfl) rfl rfl rfl ?_ | refine L_val (R_neIfN rfl rfl) rfl rfl rfl ?_ | refine L_val (R_neIfNN rfl) rfl rfl rfl ?_) | (refine cL_lss ?_; refine L_val (R_ltI rfl rfl) rfl rfl rfl ?_) | (refine cL_makeInterface ?_; refine L_val R_mkI rfl rfl rfl ?_) | (refine cL_not ?_; refine L_val (R_not rfl) rfl rfl rfl ?_) | (refine cL_add ?_; refine L_val (R_addI rfl rfl) rfl rfl rfl ?_) | refine L_nil ?_) | refine G_seq ?_ | refine G_region ?_ | refine G_skip ?_ | refine G_block ?_ | refine G_end ?_ | refine G_true rfl ?_ | refine G_false rfl ?_))
    (refine G_retF rfl ?_)
    exact ⟨_, rfl, rfl, Ext.refl _ _⟩
  | true =>
    have hle := of_decide_eq_true hlen
    have en : ((vs.length : Int) != (vs'.length : Int)) = false := by rw [hle]; simp
    simp only [Bool.true_and]
    (refine calls_enter Tryz.func37 Tryz.ntmps37 rfl rfl ?_)
    (repeat (first | (refine cL ?_; first | (refine cL_guard ?_; refine L_unwanted rfl rfl rfl ?_) | (refine cL_move ?_; refine L_val R_move rfl rfl rfl ?_) | (refine cL_load ?_; first | refine L_val (R_loadB rfl (by assumption) (by rfl)) rfl rfl rfl ?_ | refine L_val (R_loadH (by assumption) rfl (by assumption) (by rfl)) rfl rfl rfl ?_) | (refine cL_fieldAddr ?_; refine L_val (R_fa rfl) rfl rfl rfl ?_) | (refine cL_nilCheck ?_; refine L_val (R_nil rfl) rfl rfl rfl ?_) | (refine cL_assign ?_; refine L_val R_assign rfl rfl rfl ?_) | (refine cL_extract ?_; refine L_val (R_extract rfl rfl) rfl rfl rfl ?_) | (refine cL_typeAssert ?_; first | refine L_val (R_taY rfl) rfl rfl rfl ?_ | refine L_val (R_taN rfl rfl) rfl rfl rfl ?_ | refine L_val (R_taNil rfl) rfl rfl rfl ?_) | (refine cL_call ?_; first | refine L_callI (unalias_any _ _ _ rfl) rfl rfl ?_ | refine L_callI (asNamed_yes _ _) rfl rfl ?_ | refine L_callI (hx1 _ hA) rfl rfl ?_ | refine L_callI (hx2 _ hA) rfl rfl ?_ | refine L_callI (hy1 _ hA) rfl rfl ?_ | refine L_callI (hy2 _ hA) rfl rfl ?_ | refine L_val (R_len rfl) rfl rfl rfl ?_) | (refine cL_pick ?_; first | refine L_val (R_pickT rfl) rfl rfl rfl ?_ | refine L_val (R_pickF rfl) rfl rfl rfl ?_) | (refine cL_eql ?_; first | refine L_valB (R_eqIf rfl rfl (hA.live hl) (hA.live hl')) e rfl rfl rfl ?_ | refine L_val (R_eqPN rfl rfl) rfl rfl rfl ?_ | refine L_val (R_eqI rfl rfl) rfl rfl rfl ?_ | refine L_val (R_eqB rfl rfl) rfl rfl rfl ?_ | refine L_val (R_eqIfN rfl rfl) rfl rfl rfl ?_ | refine L_val (R_eqIfNN rfl) rfl rfl rfl ?_) | (refine cL_neq ?_; first | refine L_valB (R_neI rfl rfl) en rfl rfl rfl ?_ | refine L_val (R_nePN rfl rfl) rfl rfl rfl ?_ | refine L_val (R_neI rfl rfl) rfl rfl rfl ?_ | refine L_val (R_neB rfl rfl) rfl rfl rfl ?_ | refine L_val (R_neIfN rfl rfl) rfl rfl rfl ?_ | refine L_val (R_neIfNN rfl) rfl rfl rfl ?_) | (refine cL_lss ?_; refine L_val (R_ltI rfl rfl) rfl rfl rfl ?_) | (refine cL_makeInterface ?_; refine L_val R_mkI rfl rfl rfl ?_) | (refine cL_not ?_; refine L_val (R_not rfl) rfl rfl rfl ?_) | (refine cL_add ?_; refine L_val (R_addI rfl rfl) rfl rfl rfl ?_) | refine L_nil ?_) | refine G_seq ?_ | refine G_region ?_ | refine G_skip ?_ | refine G_block ?_ | refine G_end ?_ | refine G_true rfl ?_ | refine G_false rfl ?_))
    refine G_loop (CountI 591 590 vs.length [(61, ptr a), (62, ptr b), (64, .slice py vs'.length capy), (589, .slice px vs.length capx)] w fun i => ∀ j, j < i → r j = true) (fun f _ _ => countM 591 590 f)
      ⟨rfl, Ext.refl _ _, _, 0, with_self ⟨rfl, rfl, rfl, rfl, rfl, rfl, trivial⟩, Nat.zero_le _, fun j hj => absurd hj (Nat.not_lt_zero j)⟩ ?_
    rintro f ds wr ⟨rfl, hext, f0, i, rfl, hi, hJ⟩
    have hAr : Agree H wr := hA.ext0 hext
    by_cases h : i < vs.length
    · have hb : decide ((i : Int) < (vs.length : Int)) = true := decide_eq_true (by omega)
      obtain ⟨v, hv⟩ : ∃ v, vs[i]? = some v := ⟨_, List.getElem?_eq_getElem h⟩
      obtain ⟨v', hv'⟩ : ∃ v', vs'[i]? = some v' := ⟨_, List.getElem?_eq_getElem (by omega)⟩
      obtain ⟨b1, cs, rfl, n1, n2⟩ := hx3 i v hv
      obtain ⟨b1', cs', rfl, n1', n2'⟩ := hy3 i v' hv'
      have hih := ih i v v' hv hv' wr hAr
      cases hr : r i with
      | false =>
        rw [hr] at hih
        (repeat (first | (refine cL ?_; first | (refine cL_guard ?_; refine L_unwanted rfl rfl rfl ?_) | (refine cL_move ?_; refine L_val R_move rfl rfl rfl ?_) | (refine cL_load ?_; first | refine L_val (R_loadH hAr rfl n1 n2) rfl rfl rfl ?_ | refine L_val (R_loadH hAr rfl n1' n2') rfl rfl rfl ?_ | refine L_val (R_loadB rfl (by assumption) (by rfl)) rfl rfl rfl ?_ | refine L_val (R_loadH (by assumption) rfl (by assumption) (by rfl)) rfl rfl rfl ?_) | (refine cL_fieldAddr ?_; refine L_val (R_fa rfl) rfl rfl rfl ?_) | (refine cL_nilCheck ?_; refine L_val (R_nil rfl) rfl rfl rfl ?_) | (refine cL_assign ?_; refine L_val R_assign rfl rfl rfl ?_) | (refine cL_extract ?_; refine L_val (R_extract rfl rfl) rfl rfl rfl ?_) | (refine cL_typeAssert ?_; first | refine L_val (R_taY rfl) rfl rfl rfl ?_ | refine L_val (R_taN rfl rfl) rfl rfl rfl ?_ | refine L_val (R_taNil rfl) rfl rfl rfl ?_) | (refine cL_call ?_; refine L_val (R_len rfl) rfl rfl rfl ?_) | (refine cL_pick ?_; first | refine L_val (R_pickT rfl) rfl rfl rfl ?_ | refine L_val (R_pickF rfl) rfl rfl rfl ?_) | (refine cL_eql ?_; first | refine L_val (R_eqPN rfl rfl) rfl rfl rfl ?_ | refine L_val (R_eqI rfl rfl) rfl rfl rfl ?_ | refine L_val (R_eqB rfl rfl) rfl rfl rfl ?_ | refine L_val (R_eqIfN rfl rfl) rfl rfl rfl ?_ | refine L_val (R_eqIfNN rfl) rfl rfl rfl ?_) | (refine cL_neq ?_; first | refine L_val (R_nePN rfl rfl) rfl rfl rfl ?_ | refine L_val (R_neI rfl rfl) rfl rfl rfl ?_ | refine L_val (R_neB rfl rfl) rfl rfl rfl ?_ | refine L_val (R_neIfN rfl rfl) rfl rfl rfl ?_ | refine L_val (R_neIfNN rfl) rfl rfl rfl ?_) | (refine cL_lss ?_; first | refine L_valB (R_ltI rfl rfl) hb rfl rfl rfl ?_ | refine L_val (R_ltI rfl rfl) rfl rfl rfl ?_) | (refine cL_indexAddr ?_; refine L_valE (R_ia rfl rfl (by omega) (by omega)) (ia0 _ _) rfl rfl rfl ?_) | (refine cL_makeInterface ?_; refine L_val R_mkI rfl rfl rfl ?_) | (refine cL_not ?_; refine L_val (R_not rfl) rfl rfl rfl ?_) | (refine cL_add ?_; refine L_val (R_addI rfl rfl) rfl rfl rfl ?_) | refine L_nil ?_) | refine G_seq ?_ | refine G_region ?_ | refine G_skip ?_ | refine G_block ?_ | refine G_end ?_ | refine G_true rfl ?_ | refine G_false rfl ?_))
        refine L_callQ hih rfl rfl fun w1 hw1 => ?_
        (repeat (first | (refine cL ?_; first | (refine cL_guard ?_; refine L_unwanted rfl rfl rfl ?_) | (refine cL_move ?_; refine L_val R_move rfl rfl rfl ?_) | (refine cL_load ?_; first | refine L_val (R_loadB rfl (by assumption) (by rfl)) rfl rfl rfl ?_ | refine L_val (R_loadH (by assumption) rfl (by assumption) (by rfl)) rfl rfl rfl ?_) | (refine cL_fieldAddr ?_; refine L_val (R_fa rfl) rfl rfl rfl ?_) | (refine cL_nilCheck ?_; refine L_val (R_nil rfl) rfl rfl rfl ?_) | (refine cL_assign ?_; refine L_val R_assign rfl rfl rfl ?_) | (refine cL_extract ?_; refine L_val (R_extract rfl rfl) rfl rfl rfl ?_) | (refine cL_typeAssert ?_; first | refine L_val (R_taY rfl) rfl rfl rfl ?_ | refine L_val (R_taN rfl rfl) rfl rfl rfl ?_ | refine L_val (R_taNil rfl) rfl rfl rfl ?_) | (refine cL_call ?_; refine L_val (R_len rfl) rfl rfl rfl ?_) | (refine cL_pick ?_; first | refine L_val (R_pickT rfl) rfl rfl rfl ?_ | refine L_val (R_pickF rfl) rfl rfl rfl ?_) | (refine cL_eql ?_; first | refine L_val (R_eqPN rfl rfl) rfl rfl rfl ?_ | refine L_val (R_eqI rfl rfl) rfl rfl rfl ?_ | refine L_val (R_eqB rfl rfl) rfl rfl rfl ?_ | refine L_val (R_eqIfN rfl rfl) rfl rfl rfl ?_ | refine L_val (R_eqIfNN rfl) rfl rfl rfl ?_) | (refine cL_neq ?_; first | refine L_val (R_nePN rfl rfl) rfl rfl rfl ?_ | refine L_val (R_neI rfl rfl) rfl rfl rfl ?_ | refine L_val (R_neB rfl rfl) rfl rfl rfl ?_ | refine L_val (R_neIfN rfl rfl) rfl rfl rfl ?_ | refine L_val (R_neIfNN rfl) rfl rfl rfl ?_) | (refine cL_lss ?_; refine L_val (R_ltI rfl rfl) rfl rfl rfl ?_) | (refine cL_makeInterface ?_; refine L_val R_mkI rfl rfl rfl ?_) | (refine cL_not ?_; refine L_val (R_not rfl) rfl rfl rfl ?_) | (refine cL_add ?_; refine L_val (R_addI rfl rfl) rfl rfl rfl ?_) | refine L_nil ?_) | refine G_seq ?_ | refine G_region ?_ | refine G_skip ?_ | refine G_block ?_ | refine G_end ?_ | refine G_true rfl ?_ | refine G_false rfl ?_))
        (refine G_retF rfl ?_)
        refine ⟨_, rfl, ?_, hext.trans hw1⟩
        rw [allR_false h hr]
        rfl
      | true =>
        rw [hr] at hih
        (repeat (first | (refine cL ?_; first | (refine cL_guard ?_; refine L_unwanted rfl rfl rfl ?_) | (refine cL_move ?_; refine L_val R_move rfl rfl rfl ?_) | (refine cL_load ?_; first | refine L_val (R_loadH hAr rfl n1 n2) rfl rfl rfl ?_ | refine L_val (R_loadH hAr rfl n1' n2') rfl rfl rfl ?_ | refine L_val (R_loadB rfl (by assumption) (by rfl)) rfl rfl rfl ?_ | refine L_val (R_loadH (by assumption) rfl (by assumption) (by rfl)) rfl rfl rfl ?_) | (refine cL_fieldAddr ?_; refine L_val (R_fa rfl) rfl rfl rfl ?_) | (refine cL_nilCheck ?_; refine L_val (R_nil rfl) rfl rfl rfl ?_) | (refine cL_assign ?_; refine L_val R_assign rfl rfl rfl ?_) | (refine cL_extract ?_; refine L_val (R_extract rfl rfl) rfl rfl rfl ?_) | (refine cL_typeAssert ?_; first | refine L_val (R_taY rfl) rfl rfl rfl ?_ | refine L_val (R_taN rfl rfl) rfl rfl rfl ?_ | refine L_val (R_taNil rfl) rfl rfl rfl ?_) | (refine cL_call ?_; refine L_val (R_len rfl) rfl rfl rfl ?_) | (refine cL_pick ?_; first | refine L_val (R_pickT rfl) rfl rfl rfl ?_ | refine L_val (R_pickF rfl) rfl rfl rfl ?_) | (refine cL_eql ?_; first | refine L_val (R_eqPN rfl rfl) rfl rfl rfl ?_ | refine L_val (R_eqI rfl rfl) rfl rfl rfl ?_ | refine L_val (R_eqB rfl rfl) rfl rfl rfl ?_ | refine L_val (R_eqIfN rfl rfl) rfl rfl rfl ?_ | refine L_val (R_eqIfNN rfl) rfl rfl rfl ?_) | (refine cL_neq ?_; first | refine L_val (R_nePN rfl rfl) rfl rfl rfl ?_ | refine L_val (R_neI rfl rfl) rfl rfl rfl ?_ | refine L_val (R_neB rfl rfl) rfl rfl rfl ?_ | refine L_val (R_neIfN rfl rfl) rfl rfl rfl ?_ | refine L_val (R_neIfNN rfl) rfl rfl rfl ?_) | (refine cL_lss ?_; first | refine L_valB (R_ltI rfl rfl) hb rfl rfl rfl ?_ | refine L_val (R_ltI rfl rfl) rfl rfl rfl ?_) | (refine cL_indexAddr ?_; refine L_valE (R_ia rfl rfl (by omega) (by omega)) (ia0 _ _) rfl rfl rfl ?_) | (refine cL_makeInterface ?_; refine L_val R_mkI rfl rfl rfl ?_) | (refine cL_not ?_; refine L_val (R_not rfl) rfl rfl rfl ?_) | (refine cL_add ?_; refine L_val (R_addI rfl rfl) rfl rfl rfl ?_) | refine L_nil ?_) | refine G_seq ?_ | refine G_region ?_ | refine G_skip ?_ | refine G_block ?_ | refine G_end ?_ | refine G_true rfl ?_ | refine G_false rfl ?_))
        refine L_callQ hih rfl rfl fun w1 hw1 => ?_
        (repeat (first | (refine cL ?_; first | (refine cL_guard ?_; refine L_unwanted rfl rfl rfl ?_) | (refine cL_move ?_; refine L_val R_move rfl rfl rfl ?_) | (refine cL_load ?_; first | refine L_val (R_loadB rfl (by assumption) (by rfl)) rfl rfl rfl ?_ | refine L_val (R_loadH (by assumption) rfl (by assumption) (by rfl)) rfl rfl rfl ?_) | (refine cL_fieldAddr ?_; refine L_val (R_fa rfl) rfl rfl rfl ?_) | (refine cL_nilCheck ?_; refine L_val (R_nil rfl) rfl rfl rfl ?_) | (refine cL_assign ?_; refine L_val R_assign rfl rfl rfl ?_) | (refine cL_extract ?_; refine L_val (R_extract rfl rfl) rfl rfl rfl ?_) | (refine cL_typeAssert ?_; first | refine L_val (R_taY rfl) rfl rfl rfl ?_ | refine L_val (R_taN rfl rfl) rfl rfl rfl ?_ | refine L_val (R_taNil rfl) rfl rfl rfl ?_) | (refine cL_call ?_; refine L_val (R_len rfl) rfl rfl rfl ?_) | (refine cL_pick ?_; first | refine L_val (R_pickT rfl) rfl rfl rfl ?_ | refine L_val (R_pickF rfl) rfl rfl rfl ?_) | (refine cL_eql ?_; first | refine L_val (R_eqPN rfl rfl) rfl rfl rfl ?_ | refine L_val (R_eqI rfl rfl) rfl rfl rfl ?_ | refine L_val (R_eqB rfl rfl) rfl rfl rfl ?_ | refine L_val (R_eqIfN rfl rfl) rfl rfl rfl ?_ | refine L_val (R_eqIfNN rfl) rfl rfl rfl ?_) | (refine cL_neq ?_; first | refine L_val (R_nePN rfl rfl) rfl rfl rfl ?_ | refine L_val (R_neI rfl rfl) rfl rfl rfl ?_ | refine L_val (R_neB rfl rfl) rfl rfl rfl ?_ | refine L_val (R_neIfN rfl rfl) rfl rfl rfl ?_ | refine L_val (R_neIfNN rfl) rfl rfl rfl ?_) | (refine cL_lss ?_; refine L_val (R_ltI rfl rfl) rfl rfl rfl ?_) | (refine cL_makeInterface ?_; refine L_val R_mkI rfl rfl rfl ?_) | (refine cL_not ?_; refine L_val (R_not rfl) rfl rfl rfl ?_) | (refine cL_add ?_; first | refine L_valE (R_addI rfl rfl) (succ_i64 h hbd) rfl rfl rfl ?_ | refine L_val (R_addI rfl rfl) rfl rfl rfl ?_) | refine L_nil ?_) | refine G_seq ?_ | refine G_region ?_ | refine G_skip ?_ | refine G_block ?_ | refine G_end ?_ | refine G_true rfl ?_ | refine G_false rfl ?_))
        refine G_inv ⟨⟨rfl, hext.trans hw1, _, i + 1, with_self ⟨rfl, rfl, rfl, rfl, rfl, rfl, trivial⟩, h, fun j hj => ?_⟩, ?_⟩
        · rcases Nat.lt_succ_iff_lt_or_eq.1 hj with hj | rfl
          · exact hJ j hj
          · exact hr
        · show ((vs.length : Int) - ((i + 1 : Nat) : Int)).toNat < ((vs.length : Int) - (i : Int)).toNat
          omega
    · have hb : decide ((i : Int) < (vs.length : Int)) = false := decide_eq_false (by omega)
      have hor := identicalOrigin_any wr hAr ho ho' hd hd' hol hol'
      (repeat (first | (refine cL ?_; first | (refine cL_guard ?_; refine L_unwanted rfl rfl rfl ?_) | (refine cL_move ?_; refine L_val R_move rfl rfl rfl ?_) | (refine cL_load ?_; first | refine L_val (R_loadB rfl (by assumption) (by rfl)) rfl rfl rfl ?_ | refine L_val (R_loadH (by assumption) rfl (by assumption) (by rfl)) rfl rfl rfl ?_) | (refine cL_fieldAddr ?_; refine L_val (R_fa rfl) rfl rfl rfl ?_) | (refine cL_nilCheck ?_; refine L_val (R_nil rfl) rfl rfl rfl ?_) | (refine cL_assign ?_; refine L_val R_assign rfl rfl rfl ?_) | (refine cL_extract ?_; refine L_val (R_extract rfl rfl) rfl rfl rfl ?_) | (refine cL_typeAssert ?_; first | refine L_val (R_taY rfl) rfl rfl rfl ?_ | refine L_val (R_taN rfl rfl) rfl rfl rfl ?_ | refine L_val (R_taNil rfl) rfl rfl rfl ?_) | (refine cL_call ?_; refine L_val (R_len rfl) rfl rfl rfl ?_) | (refine cL_pick ?_; first | refine L_val (R_pickT rfl) rfl rfl rfl ?_ | refine L_val (R_pickF rfl) rfl rfl rfl ?_) | (refine cL_eql ?_; first | refine L_val (R_eqPN rfl rfl) rfl rfl rfl ?_ | refine L_val (R_eqI rfl rfl) rfl rfl rfl ?_ | refine L_val (R_eqB rfl rfl) rfl rfl rfl ?_ | refine L_val (R_eqIfN rfl rfl) rfl rfl rfl ?_ | refine L_val (R_eqIfNN rfl) rfl rfl rfl ?_) | (refine cL_neq ?_; first | refine L_val (R_nePN rfl rfl) rfl rfl rfl ?_ | refine L_val (R_neI rfl rfl) rfl rfl rfl ?_ | refine L_val (R_neB rfl rfl) rfl rfl rfl ?_ | refine L_val (R_neIfN rfl rfl) rfl rfl rfl ?_ | refine L_val (R_neIfNN rfl) rfl rfl rfl ?_) | (refine cL_lss ?_; first | refine L_valB (R_ltI rfl rfl) hb rfl rfl rfl ?_ | refine L_val (R_ltI rfl rfl) rfl rfl rfl ?_) | (refine cL_makeInterface ?_; refine L_val R_mkI rfl rfl rfl ?_) | (refine cL_not ?_; refine L_val (R_not rfl) rfl rfl rfl ?_) | (refine cL_add ?_; refine L_val (R_addI rfl rfl) rfl rfl rfl ?_) | refine L_nil ?_) | refine G_exit rfl ?_ | refine G_seq ?_ | refine G_region ?_ | refine G_skip ?_ | refine G_block ?_ | refine G_end ?_ | refine G_true rfl ?_ | refine G_false rfl ?_))
      refine L_callQ hor rfl rfl fun w1 hw1 => ?_
      (repeat (first | (refine cL ?_; first | (refine cL_guard ?_; refine L_unwanted rfl rfl rfl ?_) | (refine cL_move ?_; refine L_val R_move rfl rfl rfl ?_) | (refine cL_load ?_; first | refine L_val (R_loadB rfl (by assumption) (by rfl)) rfl rfl rfl ?_ | refine L_val (R_loadH (by assumption) rfl (by assumption) (by rfl)) rfl rfl rfl ?_) | (refine cL_fieldAddr ?_; refine L_val (R_fa rfl) rfl rfl rfl ?_) | (refine cL_nilCheck ?_; refine L_val (R_nil rfl) rfl rfl rfl ?_) | (refine cL_assign ?_; refine L_val R_assign rfl rfl rfl ?_) | (refine cL_extract ?_; refine L_val (R_extract rfl rfl) rfl rfl rfl ?_) | (refine cL_typeAssert ?_; first | refine L_val (R_taY rfl) rfl rfl rfl ?_ | refine L_val (R_taN rfl rfl) rfl rfl rfl ?_ | refine L_val (R_taNil rfl) rfl rfl rfl ?_) | (refine cL_call ?_; refine L_val (R_len rfl) rfl rfl rfl ?_) | (refine cL_pick ?_; first | refine L_val (R_pickT rfl) rfl rfl rfl ?_ | refine L_val (R_pickF rfl) rfl rfl rfl ?_) | (refine cL_eql ?_; first | refine L_val (R_eqPN rfl rfl) rfl rfl rfl ?_ | refine L_val (R_eqI rfl rfl) rfl rfl rfl ?_ | refine L_val (R_eqB rfl rfl) rfl rfl rfl ?_ | refine L_val (R_eqIfN rfl rfl) rfl rfl rfl ?_ | refine L_val (R_eqIfNN rfl) rfl rfl rfl ?_) | (refine cL_neq ?_; first | refine L_val (R_nePN rfl rfl) rfl rfl rfl ?_ | refine L_val (R_neI rfl rfl) rfl rfl rfl ?_ | refine L_val (R_neB rfl rfl) rfl rfl rfl ?_ | refine L_val (R_neIfN rfl rfl) rfl rfl rfl ?_ | refine L_val (R_neIfNN rfl) rfl rfl rfl ?_) | (refine cL_lss ?_; refine L_val (R_ltI rfl rfl) rfl rfl rfl ?_) | (refine cL_makeInterface ?_; refine L_val R_mkI rfl rfl rfl ?_) | (refine cL_not ?_; refine L_val (R_not rfl) rfl rfl rfl ?_) | (refine cL_add ?_; refine L_val (R_addI rfl rfl) rfl rfl rfl ?_) | refine L_nil ?_) | refine G_seq ?_ | refine G_region ?_ | refine G_skip ?_ | refine G_block ?_ | refine G_end ?_ | refine G_true rfl ?_ | refine G_false rfl ?_))
      (refine G_retF rfl ?_)
      refine ⟨_, rfl, ?_, hext.trans hw1⟩
      rw [allR_true fun j hj => hJ j (by omega)]
      rfl
end

/-- 'Identical' out of the comparer's word -/
theorem identical_of {H : Hp} {x y : Value} {r : Bool} (w : World) (hA : Agree H w) (h : ∀ H' c w', Hp.le H H' → Agree H' w' → Cmp H' c → IdSays c x y r w') :
    Calls Tryz.prog 23 #[x, y] w (Ret (Qt (.bool r) w)) := by
  (refine calls_enter Tryz.func23 Tryz.ntmps23 rfl rfl ?_)
  (repeat (first | (refine cL ?_; first | (refine cL_move ?_; refine L_val R_move rfl rfl rfl ?_) | (refine cL_assign ?_; refine L_val R_assign rfl rfl rfl ?_) | refine L_nil ?_) | refine G_seq ?_ | refine G_region ?_ | refine G_skip ?_ | refine G_block ?_ | refine G_end ?_ | refine G_true rfl ?_ | refine G_false rfl ?_))
  refine L_allocS rfl rfl fun c w1 hw1 => ?_
  (repeat (first | (refine cL ?_; first | (refine cL_move ?_; refine L_val R_move rfl rfl rfl ?_) | (refine cL_assign ?_; refine L_val R_assign rfl rfl rfl ?_) | refine L_nil ?_) | refine G_seq ?_ | refine G_region ?_ | refine G_skip ?_ | refine G_block ?_ | refine G_end ?_ | refine G_true rfl ?_ | refine G_false rfl ?_))
  have hg := Grow.put hA hw1
  refine L_callQ (h _ c w1 hg.le hg.ag (Hp.put_same _ _ _)) rfl rfl fun w2 hw2 => ?_
  (repeat (first | (refine cL ?_; first | (refine cL_move ?_; refine L_val R_move rfl rfl rfl ?_) | (refine cL_assign ?_; refine L_val R_assign rfl rfl rfl ?_) | refine L_nil ?_) | refine G_seq ?_ | refine G_region ?_ | refine G_skip ?_ | refine G_block ?_ | refine G_end ?_ | refine G_true rfl ?_ | refine G_false rfl ?_))
  (refine G_retF rfl ?_)
  exact ⟨_, rfl, rfl, hw1.ext.trans hw2⟩
end Go.Proofs.YtjilnjifegeceaaGreatDoor

/-
  Identical types, the whole: the package says of two types in memory what the rules say of them as data.
  Said in full.
-/
namespace Go.Proofs.YtjilnjifegeceaaGreatDoor
set_option maxRecDepth 100000
set_option maxHeartbeats 4000000
attribute [local irreducible] Calls execOp

def tyOf (k : Int) : Nat :=
  if k = 0 then 156 else if k = 1 then 80 else if k = 2 then 72 else if k = 4 then 95 else if k = 5 then 97 else if k = 6 then 99 else if k = 7 then 101 else if k = 8 then 103 else if k = 9 then 111 else 113

theorem Sh.kind {E : Env} {H : Hp} {k n c : Int} {b : Bool} {nms : List ByteArray} {vs : List Value} {v : Value} (h : Sh E H k n c b nms vs v) : ∃ a, v = .iface (tyOf k) (ptr a) ∧ Nat.beq (tyOf k) 258 = false := by
  cases h <;> exact ⟨_, rfl, rfl⟩

theorem ident_kind {k n c k' n' c' : Int} {b b' : Bool} {nm nm' : ByteArray} {es es' : List Ty} (h : k ≠ k') : ident (.mk k n c b nm es) (.mk k' n' c' b' nm' es') = false := by
  simp [ident, alikeP, h]

theorem fields_eq : ∀ {es es' : List Ty}, es.length = es'.length → (List.range es.length).all (fieldB (es.map Ty.nm) (es'.map Ty.nm) (identR es es')) = (namesEq es es' && identL es es')
  | [], [], _ => rfl
  | e :: es, e' :: es', h => by
    have ih := fields_eq (es := es) (es' := es') (by simpa using h)
    rw [List.length_cons, range_all_succ, identL, namesEq]
    have e1 : (fun i => fieldB ((e :: es).map Ty.nm) ((e' :: es').map Ty.nm) (identR (e :: es) (e' :: es')) (i + 1)) = fieldB (es.map Ty.nm) (es'.map Ty.nm) (identR es es') := by
      funext i
      simp [fieldB, identR]
    rw [e1, ih]
    simp only [fieldB, identR, List.map_cons, List.getElem?_cons_zero, Option.getD_some]
    cases beqB e.nm e'.nm <;> cases ident e e' <;> cases namesEq es es' <;> rfl
  | [], _ :: _, h => by simp at h
  | _ :: _, [], h => by simp at h

theorem identL_app : ∀ {es es' fs fs' : List Ty}, es.length = es'.length → identL (es ++ fs) (es' ++ fs') = (identL es es' && identL fs fs')
  | [], [], _, _, _ => by simp [identL]
  | e :: es, e' :: es', fs, fs', h => by
    simp only [List.cons_append, identL]
    rw [identL_app (by simpa using h), Bool.and_assoc]
  | [], _ :: _, _, _, h => by simp at h
  | _ :: _, [], _, _, h => by simp at h

/-- what is known of the parts -/
def IdAll (E : Env) (e : Ty) : Prop := Ty.size e < 9223372036854775808 → ∀ (t' : Ty) (v v' : Value) (H : Hp) (c : Nat) (w : World), EnvOK E H → Props H → Agree H w → Cmp H c → Rep E H e v → Rep E H t' v' → IdSays c v v' (ident e t') w

theorem id_parts {E : Env} {es es' : List Ty} {vs vs' : List Value} {H : Hp} {c : Nat} (ih : ∀ e ∈ es, IdAll E e) (hsz : Ty.sizeL es < 9223372036854775808) (hE : EnvOK E H) (hp : Props H) (hc : Cmp H c) (hL : RepL E H es vs) (hL' : RepL E H es' vs') :
    ∀ i v v', vs[i]? = some v → vs'[i]? = some v' → ∀ w', Agree H w' → IdSays c v v' (identR es es' i) w' := by
  intro i v v' hv hv' w' hA
  obtain ⟨e, h1, h2⟩ := hL.get hv
  obtain ⟨e', h1', h2'⟩ := hL'.get hv'
  have hr : identR es es' i = ident e e' := by simp [identR, h1, h1']
  rw [hr]
  have hm := List.mem_of_getElem? h1
  have := Ty.size_mem hm
  exact ih e hm (by omega) e' v v' H c w' hE hp hA hc h2 h2'

theorem tup_val {E : Env} {H : Hp} {es es' : List Ty} {vs vs' : List Value} (hL : RepL E H es vs) (hL' : RepL E H es' vs') :
    (decide (vs.length = vs'.length) && (List.range vs.length).all (identR es es')) = (decide (es.length = es'.length) && identL es es') := by
  rw [← hL.length, ← hL'.length]
  by_cases h : es.length = es'.length
  · rw [identL_eq h]
  · simp [h]

theorem tup_same {E : Env} {H : Hp} {es es' : List Ty} {vs vs' : List Value} {x y : Value} (hE : EnvOK E H) (hx : TupIs H vs x) (hy : TupIs H vs' y) (hL : RepL E H es vs) (hL' : RepL E H es' vs') (h : x = y) :
    (decide (vs.length = vs'.length) && (List.range vs.length).all (identR es es')) = true := by
  subst h
  have e := hx.same hy
  subst e
  rw [tup_val hL hL', hL.length, hL'.length]
  simp only [decide_true, Bool.true_and]
  exact identL_same (fun e _ t v => ident_same hE e t v) hL hL'

theorem func_val {n c n' c' : Int} {b b' : Bool} {nm nm' : ByteArray} {es es' : List Ty} (h0 : 0 ≤ c) (h0' : 0 ≤ c') (h1 : c ≤ es.length) (h1' : c' ≤ es'.length) :
    ident (.mk 10 n c b nm es) (.mk 10 n' c' b' nm' es') = (b == b' && ((decide ((es.take c.toNat).length = (es'.take c'.toNat).length) && identL (es.take c.toNat) (es'.take c'.toNat)) && (decide ((es.drop c.toNat).length = (es'.drop c'.toNat).length) && identL (es.drop c.toNat) (es'.drop c'.toNat)))) := by
  have e1 : (es.take c.toNat).length = c.toNat := by rw [List.length_take]; omega
  have e2 : (es'.take c'.toNat).length = c'.toNat := by rw [List.length_take]; omega
  have e3 : (es.drop c.toNat).length = es.length - c.toNat := List.length_drop
  have e4 : (es'.drop c'.toNat).length = es'.length - c'.toNat := List.length_drop
  by_cases hc : c = c'
  · by_cases hl : es.length = es'.length
    · have hid : identL es es' = (identL (es.take c.toNat) (es'.take c'.toNat) && identL (es.drop c.toNat) (es'.drop c'.toNat)) := by
        rw [← identL_app (by omega), List.take_append_drop, List.take_append_drop]
      have d1 : (es.take c.toNat).length = (es'.take c'.toNat).length := by omega
      have d2 : (es.drop c.toNat).length = (es'.drop c'.toNat).length := by omega
      rw [decide_eq_true d1, decide_eq_true d2]
      simp [ident, alikeP, hl, hc, hid]
    · have d2 : ¬ (es.drop c.toNat).length = (es'.drop c'.toNat).length := by omega
      rw [decide_eq_false d2]
      simp [ident, alikeP, hl]
  · have d1 : ¬ (es.take c.toNat).length = (es'.take c'.toNat).length := by omega
    rw [decide_eq_false d1]
    simp [ident, alikeP, hc]

theorem named_val {E : Env} {H : Hp} {n c n' c' : Int} {b b' : Bool} {nm nm' : ByteArray} {es es' : List Ty} {vs vs' : List Value} {o o' : Nat} (hE : EnvOK E H) (hl : es.length = vs.length) (hl' : es'.length = vs'.length) (h0 : 0 ≤ n) (h0' : 0 ≤ n')
    (ho : E.objs[n.toNat]? = some o) (ho' : E.objs[n'.toNat]? = some o') :
    ident (.mk 1 n c b nm es) (.mk 1 n' c' b' nm' es') = (decide (vs.length = vs'.length) && ((List.range vs.length).all (identR es es') && peq (some ⟨o, 0, none⟩) (some ⟨o', 0, none⟩))) := by
  have hp : peq (some ⟨o, 0, none⟩) (some ⟨o', 0, none⟩) = (n == n') := by
    by_cases hn : n = n'
    · subst hn
      rw [ho] at ho'
      injection ho' with ho'
      subst ho'
      rw [peq_self]
      simp
    · have hoo : o ≠ o' := fun h => hn (toNat_inj h0 h0' (nodup_inj hE.on ho (h ▸ ho')))
      rw [peq_false hoo]
      simp [hn]
  rw [hp, ← hl, ← hl']
  by_cases h : es.length = es'.length
  · rw [← identL_eq h]
    simp [ident, alikeP, h, Bool.and_comm]
  · simp [ident, alikeP, h]

theorem id_gate {H : Hp} {c a b T k' : Nat} {kk : Int} [PtrEq Tryz.prog T] [CmpT Tryz.prog T] {r : Bool} (w : World) (hA : Agree H w) (hl : LiveH H a) (hTa : Nat.beq T 258 = false) (hk : tyOf kk = k')
    (hid : T = k' → a = b → r = true) (hr : T ≠ k' → r = false)
    (ne : Nat.beq k' T = false → Nat.beq T k' = false → IdSays c (.iface T (ptr a)) (.iface k' (ptr b)) false w)
    (go : T = k' → (Nat.beq T T && peq (some ⟨a, 0, none⟩) (some ⟨b, 0, none⟩)) = false → IdSays c (.iface T (ptr a)) (.iface T (ptr b)) r w) : IdSays c (.iface T (ptr a)) (.iface k' (ptr b)) r w := by
  cases hT : Nat.beq T k' with
  | false =>
    have hne : T ≠ k' := fun h => by rw [h, nbeq_self] at hT; cases hT
    rw [hr hne]
    refine ne ?_ hT
    cases hh : Nat.beq k' T with
    | false => rfl
    | true => exact absurd (Nat.eq_of_beq_eq_true hh).symm hne
  | true =>
    have h := Nat.eq_of_beq_eq_true hT
    subst h
    cases hpq : peq (some ⟨a, 0, none⟩) (some ⟨b, 0, none⟩) with
    | true =>
      have hab := peq_true hpq
      subst hab
      rw [hid rfl rfl]
      exact id_eq w hA hl hTa
    | false => exact go rfl (by rw [hpq, Bool.and_false])

theorem identical_all {E : Env} : ∀ t, IdAll E t := by
  refine Ty.ind fun k n c b nm es ih => ?_
  intro hsz t' v v' H cm w hE hp hA hc h h'
  obtain ⟨k', n', c', b', nm', es'⟩ := t'
  have hid := fun hvv : v = v' => ident_same hE _ _ _ h (hvv ▸ h')
  simp only [Rep] at h h'
  obtain ⟨vs, hL, hS⟩ := h
  obtain ⟨vs', hL', hS'⟩ := h'
  have hse : Ty.sizeL es < 9223372036854775808 := by simp only [Ty.size] at hsz; omega
  have hbd : vs.length < 9223372036854775808 := by
    have := Ty.len_sizeL es
    have := hL.length
    omega
  have hparts := id_parts ih hse hE hp hc hL hL'
  have hlen := hL.length
  have hlen' := hL'.length
  have hlive' := hS'.live hE
  obtain ⟨b0, hb0, hna⟩ := hS'.kind
  subst hb0
  obtain ⟨_, _, hb1, hl'⟩ := hlive'
  injection hb1 with hb1 hb2
  have hb3 := ptr_inj hb2
  subst hb3
  clear hb1 hb2
  cases hS with
  | basic h h0 =>
    refine id_gate (kk := k') w hA (⟨_, _, _, h⟩) rfl rfl (fun h1 h2 => hid (by rw [h1, h2])) (fun h1 => ident_kind fun h2 => h1 (by rw [← h2]; rfl)) (fun h1 h2 => id_ne_basic w hA hc (⟨_, _, _, h⟩) hl' hna h1 h2) (fun hT e => ?_)
    rw [← hT] at hS'
    obtain ⟨rfl, rfl, h0', i', s', q'⟩ := hS'.inv_basic rfl
    have hes := List.length_eq_zero_iff.1 hlen
    have hes' := List.length_eq_zero_iff.1 hlen'
    subst hes
    subst hes'
    have hi : ident (.mk 0 n c b nm []) (.mk 0 n' c' b' nm' []) = (n + 1 == n' + 1) := by
      rw [Bool.eq_iff_iff]
      simp [ident, identL, alikeP]
    rw [hi]
    exact id_basic w hA hc h q' e
  | pointer h =>
    refine id_gate (kk := k') w hA (⟨_, _, _, h⟩) rfl rfl (fun h1 h2 => hid (by rw [h1, h2])) (fun h1 => ident_kind fun h2 => h1 (by rw [← h2]; rfl)) (fun h1 h2 => id_ne_pointer w hA hc (⟨_, _, _, h⟩) hl' hna h1 h2) (fun hT e => ?_)
    rw [← hT] at hS'
    obtain ⟨rfl, u', rfl, q'⟩ := hS'.inv_pointer rfl
    obtain ⟨e1, rfl⟩ : ∃ e1, es = [e1] := List.length_eq_one_iff.1 hlen
    obtain ⟨e1', rfl⟩ : ∃ e1', es' = [e1'] := List.length_eq_one_iff.1 hlen'
    have ih0 := hparts 0 _ _ rfl rfl
    have hr0 : identR [e1] [e1'] 0 = ident e1 e1' := rfl
    rw [hr0] at ih0
    have hi : ident (.mk 4 n c b nm [e1]) (.mk 4 n' c' b' nm' [e1']) = ident e1 e1' := by simp [ident, identL, alikeP]
    rw [hi]
    exact id_pointer w hA hc h q' e ih0
  | slice h =>
    refine id_gate (kk := k') w hA (⟨_, _, _, h⟩) rfl rfl (fun h1 h2 => hid (by rw [h1, h2])) (fun h1 => ident_kind fun h2 => h1 (by rw [← h2]; rfl)) (fun h1 h2 => id_ne_slice w hA hc (⟨_, _, _, h⟩) hl' hna h1 h2) (fun hT e => ?_)
    rw [← hT] at hS'
    obtain ⟨rfl, u', rfl, q'⟩ := hS'.inv_slice rfl
    obtain ⟨e1, rfl⟩ : ∃ e1, es = [e1] := List.length_eq_one_iff.1 hlen
    obtain ⟨e1', rfl⟩ : ∃ e1', es' = [e1'] := List.length_eq_one_iff.1 hlen'
    have ih0 := hparts 0 _ _ rfl rfl
    have hr0 : identR [e1] [e1'] 0 = ident e1 e1' := rfl
    rw [hr0] at ih0
    have hi : ident (.mk 5 n c b nm [e1]) (.mk 5 n' c' b' nm' [e1']) = ident e1 e1' := by simp [ident, identL, alikeP]
    rw [hi]
    exact id_slice w hA hc h q' e ih0
  | array h h0 =>
    refine id_gate (kk := k') w hA (⟨_, _, _, h⟩) rfl rfl (fun h1 h2 => hid (by rw [h1, h2])) (fun h1 => ident_kind fun h2 => h1 (by rw [← h2]; rfl)) (fun h1 h2 => id_ne_array w hA hc (⟨_, _, _, h⟩) hl' hna h1 h2) (fun hT e => ?_)
    rw [← hT] at hS'
    obtain ⟨rfl, h0', u', rfl, q'⟩ := hS'.inv_array rfl
    obtain ⟨e1, rfl⟩ : ∃ e1, es = [e1] := List.length_eq_one_iff.1 hlen
    obtain ⟨e1', rfl⟩ : ∃ e1', es' = [e1'] := List.length_eq_one_iff.1 hlen'
    have ih0 := hparts 0 _ _ rfl rfl
    have hr0 : identR [e1] [e1'] 0 = ident e1 e1' := rfl
    rw [hr0] at ih0
    have hi : ident (.mk 6 n c b nm [e1]) (.mk 6 n' c' b' nm' [e1']) = (n == n' && ident e1 e1') := by simp [ident, identL, alikeP]
    rw [hi]
    exact id_array w hA hc h q' h0 h0' e ih0
  | chan h h0 h3 =>
    refine id_gate (kk := k') w hA (⟨_, _, _, h⟩) rfl rfl (fun h1 h2 => hid (by rw [h1, h2])) (fun h1 => ident_kind fun h2 => h1 (by rw [← h2]; rfl)) (fun h1 h2 => id_ne_chan w hA hc (⟨_, _, _, h⟩) hl' hna h1 h2) (fun hT e => ?_)
    rw [← hT] at hS'
    obtain ⟨rfl, u', rfl, q'⟩ := hS'.inv_chan rfl
    obtain ⟨e1, rfl⟩ : ∃ e1, es = [e1] := List.length_eq_one_iff.1 hlen
    obtain ⟨e1', rfl⟩ : ∃ e1', es' = [e1'] := List.length_eq_one_iff.1 hlen'
    have ih0 := hparts 0 _ _ rfl rfl
    have hr0 : identR [e1] [e1'] 0 = ident e1 e1' := rfl
    rw [hr0] at ih0
    have hi : ident (.mk 8 n c b nm [e1]) (.mk 8 n' c' b' nm' [e1']) = (n == n' && ident e1 e1') := by simp [ident, identL, alikeP]
    rw [hi]
    exact id_chan w hA hc h q' e ih0
  | map h =>
    refine id_gate (kk := k') w hA (⟨_, _, _, h⟩) rfl rfl (fun h1 h2 => hid (by rw [h1, h2])) (fun h1 => ident_kind fun h2 => h1 (by rw [← h2]; rfl)) (fun h1 h2 => id_ne_map w hA hc (⟨_, _, _, h⟩) hl' hna h1 h2) (fun hT e => ?_)
    rw [← hT] at hS'
    obtain ⟨rfl, u1', u2', rfl, q'⟩ := hS'.inv_map rfl
    obtain ⟨e1, e2, rfl⟩ : ∃ e1 e2, es = [e1, e2] := len2 hlen
    obtain ⟨e1', e2', rfl⟩ : ∃ e1' e2', es' = [e1', e2'] := len2 hlen'
    have hi : ident (.mk 7 n c b nm [e1, e2]) (.mk 7 n' c' b' nm' [e1', e2']) = (ident e1 e1' && ident e2 e2') := by simp [ident, identL, alikeP]
    rw [hi]
    exact id_map w hA hc h q' e (hparts 0 _ _ rfl rfl) (hparts 1 _ _ rfl rfl)
  | param hn h0 =>
    refine id_gate (kk := k') w hA (hE.pl _ (List.mem_of_getElem? hn)) rfl rfl (fun h1 h2 => hid (by rw [h1, h2])) (fun h1 => ident_kind fun h2 => h1 (by rw [← h2]; rfl)) (fun h1 h2 => id_ne_param w hA hc (hE.pl _ (List.mem_of_getElem? hn)) hl' hna (by rw [h2]; rfl)) (fun hT e => ?_)
    rw [← hT] at hS'
    obtain ⟨rfl, rfl, h0', q'⟩ := hS'.inv_param rfl
    have hes := List.length_eq_zero_iff.1 hlen
    have hes' := List.length_eq_zero_iff.1 hlen'
    subst hes
    subst hes'
    have hne : n ≠ n' := by
      intro hnn
      subst hnn
      rw [hn] at q'
      injection q' with q'
      subst q'
      rw [peq_self, nbeq_self] at e
      cases e
    have hi : ident (.mk 2 n c b nm []) (.mk 2 n' c' b' nm' []) = false := by simp [ident, alikeP, hne]
    rw [hi]
    exact id_ne_param w hA hc (hE.pl _ (List.mem_of_getElem? hn)) hl' rfl e
  | struct h hs hn hl =>
    refine id_gate (kk := k') w hA (⟨_, _, _, h⟩) rfl rfl (fun h1 h2 => hid (by rw [h1, h2])) (fun h1 => ident_kind fun h2 => h1 (by rw [← h2]; rfl)) (fun h1 h2 => id_ne_struct w hA hc (⟨_, _, _, h⟩) hl' hna h1 h2) (fun hT e => ?_)
    rw [← hT] at hS'
    obtain ⟨rfl, sl', q', hs', hn', hln'⟩ := hS'.inv_struct rfl
    have hi : ident (.mk 9 n c b nm es) (.mk 9 n' c' b' nm' es') = (decide (vs.length = vs'.length) && (List.range vs.length).all (fieldB (es.map Ty.nm) (es'.map Ty.nm) (identR es es'))) := by
      rw [← hlen, ← hlen']
      by_cases hl2 : es.length = es'.length
      · rw [fields_eq hl2]
        simp [ident, alikeP, hl2]
      · simp [ident, alikeP, hl2]
    rw [hi]
    exact id_struct w hA hc hp h q' hs hs' hn hbd e hparts
  | func h hx hy h0 h1 =>
    refine id_gate (kk := k') w hA (⟨_, _, _, h⟩) rfl rfl (fun h1 h2 => hid (by rw [h1, h2])) (fun h1 => ident_kind fun h2 => h1 (by rw [← h2]; rfl)) (fun h1 h2 => id_ne_func w hA hc (⟨_, _, _, h⟩) hl' hna h1 h2) (fun hT e => ?_)
    rw [← hT] at hS'
    obtain ⟨rfl, x', y', q', hx', hy', h0', h1'⟩ := hS'.inv_func rfl
    have hc1 : (vs.take c.toNat).length = c.toNat := by rw [List.length_take]; omega
    have hc1' : (vs'.take c'.toNat).length = c'.toNat := by rw [List.length_take]; omega
    have hd1 : (vs.drop c.toNat).length = vs.length - c.toNat := List.length_drop
    have hd1' : (vs'.drop c'.toNat).length = vs'.length - c'.toNat := List.length_drop
    have hLx := RepL.take c.toNat hL
    have hLx' := RepL.take c'.toNat hL'
    have hLy := RepL.drop c.toNat hL
    have hLy' := RepL.drop c'.toNat hL'
    have hih1 : ∀ e ∈ es.take c.toNat, IdAll E e := fun e he => ih e (List.mem_of_mem_take he)
    have hih2 : ∀ e ∈ es.drop c.toNat, IdAll E e := fun e he => ih e (List.mem_of_mem_drop he)
    have hsz1 : Ty.sizeL (es.take c.toNat) < 9223372036854775808 := Nat.lt_of_le_of_lt (Ty.sizeL_take _ _) hse
    have hsz2 : Ty.sizeL (es.drop c.toNat) < 9223372036854775808 := Nat.lt_of_le_of_lt (Ty.sizeL_drop _ _) hse
    have hp1 := fun w' (hA' : Agree H w') => id_tuple w' hA' hc hx hx' (by omega) (tup_same hE hx hx' hLx hLx') (id_parts hih1 hsz1 hE hp hc hLx hLx')
    have hp2 := fun w' (hA' : Agree H w') => id_tuple w' hA' hc hy hy' (by omega) (tup_same hE hy hy' hLy hLy') (id_parts hih2 hsz2 hE hp hc hLy hLy')
    have hi : ident (.mk 10 n c b nm es) (.mk 10 n' c' b' nm' es') = (b == b' && ((decide ((vs.take c.toNat).length = (vs'.take c'.toNat).length) && (List.range (vs.take c.toNat).length).all (identR (es.take c.toNat) (es'.take c'.toNat))) && (decide ((vs.drop c.toNat).length = (vs'.drop c'.toNat).length) && (List.range (vs.drop c.toNat).length).all (identR (es.drop c.toNat) (es'.drop c'.toNat))))) := by
      rw [tup_val hLx hLx', tup_val hLy hLy']
      exact func_val h0 h0' (by omega) (by omega)
    rw [hi]
    exact id_func w hA hc h q' e hp1 hp2
  | named hn h0 ho h hu =>
    refine id_gate (kk := k') w hA (⟨_, _, _, h⟩) rfl rfl (fun h1 h2 => hid (by rw [h1, h2])) (fun h1 => ident_kind fun h2 => h1 (by rw [← h2]; rfl)) (fun h1 h2 => id_ne_named w hA hc (⟨_, _, _, h⟩) hl' hna h1 h2) (fun hT e => ?_)
    rw [← hT] at hS'
    obtain ⟨rfl, h0', hcs⟩ := hS'.inv_named rfl
    have hparts2 : ∀ i v v', _[i]? = some v → vs'[i]? = some v' → ∀ w', Agree H w' → Calls Tryz.prog 23 #[v, v'] w' (Ret (Qt (.bool (identR es es' i)) w')) := fun i v v' hv hv' w' hA' =>
      identical_of w' hA' fun H2 c2 w2 hle2 hA2 hc2 => id_parts ih hse (hE.mono hle2) (hp.mono hle2) hc2 (RepL.mono hle2 _ _ hL) (RepL.mono hle2 _ _ hL') i v v' hv hv' w2 hA2
    obtain ⟨cd, od, rd, g1, g2, g3⟩ := orig_named hE hn
    rcases hcs with ⟨rfl, o', _, _, _, _, _, _, hn', ho', q', hu'⟩ | ⟨u', us', i', tl', d', _, _, _, _, _, _, _, sl', rfl, hn', q', hi', ht', hs', hu'⟩
    · obtain ⟨cd', od', rd', g1', g2', g3'⟩ := orig_named hE hn'
      rw [named_val hE hlen hlen' h0 h0' g1 g1']
      exact id_named w hA hc (argsOf_none h) (argsOf_none q') (.inl ⟨rfl, _, _, _, _, _, _, _, h⟩) (.inl ⟨rfl, _, _, _, _, _, _, _, q'⟩) g2 g2' g3 g3' ⟨_, _, _, h⟩ hl' hbd e hparts2
    · obtain ⟨cd', od', rd', g1', g2', g3'⟩ := orig_named hE hn'
      rw [named_val hE hlen hlen' h0 h0' g1 g1']
      exact id_named w hA hc (argsOf_none h) (argsOf_inst q' hi' ht' hs') (.inl ⟨rfl, _, _, _, _, _, _, _, h⟩) (.inr ⟨_, _, _, _, _, _, _, _, _, q', hi'⟩) g2 g2' g3 g3' ⟨_, _, _, h⟩ hl' hbd e hparts2
  | inst hn h0 h hi ht hs hu =>
    refine id_gate (kk := k') w hA (⟨_, _, _, h⟩) rfl rfl (fun h1 h2 => hid (by rw [h1, h2])) (fun h1 => ident_kind fun h2 => h1 (by rw [← h2]; rfl)) (fun h1 h2 => id_ne_named w hA hc (⟨_, _, _, h⟩) hl' hna h1 h2) (fun hT e => ?_)
    rw [← hT] at hS'
    obtain ⟨rfl, h0', hcs⟩ := hS'.inv_named rfl
    have hparts2 : ∀ i v v', _[i]? = some v → vs'[i]? = some v' → ∀ w', Agree H w' → Calls Tryz.prog 23 #[v, v'] w' (Ret (Qt (.bool (identR es es' i)) w')) := fun i v v' hv hv' w' hA' =>
      identical_of w' hA' fun H2 c2 w2 hle2 hA2 hc2 => id_parts ih hse (hE.mono hle2) (hp.mono hle2) hc2 (RepL.mono hle2 _ _ hL) (RepL.mono hle2 _ _ hL') i v v' hv hv' w2 hA2
    obtain ⟨cd, od, rd, g1, g2, g3⟩ := orig_named hE hn
    rcases hcs with ⟨rfl, o', _, _, _, _, _, _, hn', ho', q', hu'⟩ | ⟨u', us', i', tl', d', _, _, _, _, _, _, _, sl', rfl, hn', q', hi', ht', hs', hu'⟩
    · obtain ⟨cd', od', rd', g1', g2', g3'⟩ := orig_named hE hn'
      rw [named_val hE hlen hlen' h0 h0' g1 g1']
      exact id_named w hA hc (argsOf_inst h hi ht hs) (argsOf_none q') (.inr ⟨_, _, _, _, _, _, _, _, _, h, hi⟩) (.inl ⟨rfl, _, _, _, _, _, _, _, q'⟩) g2 g2' g3 g3' ⟨_, _, _, h⟩ hl' hbd e hparts2
    · obtain ⟨cd', od', rd', g1', g2', g3'⟩ := orig_named hE hn'
      rw [named_val hE hlen hlen' h0 h0' g1 g1']
      exact id_named w hA hc (argsOf_inst h hi ht hs) (argsOf_inst q' hi' ht' hs') (.inr ⟨_, _, _, _, _, _, _, _, _, h, hi⟩) (.inr ⟨_, _, _, _, _, _, _, _, _, q', hi'⟩) g2 g2' g3 g3' ⟨_, _, _, h⟩ hl' hbd e hparts2
end Go.Proofs.YtjilnjifegeceaaGreatDoor

/-
  The thin package's 'Identical'.
-/
namespace Go.Proofs.YtjilnjifegeceaaGreatDoor
set_option maxRecDepth 100000
set_option maxHeartbeats 4000000
attribute [local irreducible] Calls execOp

theorem r140 {G G' A : Prop} (ag : A) (k : G') (h : Hid G' → A → G := by intro k_ ag_; (first | (refine cD_move ?_; refine D_val0 (fun _ _ => R_move) rfl rfl ?_) | (refine cD_load ?_; refine D_val0 (fun w he => R_loadH (ag_ w he) rfl (by assumption) (by rfl)) rfl rfl ?_) | (refine cD_assign ?_; refine D_val0 (fun _ _ => R_assign) rfl rfl ?_)); exact k_.out) : G := h ⟨k⟩ ag
theorem r141 {G G' A : Prop} (ag : A) (k : G') (h : Hid G' → A → G := by intro k_ ag_; (repeat (first | (refine cD_move ?_; refine D_val0 (fun _ _ => R_move) rfl rfl ?_) | (refine cD_load ?_; refine D_val0 (fun w he => R_loadH (ag_ w he) rfl (by assumption) (by rfl)) rfl rfl ?_) | (refine cD_assign ?_; refine D_val0 (fun _ _ => R_assign) rfl rfl ?_))); exact k_.out) : G := h ⟨k⟩ ag

/-- the thin package's answer, whatever the world -/
def ImplSays (H : Hp) (dv : Value) (params : Int) (x y : Ty) (cx cy : List Value) : Prop :=
  ∀ w, Agree H w → Calls Tryz.prog 15 #[dv, .int .i64 params, .agg cx.toArray, .agg cy.toArray] w (Ret (Qt (.bool (ident x y)) w))

theorem dsl_pair {H : Hp} {x y : Ty} {cx cy : List Value} {b : Nat} {T : Nat} (hx : DTy H x cx) (hy : DTy H y cy) (hb : H b = some (Ob (cx ++ cy) T)) : DSl H [x, y] (some ⟨b, 0, none⟩) := by
  obtain ⟨p, cap, rfl, -⟩ := hx.cells
  refine .inr ⟨b, 0, rfl, ⟨_, ?_, hx⟩, ⟨_, ?_, hy⟩, trivial⟩
  · intro j v hj
    refine ⟨_, _, _, hb, ?_⟩
    rw [lget_eq] at hj
    have hlt := (List.getElem?_eq_some_iff.1 hj).1
    simp only [Nat.zero_add, List.getElem?_toArray]
    rw [List.getElem?_append_left hlt]
    exact hj
  · have := hcells_ob (cs := cy) (tyCells x.k x.n x.c x.b (.slice p x.es.length cap) x.nm) hb
    exact this

theorem implIdent_any {H : Hp} {ds : List (Int × Ty)} {p : Option Addr} {dcap : Nat} {params : Int} {x y : Ty} {cx cy : List Value} (hP : Props H) (hd : DDl H ds p) (hx : DTy H x cx) (hy : DTy H y cy) (hv : ValidD ds params [x, y]) :
    ImplSays H (.slice p ds.length dcap) params x y cx cy := by
  intro w hA
  have hV : DeclsV ds := fun n d hn => let ⟨h1, _, h3, h4, h5⟩ := hv.dd n d hn; ⟨h1, h3, h4, h5⟩
  obtain ⟨hx1, hx2⟩ := hv.tt x (by simp)
  obtain ⟨hy1, hy2⟩ := hv.tt y (by simp)
  obtain ⟨px, capx, hcx, -⟩ := hx.cells
  obtain ⟨py, capy, hcy, -⟩ := hy.cells
  subst hcx
  subst hcy
  (refine calls_enter Tryz.func15 Tryz.ntmps15 rfl rfl ?_)
  (refine r38 ?_)
  refine L_box rfl rfl rfl fun b6 w1 hn1 => ?_
  refine L_box rfl rfl rfl fun b7 w2 hn2 => ?_
  obtain ⟨H1, g1, hb6⟩ := Grow.ofNew hA hn1
  obtain ⟨H2, g2, hb7⟩ := Grow.ofNew g1.ag hn2
  have g12 := g1.trans g2
  have hb6 := g2.le _ _ hb6
  (refine r38 ?_)
  refine L_callR (buildI_any w2 g12.ag (hP.mono g12.le) (hd.mono g12.le) hV hv.p0 hv.p8 hv.d16) rfl rfl fun v w3 ⟨bB, E, H3, hv3, g3, hbu, hpl, hdl, hE⟩ => ?_
  subst hv3
  have g13 := g12.trans g3
  have hb6 := g3.le _ _ hb6
  have hb7 := g3.le _ _ hb7
  have htk : ds.take ds.length = ds := List.take_length
  have hTx := typB_any (E := E) (p := p) (dcap := dcap) (bB := bB) hV ds.length (by omega) x params 0 hv.p0 (by omega) (Int.le_refl 0) (by rw [htk]; exact hx1)
  have hTy := typB_any (E := E) (p := p) (dcap := dcap) (bB := bB) hV ds.length (by omega) y params 0 hv.p0 (by omega) (Int.le_refl 0) (by rw [htk]; exact hy1)
  have hA3 := g3.ag
  have hAg : ∀ w', Ext No w3 w' → Agree H3 w' := fun _ he => hA3.ext0 he
  have hcx : ∀ w', Ext No w3 w' → Calls Tryz.prog 24 #[ptr bB, .agg (tyCells x.k x.n x.c x.b (.slice px x.es.length capx) x.nm).toArray, .slice none 0 0] w' (Ret (TypSays E H3 w' [] x)) := fun w' he =>
    hTx _ H3 w' [] [] none 0 (hAg w' he) (hP.mono g13.le) hbu (DTy.mono g13.le _ _ hx) (hd.mono g13.le) rfl rfl (fun i v hv => by simp at hv)
  (refine r38 ?_)
  (refine G_draw No (0 :: 1 :: 3 :: 4 :: 2 :: 5 :: 6 :: 7 :: []) [2, 5] follows (by kernel_rfl) rfl ?_)
  (repeat (first | (refine cD_load ?_; first | refine D_val0 (fun w he => R_loadAB rfl rfl ((hAg w he) _ _ hb6)) rfl rfl ?_ | refine D_val0 (fun w he => R_loadAB rfl rfl ((hAg w he) _ _ hb7)) rfl rfl ?_) | refine r140 hAg ?_))
  refine D_callRR hcx rfl fun w4 vx w5 he4 ⟨H5, g5, hrx, _⟩ => ⟨g5.ext, ?_⟩
  have hAg5 : ∀ w', Ext No w5 w' → Agree H5 w' := fun _ he => g5.ag.ext0 he
  have hcy : ∀ w', Ext No w5 w' → Calls Tryz.prog 24 #[ptr bB, .agg (tyCells y.k y.n y.c y.b (.slice py y.es.length capy) y.nm).toArray, .slice none 0 0] w' (Ret (TypSays E H5 w' [] y)) := fun w' he =>
    hTy _ H5 w' [] [] none 0 (hAg5 w' he) (hP.mono (Hp.le_trans g13.le g5.le)) (hbu.mono g5.le) (DTy.mono (Hp.le_trans g13.le g5.le) _ _ hy) (hd.mono (Hp.le_trans g13.le g5.le)) rfl rfl (fun i v hv => by simp at hv)
  refine D_callRR hcy rfl fun w6 vy w7 he6 ⟨H7, g7, hry, _⟩ => ⟨g7.ext, ?_⟩
  rw [substT_closed x hx1] at hrx
  rw [substT_closed y hy1] at hry
  have hid := fun w' (he : Ext No w7 w') => identical_of (x := vx) (y := vy) (r := ident x y) w' (g7.ag.ext0 he) fun H' c w'' hle hA' hc =>
    identical_all x (by omega) y vx vy H' c w'' (hE.mono (Hp.le_trans g5.le (Hp.le_trans g7.le hle))) (hP.mono (Hp.le_trans g13.le (Hp.le_trans g5.le (Hp.le_trans g7.le hle)))) hA' hc (Rep.mono (Hp.le_trans g7.le hle) _ _ hrx) (Rep.mono hle _ _ hry)
  refine D_callQ hid rfl ?_
  have hAg7 : ∀ w', Ext No w7 w' → Agree H7 w' := fun _ he => g7.ag.ext0 he
  (refine r141 hAg7 ?_)
  refine D_nil fun w8 he8 => ?_
  (refine r38 ?_)
  (refine G_retF rfl ?_)
  exact ⟨_, rfl, rfl, g13.ext.trans (he4.trans (g5.ext.trans (he6.trans (g7.ext.trans he8))))⟩

end Go.Proofs.YtjilnjifegeceaaGreatDoor

/-
  FnClosed: what is inferred; the law's own walk.
-/
namespace Go.Proofs.YtjilnjifegeceaaGreatDoor
set_option maxRecDepth 100000
set_option maxHeartbeats 4000000
attribute [local irreducible] Calls execOp

theorem r142 {G G' : Prop} (k : G') (h : Hid G' → G := by intro k_; (repeat (first | (refine cL ?_; first | (refine cL_guard ?_; refine L_unwanted rfl rfl rfl ?_) | (refine cL_move ?_; refine L_val R_move rfl rfl rfl ?_) | (refine cL_load ?_; first | refine L_val (R_loadB rfl (by assumption) (by rfl)) rfl rfl rfl ?_ | refine L_val (R_loadH (by assumption) rfl (by assumption) (by rfl)) rfl rfl rfl ?_) | (refine cL_fieldAddr ?_; refine L_val (R_fa rfl) rfl rfl rfl ?_) | (refine cL_assign ?_; refine L_val R_assign rfl rfl rfl ?_) | (refine cL_extract ?_; refine L_val (R_extract rfl rfl) rfl rfl rfl ?_) | (refine cL_call ?_; refine L_val (R_len rfl) rfl rfl rfl ?_) | (refine cL_pick ?_; first | refine L_val (R_pickT rfl) rfl rfl rfl ?_ | refine L_val (R_pickF rfl) rfl rfl rfl ?_) | (refine cL_eql ?_; first | refine L_val (R_eqPN rfl rfl) rfl rfl rfl ?_ | refine L_val (R_eqI rfl rfl) rfl rfl rfl ?_ | refine L_val (R_eqB rfl rfl) rfl rfl rfl ?_ | refine L_val (R_eqIfN rfl rfl) rfl rfl rfl ?_ | refine L_val (R_eqIfNN rfl) rfl rfl rfl ?_) | (refine cL_lss ?_; refine L_val (R_ltI rfl rfl) rfl rfl rfl ?_) | (refine cL_not ?_; refine L_val (R_not rfl) rfl rfl rfl ?_) | (refine cL_add ?_; refine L_val (R_addI rfl rfl) rfl rfl rfl ?_) | (refine cL_gtr ?_; refine L_val (R_gtI rfl rfl) rfl rfl rfl ?_) | refine L_nil ?_) | refine G_seq ?_ | refine G_region ?_ | refine G_skip ?_ | refine G_block ?_ | refine G_end ?_ | refine G_true rfl ?_ | refine G_false rfl ?_)); exact k_.out) : G := h ⟨k⟩
theorem r143 {G G' : Prop} (k : G') (h : Hid G' → G := by intro k_; (first | (refine cL ?_; first | (refine cL_guard ?_; refine L_unwanted rfl rfl rfl ?_) | (refine cL_move ?_; refine L_val R_move rfl rfl rfl ?_) | (refine cL_load ?_; first | refine L_val (R_loadB rfl (by assumption) (by rfl)) rfl rfl rfl ?_ | refine L_val (R_loadH (by assumption) rfl (by assumption) (by rfl)) rfl rfl rfl ?_) | (refine cL_fieldAddr ?_; refine L_val (R_fa rfl) rfl rfl rfl ?_) | (refine cL_assign ?_; refine L_val R_assign rfl rfl rfl ?_) | (refine cL_extract ?_; refine L_val (R_extract rfl rfl) rfl rfl rfl ?_) | (refine cL_call ?_; refine L_val (R_len rfl) rfl rfl rfl ?_) | (refine cL_pick ?_; first | refine L_val (R_pickT rfl) rfl rfl rfl ?_ | refine L_val (R_pickF rfl) rfl rfl rfl ?_) | (refine cL_eql ?_; first | refine L_val (R_eqPN rfl rfl) rfl rfl rfl ?_ | refine L_val (R_eqI rfl rfl) rfl rfl rfl ?_ | refine L_val (R_eqB rfl rfl) rfl rfl rfl ?_ | refine L_val (R_eqIfN rfl rfl) rfl rfl rfl ?_ | refine L_val (R_eqIfNN rfl) rfl rfl rfl ?_) | (refine cL_lss ?_; refine L_val (R_ltI rfl rfl) rfl rfl rfl ?_) | (refine cL_not ?_; refine L_val (R_not rfl) rfl rfl rfl ?_) | (refine cL_add ?_; refine L_val (R_addI rfl rfl) rfl rfl rfl ?_) | (refine cL_gtr ?_; refine L_val (R_gtI rfl rfl) rfl rfl rfl ?_) | refine L_nil ?_) | refine G_seq ?_ | refine G_region ?_ | refine G_skip ?_ | refine G_block ?_ | refine G_end ?_ | refine G_true rfl ?_ | refine G_false rfl ?_); exact k_.out) : G := h ⟨k⟩

def ClosedΦ (x y : Ty) (r : Bool) (L : List (Option Ty)) : Prop := r = ident x y ∧ ∀ (i : Nat) (o : Option Ty), L[i]? = some o → o = none

theorem tells_closed {E : Env} {H : Hp} {ds : List (Int × Ty)} {x y : Ty} (hE : EnvOK E H) (hP : Props H) (hsx : shapedB ds 0 0 x = true) (hsy : shapedB ds 0 0 y = true) (hzx : Ty.size x ≤ 15) (hzy : Ty.size y ≤ 15) : NfTells E H x y 0 (ClosedΦ x y) := by
  intro H' vx vy hle hrx hry
  rw [substT_closed _ hsx] at hrx
  rw [substT_closed _ hsy] at hry
  have hE' := hE.mono hle
  have hP' := hP.mono hle
  refine ⟨fun r s => r = ident x y ∧ ∀ h ∈ s.hs, s.val h = .nilIface, ?_, ?_⟩
  · intro u hm M hu hH s hsl hsn hs0
    refine (nify_closed (ds := ds) _ x y (Nat.le_refl _) (mkUC H' E.params u hm M hu hH) s 0 vx vy hE' hP' hsx hsy hrx hry (by omega) (by omega)).mono ?_
    rintro r s' ⟨h1, rfl⟩
    exact ⟨h1, hs0⟩
  · rintro r s ⟨hr, hv⟩ hsl
    refine ⟨fun h hh => .inl (hv h hh), fun L' hL hbk => ⟨hr, fun i o ho => ?_⟩⟩
    obtain ⟨h, hh⟩ : ∃ h, s.hs[i]? = some h := ⟨_, List.getElem?_eq_getElem (by have := (List.getElem?_eq_some_iff.1 ho).1; omega)⟩
    rcases hbk i o h ho hh with ⟨h1, -⟩ | ⟨t', t, -, -, hr2, -⟩
    · exact h1
    · obtain ⟨T, a, e⟩ := hr2.iface
      rw [hv h (List.mem_of_getElem? hh)] at e
      cases e

theorem law_closed {H : Hp} {ds : List (Int × Ty)} {p : Option Addr} {dcap : Nat} {params : Int} {x y : Ty} {cx cy : List Value} (w : World) (hA : Agree H w) (hP : Props H) (hd : DDl H ds p) (hx : DTy H x cx) (hy : DTy H y cy) (hdc : ds.length ≤ dcap) (hdl : ds.length < 9223372036854775808) :
    Calls Tryz.prog 6 #[.slice p ds.length dcap, .agg cx.toArray, .agg cy.toArray, .int .i64 params] w (Ret (Qt (.bool true) w)) := by
  obtain ⟨px, capx, hcx, -⟩ := hx.cells
  obtain ⟨py, capy, hcy, -⟩ := hy.cells
  subst hcx
  subst hcy
  (refine calls_enter Tryz.func6 Tryz.ntmps6 rfl rfl ?_)
  (refine r142 ?_)
  refine L_box rfl rfl rfl fun b5 w1 hn1 => ?_
  refine L_box rfl rfl rfl fun b6 w2 hn2 => ?_
  obtain ⟨H1, g1, hb5⟩ := Grow.ofNew hA hn1
  obtain ⟨H2, g2, hb6⟩ := Grow.ofNew g1.ag hn2
  have hb5 := g2.le _ _ hb5
  have g := g1.trans g2
  have hA2 := g.ag
  have hx2 := DTy.mono g.le _ _ hx
  have hy2 := DTy.mono g.le _ _ hy
  cases c1 : decide ((ds.length : Int) > 2147483647) with
  | true =>
    (repeat (first | (refine cL ?_; first | (refine cL_guard ?_; refine L_unwanted rfl rfl rfl ?_) | (refine cL_gtr ?_; refine L_valB (R_gtI rfl rfl) c1 rfl rfl rfl ?_)) | refine r143 ?_))
    (refine G_retF rfl ?_)
    exact ⟨_, rfl, rfl, g.ext⟩
  | false =>
  have hf1 := fits_any w2 hA2 hx2
  cases c2 : fitsB x with
  | false =>
    rw [c2] at hf1
    (repeat (first | (refine cL ?_; first | (refine cL_guard ?_; refine L_unwanted rfl rfl rfl ?_) | (refine cL_load ?_; refine L_val (R_loadAB rfl rfl (hA2 _ _ hb5)) rfl rfl rfl ?_) | (refine cL_gtr ?_; refine L_valB (R_gtI rfl rfl) c1 rfl rfl rfl ?_)) | refine r143 ?_))
    refine L_callQ hf1 rfl rfl fun w3 hw3 => ?_
    (refine r142 ?_)
    (refine G_retF rfl ?_)
    exact ⟨_, rfl, rfl, g.ext.trans hw3⟩
  | true =>
  rw [c2] at hf1
  (repeat (first | (refine cL ?_; first | (refine cL_guard ?_; refine L_unwanted rfl rfl rfl ?_) | (refine cL_load ?_; refine L_val (R_loadAB rfl rfl (hA2 _ _ hb5)) rfl rfl rfl ?_) | (refine cL_gtr ?_; refine L_valB (R_gtI rfl rfl) c1 rfl rfl rfl ?_)) | refine r143 ?_))
  refine L_callQ hf1 rfl rfl fun w3 hw3 => ?_
  have hA3 := hA2.ext0 hw3
  have hf2 := fits_any w3 hA3 hy2
  cases c3 : fitsB y with
  | false =>
    rw [c3] at hf2
    (repeat (first | (refine cL ?_; first | (refine cL_guard ?_; refine L_unwanted rfl rfl rfl ?_) | (refine cL_load ?_; refine L_val (R_loadAB rfl rfl (hA3 _ _ hb6)) rfl rfl rfl ?_)) | refine r143 ?_))
    refine L_callQ hf2 rfl rfl fun w4 hw4 => ?_
    (refine r142 ?_)
    (refine G_retF rfl ?_)
    exact ⟨_, rfl, rfl, g.ext.trans (hw3.trans hw4)⟩
  | true =>
  rw [c3] at hf2
  (repeat (first | (refine cL ?_; first | (refine cL_guard ?_; refine L_unwanted rfl rfl rfl ?_) | (refine cL_load ?_; refine L_val (R_loadAB rfl rfl (hA3 _ _ hb6)) rfl rfl rfl ?_)) | refine r143 ?_))
  refine L_callQ hf2 rfl rfl fun w4 hw4 => ?_
  have hA4 := hA3.ext0 hw4
  have g4 : Grow H w H2 w4 := g.trans (Grow.quiet hA2 (hw3.trans hw4))
  (repeat (first | (refine cL ?_; first | (refine cL_guard ?_; refine L_unwanted rfl rfl rfl ?_) | (refine cL_load ?_; first | refine L_val (R_loadAB rfl rfl (hA4 _ _ hb5)) rfl rfl rfl ?_ | refine L_val (R_loadAB rfl rfl (hA4 _ _ hb6)) rfl rfl rfl ?_)) | refine r143 ?_))
  refine L_buildSlice (vs := [.agg (tyCells x.k x.n x.c x.b (.slice px x.es.length capx) x.nm).toArray, .agg (tyCells y.k y.n y.c y.b (.slice py y.es.length capy) y.nm).toArray]) rfl rfl rfl rfl rfl rfl fun bs w5 hn5 => ?_
  obtain ⟨H5, g5, hbs⟩ := Grow.ofNew hA4 hn5
  have g05 := g4.trans g5
  have hds := dsl_pair (DTy.mono g05.le _ _ hx) (DTy.mono g05.le _ _ hy) hbs
  (refine r142 ?_)
  refine L_callR (valid_any (ts := [x, y]) w5 g5.ag (hd.mono g05.le) hds hdc hdl (by simp)) rfl rfl fun v w6 ⟨b, hv, x6, hval⟩ => ?_
  subst hv
  have g06 := g05.trans (Grow.quiet g5.ag x6)
  have hA6 := g06.ag
  cases b with
  | false =>
    (refine r142 ?_)
    (refine G_retF rfl ?_)
    exact ⟨_, rfl, rfl, g06.ext⟩
  | true =>
  have hV := hval rfl
  obtain ⟨hsx, hzx⟩ := hV.tt x (by simp)
  obtain ⟨hsy, hzy⟩ := hV.tt y (by simp)
  (refine r142 ?_)
  refine L_callR (valid_any (ts := []) (pl := none) (lcap := 0) (params := params) w6 hA6 (hd.mono g06.le) (.inl rfl) hdc hdl (by simp)) rfl rfl fun v w7 ⟨b, hv, x7, hval2⟩ => ?_
  subst hv
  have g07 := g06.trans (Grow.quiet hA6 x7)
  have hA7 := g07.ag
  cases b with
  | false =>
    (refine r142 ?_)
    (refine G_retF rfl ?_)
    exact ⟨_, rfl, rfl, g07.ext⟩
  | true =>
  have hV2 := hval2 rfl
  have hb5c := g5.le _ _ hb5
  have hb6c := g5.le _ _ hb6
  have hx7 := DTy.mono g07.le _ _ hx
  have hy7 := DTy.mono g07.le _ _ hy
  have hun := implUnify_any (p := p) (dcap := dcap) (params := params) (m := 0) (Φ := ClosedΦ x y) w7 hA7 (hP.mono g07.le) (hd.mono g07.le) hx7 hy7 hV2 (shaped_more hV2.p0 x hsx) (shaped_more hV2.p0 y hsy) (.inl rfl) fun E H' hle hE hP' hpl hdl' => tells_closed (ds := ds) hE hP' hsx hsy hzx hzy
  (repeat (first | (refine cL ?_; first | (refine cL_guard ?_; refine L_unwanted rfl rfl rfl ?_) | (refine cL_load ?_; first | refine L_val (R_loadAB rfl rfl (hA7 _ _ hb5c)) rfl rfl rfl ?_ | refine L_val (R_loadAB rfl rfl (hA7 _ _ hb6c)) rfl rfl rfl ?_)) | refine r143 ?_))
  refine L_callR hun rfl rfl fun v w8 ⟨vo, r, L', H8, hv, g8, hsl, hll, hr, hΦ⟩ => ?_
  subst hv
  have g08 := g07.trans g8
  have hA8 := g8.ag
  have hb5d := g8.le _ _ hb5c
  have hb6d := g8.le _ _ hb6c
  have hx8 := DTy.mono g8.le _ _ hx7
  have hy8 := DTy.mono g8.le _ _ hy7
  have hid := implIdent_any (p := p) (dcap := dcap) (hP.mono g08.le) (hd.mono g08.le) hx8 hy8 hV
  obtain ⟨qv, cv, hvo⟩ : ∃ qv cv, vo = .slice qv L'.length cv := by obtain ⟨a, b, _, h, -⟩ := hsl; exact ⟨a, b, h⟩
  subst hvo
  obtain ⟨bb, hbb⟩ : ∃ bb, ident x y = bb := ⟨_, rfl⟩
  unfold ImplSays at hid
  rw [hbb] at hid hr
  subst hr
  have hl8 : (L'.length : Int) ≤ 8 := by have := hV2.p8; omega
  cases r
  all_goals
    (repeat (first | (refine cL ?_; first | (refine cL_guard ?_; refine L_unwanted rfl rfl rfl ?_) | (refine cL_load ?_; first | refine L_val (R_loadAB rfl rfl (hA8 _ _ hb5d)) rfl rfl rfl ?_ | refine L_val (R_loadAB rfl rfl (hA8 _ _ hb6d)) rfl rfl rfl ?_)) | refine r143 ?_))
    refine L_callQ (hid w8 hA8) rfl rfl fun w9 hw9 => ?_
    have hA9 := hA8.ext0 hw9
    (refine r142 ?_)
    refine G_loop (CountI 53 52 L'.length [(5, ptr b5), (6, ptr b6), (10, .bool _), (11, .bool _), (51, .slice qv L'.length cv)] w9 fun _ => True) (fun f _ _ => countM 53 52 f)
      ⟨rfl, Ext.refl _ _, _, 0, with_self ⟨rfl, rfl, rfl, rfl, rfl, rfl, rfl, trivial⟩, Nat.zero_le _, trivial⟩ ?_
    rintro f ds0 wr ⟨rfl, hext, f0, i, rfl, hi, -⟩
    have hAr := hA9.ext0 hext
    by_cases h : i < L'.length
    · have hb : decide ((i : Int) < (L'.length : Int)) = true := decide_eq_true (by omega)
      obtain ⟨o, ho⟩ : ∃ o, L'[i]? = some o := ⟨_, List.getElem?_eq_getElem h⟩
      have hnone := hΦ i o ho
      subst hnone
      obtain ⟨gb, cb, cs, hvs, hg, hm⟩ := hsl.at ho
      injection hvs with e1 e2 e3
      subst e1
      subst e3
      have hia : (Value.pointer (some ⟨gb, 0 + ((i : Nat) : Int).toNat * 7, none⟩)) = .pointer (some ⟨gb, i * 7, none⟩) := by simp
      have hgr := hAr _ _ hg
      have hcl7 : ∀ j v, lget zInf j = some v → wr.cell? ⟨gb, i * 7 + j, none⟩ = some v := fun j v hj => cell_of_heap hgr (hm j v hj)
      (repeat (first | (refine cL ?_; first | (refine cL_guard ?_; refine L_unwanted rfl rfl rfl ?_) | (refine cL_load ?_; refine L_val (R_loadA (vs := zInf) rfl rfl hcl7) rfl rfl rfl ?_) | (refine cL_lss ?_; refine L_valB (R_ltI rfl rfl) hb rfl rfl rfl ?_) | (refine cL_indexAddr ?_; refine L_valE (R_ia rfl rfl (by omega) (by omega)) hia rfl rfl rfl ?_)) | refine r143 ?_))
      refine L_allocS rfl rfl fun b13 w13 hn13 => ?_
      refine L_storeA rfl hn13.here rfl rfl rfl rfl rfl rfl fun w14 h14 e14 s14 => ?_
      have hn14 := hn13.store h14 e14 s14
      have h14' : w14.heap[b13]? = some (Ob [.bool false, .int .i64 0, .int .i64 0, .int .i64 0, .bool false, .slice none 0 0, .string ⟨#[]⟩] 35) := h14
      (repeat (first | (refine cL ?_; first | (refine cL_guard ?_; refine L_unwanted rfl rfl rfl ?_) | (refine cL_add ?_; refine L_valE (R_addI rfl rfl) (succ_i64 h (by omega)) rfl rfl rfl ?_)) | refine r143 ?_))
      refine G_inv ⟨⟨rfl, hext.trans hn14.ext, _, i + 1, with_self ⟨rfl, rfl, rfl, rfl, rfl, rfl, rfl, trivial⟩, h, trivial⟩, ?_⟩
      show ((L'.length : Int) - ((i + 1 : Nat) : Int)).toNat < ((L'.length : Int) - (i : Int)).toNat
      omega
    · have hb : decide ((i : Int) < (L'.length : Int)) = false := decide_eq_false (by omega)
      have hsi := specIdent_any x y _ _ H8 wr hAr hx8 hy8
      rw [hbb] at hsi
      (repeat (first | (refine cL ?_; first | (refine cL_guard ?_; refine L_unwanted rfl rfl rfl ?_) | (refine cL_load ?_; first | refine L_val (R_loadAB rfl rfl (hAr _ _ hb5d)) rfl rfl rfl ?_ | refine L_val (R_loadAB rfl rfl (hAr _ _ hb6d)) rfl rfl rfl ?_) | (refine cL_lss ?_; refine L_valB (R_ltI rfl rfl) hb rfl rfl rfl ?_)) | refine G_exit rfl ?_ | refine r143 ?_))
      refine L_callQ hsi rfl rfl fun w15 hw15 => ?_
      (refine r142 ?_)
      refine L_callQ (works_any w15 (hAr.ext0 hw15) (hP.mono g08.le)) rfl rfl fun w16 hw16 => ?_
      (refine r142 ?_)
      (refine G_retF rfl ?_)
      exact ⟨_, rfl, rfl, g08.ext.trans (hw9.trans (hext.trans (hw15.trans hw16)))⟩
end Go.Proofs.YtjilnjifegeceaaGreatDoor

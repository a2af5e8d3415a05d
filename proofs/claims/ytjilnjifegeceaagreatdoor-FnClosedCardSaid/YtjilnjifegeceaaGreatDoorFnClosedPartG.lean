/-
  A part of the proof that laws.FnClosed returns true at every input: the walk's own rules and the contracts of functions, in build order.
  Its conditions are those of the statement: see the last text.
-/
import Derived.Test.YtjilnjifegeceaaGreatDoorFnClosedPartF

/-
  The unifier's 'nify' on two types of one kind, whatever it says of the parts.
-/
namespace Go.Proofs.YtjilnjifegeceaaGreatDoor
set_option maxRecDepth 100000
set_option maxHeartbeats 4000000
attribute [local irreducible] Calls execOp

variable {σ : Type} {C : UC σ} {s : σ} {d : Nat}

theorem nf_tuple {Q : Bool → σ → Prop} {m m' : Int} {a b : Nat} {vs vs' : List Value} {sl sl' : Value} (hm : Md m m') (hd : d + 1 ≤ 50) (hx : C.H a = some (Ob [sl] 194)) (hy : C.H b = some (Ob [sl'] 194)) (hs : VarSl C.H (noNames vs) vs sl) (hs' : VarSl C.H (noNames vs') vs' sl')
    (e : (Nat.beq 115 115 && peq (some ⟨a, 0, none⟩) (some ⟨b, 0, none⟩)) = false) (hlen : vs.length = vs'.length) (hbd : vs.length < 9223372036854775808) {pre : Nat → σ → Prop} (h0 : pre 0 s)
    (ih : ∀ i v v' s', i < vs.length → vs[i]? = some v → vs'[i]? = some v' → pre i s' → Nf C m v v' (d + 1) s' fun r s1 => bif r then pre (i + 1) s1 else Q false s1) (hend : ∀ s', pre vs.length s' → Q true s') :
    Nf C m (.iface 115 (ptr a)) (.iface 115 (ptr b)) d s Q := by
  have hl : LiveH C.H a := ⟨_, _, _, hx⟩
  have hl' : LiveH C.H b := ⟨_, _, _, hy⟩
  obtain ⟨b1, cap, xs, rfl, h2, h3⟩ := hs
  obtain ⟨b1', cap', xs', rfl, h2', h3'⟩ := hs'
  have en : ((vs.length : Int) == (vs'.length : Int)) = true := by rw [hlen]; simp
  intro w hw
  have hub := hw.ub
  unfold UCells at hub
  have hinc : Value.int .i64 (IntKind.i64.wrap ((d : Int) + 1)) = .int .i64 ((d + 1 : Nat) : Int) := by rw [wrap_i64 (by omega) (by omega)]; rfl
  have hle : decide (((d + 1 : Nat) : Int) > 50) = false := decide_eq_false (by omega)
  have ene : (!(Nat.beq 115 115 && peq (some ⟨a, 0, none⟩) (some ⟨b, 0, none⟩))) = true := by rw [e]; rfl
  unfold NfAt
  rcases hm with ⟨rfl, rfl⟩ | ⟨rfl, rfl⟩ | ⟨rfl, rfl⟩ | ⟨rfl, rfl⟩
  all_goals
    (refine calls_enter_d Tryz.func111 Tryz.ntmps111 rfl rfl ?_)
    (refine r94 ?_)
    refine L_box rfl rfl rfl fun b5 w1 hn1 => ?_
    have hub1 := hn1.ext.heap (fun x => x) hub
    have h51 := hn1.here
    (repeat (first | (refine cL ?_; first | (refine cL_guard ?_; refine L_unwanted rfl rfl rfl ?_) | (refine cL_add ?_; refine L_valE (R_addI rfl rfl) hinc rfl rfl rfl ?_)) | refine r95 ?_))
    refine L_store rfl hub1 rfl rfl rfl fun w2 hub2 e2 s2 => ?_
    have hb5 : b5 ≠ C.u := by have := lt_of_heap hub; have := hn1.fresh; omega
    have hbM : ¬ C.M b5 := fun x => by have := hw.ml _ x; have := hn1.fresh; omega
    have hw2 : UW C s (d + 1) w2 := (hw.ext hn1.ext).deep hub2 e2
    have x2 : Ext C.M w w2 := hn1.ext.of_no.trans (e2.mono fun i _ h => by rw [h]; exact C.hu)
    have h52 := e2.heap (fun x => hb5 x) h51
    clear hub1 h51 e2 hub2
    have hub2 := hw2.ub
    unfold UCells at hub2
    have hA := hw2.ag
    (repeat (first | (refine cL ?_; first | refine L_val (R_makeFunc (xs := [.tmp 5])) rfl rfl rfl ?_) | refine r95 ?_))
    refine L_defer (R_deferV rfl) rfl rfl ?_
    (repeat (first | (refine cL ?_; first | (refine cL_guard ?_; refine L_unwanted rfl rfl rfl ?_) | (refine cL_call ?_; first | refine L_callI (unalias_any _ _ _ rfl) rfl rfl ?_ | refine L_callI (asNamed_no _ _ _ rfl rfl) rfl rfl ?_ | refine L_callI (abtp_no _ _ _ _ rfl rfl) rfl rfl ?_) | (refine cL_eql ?_; refine L_valB (R_eqIf rfl rfl (hA.live hl) (hA.live hl')) e rfl rfl rfl ?_) | (refine cL_gtr ?_; refine L_valB (R_gtI rfl rfl) hle rfl rfl rfl ?_) | (refine cL_and ?_; refine L_val (R_andI rfl rfl) rfl rfl rfl ?_)) | refine r95 ?_))
    (refine G_draw No (0 :: 1 :: 2 :: 3 :: 4 :: 5 :: 6 :: 7 :: []) [] follows (by kernel_rfl) rfl ?_)
    have hAg : ∀ w', Ext No w2 w' → Agree C.H w' := fun _ he => hA.ext0 he
    (repeat (first | (refine cD_guard ?_; refine D_unwanted rfl rfl ?_) | (refine cD_load ?_; refine D_val0 (fun w he => R_loadB rfl (he.heap (fun x => x) h52) rfl) rfl rfl ?_) | (refine cD_call ?_; refine D_callQ (fun w he => Is.qt (abtp_no _ _ _ _ rfl rfl)) rfl ?_) | refine r96 hAg ?_))
    refine D_nil fun w3 he3 => ?_
    refine G_frame (l := [(1, .iface 115 (ptr a)), (2, .iface 115 (ptr b)), (3, .int .u64 _), (4, .pointer none), (5, ptr b5), (12, .pointer none), (13, .pointer none)]) ⟨rfl, rfl, rfl, rfl, rfl, rfl, rfl, trivial⟩ fun f0 => ?_
    have hw3 := hw2.ext he3
    have h53 := he3.heap (fun x => x) h52
    have x3 : Ext C.M w w3 := x2.trans he3.of_no
    clear hub2
    have hub3 := hw3.ub
    unfold UCells at hub3
    have hA3 := hw3.ag
    have hAg3 : ∀ w', Ext C.M w3 w' → Agree C.H w' := fun _ he => hA3.ext he C.hH
    clear hAg hA hub h52
    (repeat (first | (refine cL ?_; first | (refine cL_guard ?_; refine L_unwanted rfl rfl rfl ?_) | (refine cL_call ?_; first | refine L_callI (unalias_any _ _ _ rfl) rfl rfl ?_ | refine L_callI (assert_true _) rfl rfl ?_ | refine L_callI (tupLen_any _ hA3 hx) rfl rfl ?_ | refine L_callI (tupLen_any _ hA3 hy) rfl rfl ?_ | refine L_callI (isTypeParam_no _ _ _ rfl rfl) rfl rfl ?_ | refine L_callI (asNamed_no _ _ _ rfl rfl) rfl rfl ?_) | (refine cL_eql ?_; refine L_valB (R_eqI rfl rfl) en rfl rfl rfl ?_) | (refine cL_neq ?_; refine L_valB (R_neIf rfl rfl (hA3.live hl) (hA3.live hl')) ene rfl rfl rfl ?_) | (refine cL_and ?_; refine L_val (R_andI rfl rfl) rfl rfl rfl ?_) | (refine cL_or ?_; refine L_valE (R_orI rfl rfl) (v' := .int .u64 3) rfl rfl rfl rfl ?_)) | refine r95 ?_))
    refine G_loop (NfI C 703 702 vs.length [(3, .int .u64 _), (4, .pointer none), (5, ptr b5), (63, ptr b), (701, .slice (some ⟨b1, 0, none⟩) vs.length cap)] [{ target := .fn (.func 142) #[ptr b5], args := #[] }] b5 d w pre) (fun f _ _ => countM 703 702 f)
      ⟨rfl, _, 0, s, with_self ⟨rfl, rfl, rfl, rfl, rfl, rfl, rfl, trivial⟩, Nat.zero_le _, h0, hw3, x3, h53⟩ ?_
    rintro f ds wr ⟨rfl, f0, i, sr, rfl, hi, hpre, hwr, hxr, h5r⟩
    have hAr := hwr.ag
    by_cases h : i < vs.length
    · have hb : decide ((i : Int) < (vs.length : Int)) = true := decide_eq_true (by omega)
      obtain ⟨v, hv⟩ : ∃ v, vs[i]? = some v := ⟨_, List.getElem?_eq_getElem h⟩
      obtain ⟨v', hv'⟩ : ∃ v', vs'[i]? = some v' := ⟨_, List.getElem?_eq_getElem (by omega)⟩
      have hih := ih i v v' sr h hv hv' hpre
      obtain ⟨nm, a1, pos, pkg, kd, e1, n2, n3⟩ := h3.get hv
      obtain ⟨nm', a1', pos', pkg', kd', e1', n2', n3'⟩ := h3'.get hv'
      have hAgr : ∀ w', Ext C.M wr w' → Agree C.H w' := fun _ he => hAr.ext he C.hH
      (repeat (first | (refine cL ?_; first | (refine cL_guard ?_; refine L_unwanted rfl rfl rfl ?_) | (refine cL_load ?_; first | refine L_val (R_loadH hAr rfl h2 n2) rfl rfl rfl ?_ | refine L_val (R_loadH hAr rfl h2' n2') rfl rfl rfl ?_) | (refine cL_lss ?_; refine L_valB (R_ltI rfl rfl) hb rfl rfl rfl ?_) | (refine cL_indexAddr ?_; refine L_valE (R_ia rfl rfl (by omega) (by omega)) (ia0 _ _) rfl rfl rfl ?_)) | refine r95 ?_))
      (refine G_drawX C.M (.op 0 (.op 1 (.op 2 (.op 3 (.op 4 (.op 5 (.op 6 (.op 7 (.op 8 (.op 9 (.op 10 (.op 11 (.op 12 (.op 13 (.op 14 .nil))))))))))))))) [(13, 1)] follows (by kernel_rfl) ?_)
      (repeat (first | (refine cX_guard ?_; refine X_unwanted rfl rfl ?_) | (refine cX_load ?_; refine X_val0 (fun w he => R_loadB rfl (he.heap hbM h5r) rfl) rfl rfl ?_) | refine r98 hAgr ?_))
      refine X_call (Φ := fun w v w' => ∃ r s', v = .bool r ∧ (bif r then pre (i + 1) s' else Q false s') ∧ UW C s' (d + 1) w' ∧ Ext C.M w w') (fun w he => hih w (hwr.ext he)) rfl fun w4 v4 w5 he4 ⟨r, s1, hv4, hq, hw5, x5⟩ => ⟨x5, ?_⟩
      subst hv4
      have h55 := x5.heap hbM (he4.heap (fun x => x) h5r)
      have x35 : Ext C.M w w5 := hxr.trans (he4.of_no.trans x5)
      have hAg5 : ∀ w', Ext C.M w5 w' → Agree C.H w' := fun _ he => hw5.ag.ext he C.hH
      (refine r99 hAg5 ?_)
      refine X_nil fun w6 he6 => ?_
      cases r with
      | false =>
        (refine r94 ?_)
        refine G_ret ?_
        intro tmps htm
        exact nf_leave (fun w => ResV.tmp rfl _ w tmps htm) rfl (he6.heap (fun x => x) h55) (hw5.ext he6) (by omega) hq (x35.trans he6.of_no)
      | true =>
        (repeat (first | (refine cL ?_; first | (refine cL_guard ?_; refine L_unwanted rfl rfl rfl ?_) | (refine cL_add ?_; refine L_valE (R_addI rfl rfl) (succ_i64 h hbd) rfl rfl rfl ?_)) | refine r95 ?_))
        refine G_inv ⟨⟨rfl, _, i + 1, s1, with_self ⟨rfl, rfl, rfl, rfl, rfl, rfl, rfl, trivial⟩, h, hq, hw5.ext he6, x35.trans he6.of_no, he6.heap (fun x => x) h55⟩, ?_⟩
        show ((vs.length : Int) - ((i + 1 : Nat) : Int)).toNat < ((vs.length : Int) - (i : Int)).toNat
        omega
    · have hb : decide ((i : Int) < (vs.length : Int)) = false := decide_eq_false (by omega)
      have hil : i = vs.length := by omega
      subst hil
      (repeat (first | (refine cL ?_; first | (refine cL_guard ?_; refine L_unwanted rfl rfl rfl ?_) | (refine cL_lss ?_; refine L_valB (R_ltI rfl rfl) hb rfl rfl rfl ?_)) | refine G_exit rfl ?_ | refine r95 ?_))
      refine G_ret ?_
      intro tmps htm
      exact nf_leave (fun w => ResV.tmp rfl _ w tmps htm) rfl h5r hwr (by omega) (hend _ hpre) hxr

theorem nf_struct {Q : Bool → σ → Prop} {m m' : Int} {a b : Nat} {vs vs' : List Value} {nms nms' : List ByteArray} {sl sl' : Value} (hm : Md m m') (hd : d + 1 ≤ 50) (hp : Props C.H) (hx : C.H a = some (Ob [sl, .slice none 0 0] 184)) (hy : C.H b = some (Ob [sl', .slice none 0 0] 184)) (hs : VarSl C.H nms vs sl) (hs' : VarSl C.H nms' vs' sl') (hcap : ∀ s ∈ nms, capital s) (hnm : ∀ (i : Nat) (nm nm' : ByteArray), nms[i]? = some nm → nms'[i]? = some nm' → beqB nm nm' = true)
    (e : (Nat.beq 111 111 && peq (some ⟨a, 0, none⟩) (some ⟨b, 0, none⟩)) = false) (hlen : vs.length = vs'.length) (hbd : vs.length < 9223372036854775808) {pre : Nat → σ → Prop} (h0 : pre 0 s)
    (ih : ∀ i v v' s', i < vs.length → vs[i]? = some v → vs'[i]? = some v' → pre i s' → Nf C m' v v' (d + 1) s' fun r s1 => bif r then pre (i + 1) s1 else Q false s1) (hend : ∀ s', pre vs.length s' → Q true s') :
    Nf C m (.iface 111 (ptr a)) (.iface 111 (ptr b)) d s Q := by
  have hl : LiveH C.H a := ⟨_, _, _, hx⟩
  have hl' : LiveH C.H b := ⟨_, _, _, hy⟩
  obtain ⟨b1, cap, xs, rfl, h2, h3⟩ := hs
  obtain ⟨b1', cap', xs', rfl, h2', h3'⟩ := hs'
  have en : ((vs.length : Int) == (vs'.length : Int)) = true := by rw [hlen]; simp
  have hneT : (!(((⟨#[]⟩ : ByteArray).toList) == ((⟨#[]⟩ : ByteArray).toList))) = false := by simp
  intro w hw
  have hub := hw.ub
  unfold UCells at hub
  have hinc : Value.int .i64 (IntKind.i64.wrap ((d : Int) + 1)) = .int .i64 ((d + 1 : Nat) : Int) := by rw [wrap_i64 (by omega) (by omega)]; rfl
  have hle : decide (((d + 1 : Nat) : Int) > 50) = false := decide_eq_false (by omega)
  have ene : (!(Nat.beq 111 111 && peq (some ⟨a, 0, none⟩) (some ⟨b, 0, none⟩))) = true := by rw [e]; rfl
  unfold NfAt
  rcases hm with ⟨rfl, rfl⟩ | ⟨rfl, rfl⟩ | ⟨rfl, rfl⟩ | ⟨rfl, rfl⟩
  all_goals
    (refine calls_enter_d Tryz.func111 Tryz.ntmps111 rfl rfl ?_)
    (refine r94 ?_)
    refine L_box rfl rfl rfl fun b5 w1 hn1 => ?_
    have hub1 := hn1.ext.heap (fun x => x) hub
    have h51 := hn1.here
    (repeat (first | (refine cL ?_; first | (refine cL_guard ?_; refine L_unwanted rfl rfl rfl ?_) | (refine cL_add ?_; refine L_valE (R_addI rfl rfl) hinc rfl rfl rfl ?_)) | refine r95 ?_))
    refine L_store rfl hub1 rfl rfl rfl fun w2 hub2 e2 s2 => ?_
    have hb5 : b5 ≠ C.u := by have := lt_of_heap hub; have := hn1.fresh; omega
    have hbM : ¬ C.M b5 := fun x => by have := hw.ml _ x; have := hn1.fresh; omega
    have hw2 : UW C s (d + 1) w2 := (hw.ext hn1.ext).deep hub2 e2
    have x2 : Ext C.M w w2 := hn1.ext.of_no.trans (e2.mono fun i _ h => by rw [h]; exact C.hu)
    have h52 := e2.heap (fun x => hb5 x) h51
    clear hub1 h51 e2 hub2
    have hub2 := hw2.ub
    unfold UCells at hub2
    have hA := hw2.ag
    (repeat (first | (refine cL ?_; first | refine L_val (R_makeFunc (xs := [.tmp 5])) rfl rfl rfl ?_) | refine r95 ?_))
    refine L_defer (R_deferV rfl) rfl rfl ?_
    (repeat (first | (refine cL ?_; first | (refine cL_guard ?_; refine L_unwanted rfl rfl rfl ?_) | (refine cL_call ?_; first | refine L_callI (unalias_any _ _ _ rfl) rfl rfl ?_ | refine L_callI (asNamed_no _ _ _ rfl rfl) rfl rfl ?_ | refine L_callI (abtp_no _ _ _ _ rfl rfl) rfl rfl ?_) | (refine cL_eql ?_; refine L_valB (R_eqIf rfl rfl (hA.live hl) (hA.live hl')) e rfl rfl rfl ?_) | (refine cL_gtr ?_; refine L_valB (R_gtI rfl rfl) hle rfl rfl rfl ?_) | (refine cL_and ?_; refine L_val (R_andI rfl rfl) rfl rfl rfl ?_)) | refine r95 ?_))
    (refine G_draw No (0 :: 1 :: 2 :: 3 :: 4 :: 5 :: 6 :: 7 :: []) [] follows (by kernel_rfl) rfl ?_)
    have hAg : ∀ w', Ext No w2 w' → Agree C.H w' := fun _ he => hA.ext0 he
    (repeat (first | (refine cD_guard ?_; refine D_unwanted rfl rfl ?_) | (refine cD_load ?_; refine D_val0 (fun w he => R_loadB rfl (he.heap (fun x => x) h52) rfl) rfl rfl ?_) | (refine cD_call ?_; refine D_callQ (fun w he => Is.qt (abtp_no _ _ _ _ rfl rfl)) rfl ?_) | refine r96 hAg ?_))
    refine D_nil fun w3 he3 => ?_
    refine G_frame (l := [(1, .iface 111 (ptr a)), (2, .iface 111 (ptr b)), (3, .int .u64 _), (4, .pointer none), (5, ptr b5), (12, .pointer none), (13, .pointer none)]) ⟨rfl, rfl, rfl, rfl, rfl, rfl, rfl, trivial⟩ fun f0 => ?_
    have hw3 := hw2.ext he3
    have h53 := he3.heap (fun x => x) h52
    have x3 : Ext C.M w w3 := x2.trans he3.of_no
    clear hub2
    have hub3 := hw3.ub
    unfold UCells at hub3
    have hA3 := hw3.ag
    have hAg3 : ∀ w', Ext C.M w3 w' → Agree C.H w' := fun _ he => hA3.ext he C.hH
    clear hAg hA hub h52
    (repeat (first | (refine cL ?_; first | (refine cL_guard ?_; refine L_unwanted rfl rfl rfl ?_) | (refine cL_call ?_; first | refine L_callI (unalias_any _ _ _ rfl) rfl rfl ?_ | refine L_callI (assert_true _) rfl rfl ?_ | refine L_callI (numFields_any _ hA3 hx) rfl rfl ?_ | refine L_callI (numFields_any _ hA3 hy) rfl rfl ?_ | refine L_callI (isTypeParam_no _ _ _ rfl rfl) rfl rfl ?_ | refine L_callI (asNamed_no _ _ _ rfl rfl) rfl rfl ?_) | (refine cL_eql ?_; refine L_valB (R_eqI rfl rfl) en rfl rfl rfl ?_) | (refine cL_neq ?_; refine L_valB (R_neIf rfl rfl (hA3.live hl) (hA3.live hl')) ene rfl rfl rfl ?_) | (refine cL_and ?_; refine L_val (R_andI rfl rfl) rfl rfl rfl ?_) | (refine cL_or ?_; refine L_valE (R_orI rfl rfl) (v' := .int .u64 3) rfl rfl rfl rfl ?_)) | refine r95 ?_))
    refine G_loop (NfI C 596 595 vs.length [(4, .pointer none), (5, ptr b5), (42, .int .u64 _), (53, ptr a), (54, ptr b), (594, .slice (some ⟨b1, 0, none⟩) vs.length cap)] [{ target := .fn (.func 142) #[ptr b5], args := #[] }] b5 d w pre) (fun f _ _ => countM 596 595 f)
      ⟨rfl, _, 0, s, with_self ⟨rfl, rfl, rfl, rfl, rfl, rfl, rfl, rfl, trivial⟩, Nat.zero_le _, h0, hw3, x3, h53⟩ ?_
    rintro f ds wr ⟨rfl, f0, i, sr, rfl, hi, hpre, hwr, hxr, h5r⟩
    have hAr := hwr.ag
    by_cases h : i < vs.length
    · have hb : decide ((i : Int) < (vs.length : Int)) = true := decide_eq_true (by omega)
      obtain ⟨v, hv⟩ : ∃ v, vs[i]? = some v := ⟨_, List.getElem?_eq_getElem h⟩
      obtain ⟨v', hv'⟩ : ∃ v', vs'[i]? = some v' := ⟨_, List.getElem?_eq_getElem (by omega)⟩
      have hih := ih i v v' sr h hv hv' hpre
      obtain ⟨nm, a1, pos, pkg, kd, e1, n2, n3⟩ := h3.get hv
      obtain ⟨nm', a1', pos', pkg', kd', e1', n2', n3'⟩ := h3'.get hv'
      have hcn : capital nm := hcap _ (List.mem_of_getElem? e1)
      have hbn := hnm i nm nm' e1 e1'
      have hAgr : ∀ w', Ext C.M wr w' → Agree C.H w' := fun _ he => hAr.ext he C.hH
      (repeat (first | (refine cL ?_; first | (refine cL_guard ?_; refine L_unwanted rfl rfl rfl ?_) | (refine cL_load ?_; first | refine L_val (R_loadH hAr rfl h2 n2) rfl rfl rfl ?_ | refine L_val (R_loadH hAr rfl h2' n2') rfl rfl rfl ?_) | (refine cL_lss ?_; refine L_valB (R_ltI rfl rfl) hb rfl rfl rfl ?_) | (refine cL_indexAddr ?_; refine L_valE (R_ia rfl rfl (by omega) (by omega)) (ia0 _ _) rfl rfl rfl ?_)) | refine r95 ?_))
      (refine G_drawX C.M (.op 0 (.op 1 (.op 2 (.op 3 (.op 4 (.op 5 (.op 6 (.op 7 (.op 8 (.op 9 (.op 10 (.op 11 (.op 12 (.op 13 (.op 14 (.op 15 (.op 16 (.op 17 (.op 18 (.op 19 (.op 20 (.op 21 (.op 22 (.op 23 (.op 24 (.op 25 (.op 26 (.op 27 (.op 28 (.op 29 (.op 30 (.op 31 (.op 32 (.op 33 (.op 34 (.op 35 (.op 36 (.op 37 (.op 38 (.op 39 (.op 40 (.op 41 (.op 42 (.op 43 (.op 44 (.op 45 (.op 46 (.op 47 (.op 48 (.op 49 (.op 50 (.op 51 .nil)))))))))))))))))))))))))))))))))))))))))))))))))))) [(49, 1)] follows (by kernel_rfl) ?_)
      (repeat (first | (refine cX_guard ?_; refine X_unwanted rfl rfl ?_) | (refine cX_load ?_; refine X_val0 (fun w he => R_loadB rfl (he.heap hbM h5r) rfl) rfl rfl ?_) | (refine cX_call ?_; first | refine X_callQ (fun w he => Is.qt (tag_any w (by omega) (hAgr w he) hx)) rfl ?_ | refine X_callQ (fun w he => Is.qt (tag_any w (by omega) (hAgr w he) hy)) rfl ?_ | refine X_callQ (fun w he => Is.qt (hbn ▸ sameId_any w (hAgr w he) hp hcn n3)) rfl ?_) | (refine cX_neq ?_; refine X_valE (fun _ _ => R_neS rfl rfl) (congrArg Value.bool hneT) rfl rfl ?_) | refine r98 hAgr ?_))
      refine X_call (Φ := fun w v w' => ∃ r s', v = .bool r ∧ (bif r then pre (i + 1) s' else Q false s') ∧ UW C s' (d + 1) w' ∧ Ext C.M w w') (fun w he => hih w (hwr.ext he)) rfl fun w4 v4 w5 he4 ⟨r, s1, hv4, hq, hw5, x5⟩ => ⟨x5, ?_⟩
      subst hv4
      have h55 := x5.heap hbM (he4.heap (fun x => x) h5r)
      have x35 : Ext C.M w w5 := hxr.trans (he4.of_no.trans x5)
      have hAg5 : ∀ w', Ext C.M w5 w' → Agree C.H w' := fun _ he => hw5.ag.ext he C.hH
      (refine r99 hAg5 ?_)
      refine X_nil fun w6 he6 => ?_
      cases r with
      | false =>
        (refine r94 ?_)
        refine G_ret ?_
        intro tmps htm
        exact nf_leave (fun w => ResV.tmp rfl _ w tmps htm) rfl (he6.heap (fun x => x) h55) (hw5.ext he6) (by omega) hq (x35.trans he6.of_no)
      | true =>
        (repeat (first | (refine cL ?_; first | (refine cL_guard ?_; refine L_unwanted rfl rfl rfl ?_) | (refine cL_add ?_; refine L_valE (R_addI rfl rfl) (succ_i64 h hbd) rfl rfl rfl ?_)) | refine r95 ?_))
        refine G_inv ⟨⟨rfl, _, i + 1, s1, with_self ⟨rfl, rfl, rfl, rfl, rfl, rfl, rfl, rfl, trivial⟩, h, hq, hw5.ext he6, x35.trans he6.of_no, he6.heap (fun x => x) h55⟩, ?_⟩
        show ((vs.length : Int) - ((i + 1 : Nat) : Int)).toNat < ((vs.length : Int) - (i : Int)).toNat
        omega
    · have hb : decide ((i : Int) < (vs.length : Int)) = false := decide_eq_false (by omega)
      have hil : i = vs.length := by omega
      subst hil
      (repeat (first | (refine cL ?_; first | (refine cL_guard ?_; refine L_unwanted rfl rfl rfl ?_) | (refine cL_lss ?_; refine L_valB (R_ltI rfl rfl) hb rfl rfl rfl ?_)) | refine G_exit rfl ?_ | refine r95 ?_))
      refine G_ret ?_
      intro tmps htm
      exact nf_leave (fun w => ResV.tmp rfl _ w tmps htm) rfl h5r hwr (by omega) (hend _ hpre) hxr

end Go.Proofs.YtjilnjifegeceaaGreatDoor

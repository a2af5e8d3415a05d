/-
  A part of the proof that laws.FnClosed returns true at every input: the walk's own rules and the contracts of functions, in build order.
  Its conditions are those of the statement: see the last text.
-/
import Derived.Test.YtjilnjifegeceaaGreatDoorFnClosedPartO

/-
  The unifier's 'nify', exactly, on two types whose heads differ: it says false.
-/
namespace Go.Proofs.YtjilnjifegeceaaGreatDoor
set_option maxRecDepth 100000
set_option maxHeartbeats 4000000
attribute [local irreducible] Calls execOp

variable {σ : Type} {C : UC σ} {s : σ} {d : Nat}

theorem nf_tupleNe {Q : Bool → σ → Prop} {vs vs' : List Value} {x y : Value} (hd : d + 1 ≤ 50) (hx : TupIs C.H vs x) (hy : TupIs C.H vs' y)
    (hne : vs.length ≠ vs'.length) (hq : Q false s) :
    Nf C 2 (.iface 115 x) (.iface 115 y) d s Q := by
  have hpl : ∀ {us : List Value} {z : Value}, TupIs C.H us z → ∃ q, z = .pointer q ∧ ∀ w, Agree C.H w → PLive w q := by
    rintro us z (⟨rfl, rfl⟩ | ⟨a, sl, rfl, h, -, -⟩)
    · exact ⟨none, rfl, fun _ _ => trivial⟩
    · exact ⟨_, rfl, fun w hA => hA.live ⟨_, _, _, h⟩⟩
  obtain ⟨qx, rfl, hlx⟩ := hpl hx
  obtain ⟨qy, rfl, hly⟩ := hpl hy
  have hqq : peq qx qy = false := by
    rcases hx with ⟨e1, e2⟩ | ⟨a, sl, e1, h1, h2, h3⟩
    · rcases hy with ⟨e3, e4⟩ | ⟨a', sl', e3, h1', h2', h3'⟩
      · rw [e2, e4] at hne; exact absurd rfl hne
      · injection e1 with e1; injection e3 with e3; subst e1; subst e3; rfl
    · rcases hy with ⟨e3, e4⟩ | ⟨a', sl', e3, h1', h2', h3'⟩
      · injection e1 with e1; injection e3 with e3; subst e1; subst e3; rfl
      · injection e1 with e1; injection e3 with e3; subst e1; subst e3
        refine peq_false fun e => ?_
        subst e
        exact hne (congrArg List.length (TupIs.same (.inr ⟨_, _, rfl, h1, h2, h3⟩) (.inr ⟨_, _, rfl, h1', h2', h3'⟩)))
  have e : (Nat.beq 115 115 && peq qx qy) = false := by rw [hqq, Bool.and_false]
  have en : ((vs.length : Int) == (vs'.length : Int)) = false := by simp; omega
  intro w hw
  have hub := hw.ub
  unfold UCells at hub
  have hinc : Value.int .i64 (IntKind.i64.wrap ((d : Int) + 1)) = .int .i64 ((d + 1 : Nat) : Int) := by rw [wrap_i64 (by omega) (by omega)]; rfl
  have hle : decide (((d + 1 : Nat) : Int) > 50) = false := decide_eq_false (by omega)
  have ene : (!(Nat.beq 115 115 && peq qx qy)) = true := by rw [e]; rfl
  unfold NfAt
  (refine calls_enter_d Tryz.func111 Tryz.ntmps111 rfl rfl ?_)
  (refine r94 ?_)
  refine L_box rfl rfl rfl fun b5 w1 hn1 => ?_
  have hub1 := hn1.ext.heap (fun x => x) hub
  have h51 := hn1.here
  (repeat (first | (refine cL ?_; first | (refine cL_guard ?_; refine L_unwanted rfl rfl rfl ?_) | (refine cL_add ?_; refine L_valE (R_addI rfl rfl) hinc rfl rfl rfl ?_)) | refine r95 ?_))
  refine L_store rfl hub1 rfl rfl rfl fun w2 hub2 e2 s2 => ?_
  have hb5 : b5 ≠ C.u := by have := lt_of_heap hub; have := hn1.fresh; omega
  have hbM : ¬ C.M b5 := fun x => by have := hw.ml _ x; have := hn1.fresh; omega
  have hw2 : UW C s (d + 1) w2 := (hw.ext hn1.ext).deep hub2 e2
  have x2 : Ext C.M w w2 := hn1.ext.of_no.trans (e2.mono fun i _ h => by rw [h]; exact C.hu)
  have h52 := e2.heap (fun x => hb5 x) h51
  clear hub1 h51 e2 hub2
  have hub2 := hw2.ub
  unfold UCells at hub2
  have hA := hw2.ag
  (repeat (first | (refine cL ?_; first | refine L_val (R_makeFunc (xs := [.tmp 5])) rfl rfl rfl ?_) | refine r95 ?_))
  refine L_defer (R_deferV rfl) rfl rfl ?_
  (repeat (first | (refine cL ?_; first | (refine cL_guard ?_; refine L_unwanted rfl rfl rfl ?_) | (refine cL_call ?_; first | refine L_callI (unalias_any _ _ _ rfl) rfl rfl ?_ | refine L_callI (asNamed_no _ _ _ rfl rfl) rfl rfl ?_ | refine L_callI (abtp_no _ _ _ _ rfl rfl) rfl rfl ?_) | (refine cL_eql ?_; refine L_valB (R_eqIf rfl rfl (hlx _ hA) (hly _ hA)) e rfl rfl rfl ?_) | (refine cL_gtr ?_; refine L_valB (R_gtI rfl rfl) hle rfl rfl rfl ?_) | (refine cL_and ?_; refine L_val (R_andI rfl rfl) rfl rfl rfl ?_)) | refine r95 ?_))
  (refine G_draw No (0 :: 1 :: 2 :: 3 :: 4 :: 5 :: 6 :: 7 :: []) [] follows (by kernel_rfl) rfl ?_)
  have hAg : ∀ w', Ext No w2 w' → Agree C.H w' := fun _ he => hA.ext0 he
  (repeat (first | (refine cD_guard ?_; refine D_unwanted rfl rfl ?_) | (refine cD_load ?_; refine D_val0 (fun w he => R_loadB rfl (he.heap (fun x => x) h52) rfl) rfl rfl ?_) | (refine cD_call ?_; refine D_callQ (fun w he => Is.qt (abtp_no _ _ _ _ rfl rfl)) rfl ?_) | refine r96 hAg ?_))
  refine D_nil fun w3 he3 => ?_
  refine G_frame (l := [(1, .iface 115 (.pointer qx)), (2, .iface 115 (.pointer qy)), (3, .int .u64 _), (4, .pointer none), (5, ptr b5), (12, .pointer none), (13, .pointer none)]) ⟨rfl, rfl, rfl, rfl, rfl, rfl, rfl, trivial⟩ fun f0 => ?_
  have hw3 := hw2.ext he3
  have h53 := he3.heap (fun x => x) h52
  have x3 : Ext C.M w w3 := x2.trans he3.of_no
  clear hub2
  have hub3 := hw3.ub
  unfold UCells at hub3
  have hA3 := hw3.ag
  have hAg3 : ∀ w', Ext C.M w3 w' → Agree C.H w' := fun _ he => hA3.ext he C.hH
  clear hAg hA hub h52
  (repeat (first | (refine cL ?_; first | (refine cL_guard ?_; refine L_unwanted rfl rfl rfl ?_) | (refine cL_call ?_; first | refine L_callI (unalias_any _ _ _ rfl) rfl rfl ?_ | refine L_callI (assert_true _) rfl rfl ?_ | refine L_callI (tupleLen_any _ hA3 hx) rfl rfl ?_ | refine L_callI (tupleLen_any _ hA3 hy) rfl rfl ?_ | refine L_callI (isTypeParam_no _ _ _ rfl rfl) rfl rfl ?_ | refine L_callI (asNamed_no _ _ _ rfl rfl) rfl rfl ?_) | (refine cL_eql ?_; refine L_valB (R_eqI rfl rfl) en rfl rfl rfl ?_) | (refine cL_neq ?_; refine L_valB (R_neIf rfl rfl (hlx _ hA3) (hly _ hA3)) ene rfl rfl rfl ?_) | (refine cL_and ?_; refine L_val (R_andI rfl rfl) rfl rfl rfl ?_) | (refine cL_or ?_; refine L_valE (R_orI rfl rfl) (v' := .int .u64 3) rfl rfl rfl rfl ?_)) | refine r95 ?_))
  refine G_ret ?_
  intro tmps htm
  exact nf_leave (fun w => ResV.tmp rfl _ w tmps htm) rfl h53 hw3 (by omega) hq x3

theorem nf_structNe {Q : Bool → σ → Prop} {a b : Nat} {vs vs' : List Value} {nms nms' : List ByteArray} {sl sl' : Value} (hd : d + 1 ≤ 50) (hx : C.H a = some (Ob [sl, .slice none 0 0] 184)) (hy : C.H b = some (Ob [sl', .slice none 0 0] 184)) (hs : VarSl C.H nms vs sl) (hs' : VarSl C.H nms' vs' sl')
    (e : (Nat.beq 111 111 && peq (some ⟨a, 0, none⟩) (some ⟨b, 0, none⟩)) = false) (hne : vs.length ≠ vs'.length) (hq : Q false s) :
    Nf C 2 (.iface 111 (ptr a)) (.iface 111 (ptr b)) d s Q := by
  have hl : LiveH C.H a := ⟨_, _, _, hx⟩
  have hl' : LiveH C.H b := ⟨_, _, _, hy⟩
  obtain ⟨b1, cap, xs, rfl, h2, h3⟩ := hs
  obtain ⟨b1', cap', xs', rfl, h2', h3'⟩ := hs'
  have en : ((vs.length : Int) == (vs'.length : Int)) = false := by simp; omega
  intro w hw
  have hub := hw.ub
  unfold UCells at hub
  have hinc : Value.int .i64 (IntKind.i64.wrap ((d : Int) + 1)) = .int .i64 ((d + 1 : Nat) : Int) := by rw [wrap_i64 (by omega) (by omega)]; rfl
  have hle : decide (((d + 1 : Nat) : Int) > 50) = false := decide_eq_false (by omega)
  have ene : (!(Nat.beq 111 111 && peq (some ⟨a, 0, none⟩) (some ⟨b, 0, none⟩))) = true := by rw [e]; rfl
  unfold NfAt
  (refine calls_enter_d Tryz.func111 Tryz.ntmps111 rfl rfl ?_)
  (refine r94 ?_)
  refine L_box rfl rfl rfl fun b5 w1 hn1 => ?_
  have hub1 := hn1.ext.heap (fun x => x) hub
  have h51 := hn1.here
  (repeat (first | (refine cL ?_; first | (refine cL_guard ?_; refine L_unwanted rfl rfl rfl ?_) | (refine cL_add ?_; refine L_valE (R_addI rfl rfl) hinc rfl rfl rfl ?_)) | refine r95 ?_))
  refine L_store rfl hub1 rfl rfl rfl fun w2 hub2 e2 s2 => ?_
  have hb5 : b5 ≠ C.u := by have := lt_of_heap hub; have := hn1.fresh; omega
  have hbM : ¬ C.M b5 := fun x => by have := hw.ml _ x; have := hn1.fresh; omega
  have hw2 : UW C s (d + 1) w2 := (hw.ext hn1.ext).deep hub2 e2
  have x2 : Ext C.M w w2 := hn1.ext.of_no.trans (e2.mono fun i _ h => by rw [h]; exact C.hu)
  have h52 := e2.heap (fun x => hb5 x) h51
  clear hub1 h51 e2 hub2
  have hub2 := hw2.ub
  unfold UCells at hub2
  have hA := hw2.ag
  (repeat (first | (refine cL ?_; first | refine L_val (R_makeFunc (xs := [.tmp 5])) rfl rfl rfl ?_) | refine r95 ?_))
  refine L_defer (R_deferV rfl) rfl rfl ?_
  (repeat (first | (refine cL ?_; first | (refine cL_guard ?_; refine L_unwanted rfl rfl rfl ?_) | (refine cL_call ?_; first | refine L_callI (unalias_any _ _ _ rfl) rfl rfl ?_ | refine L_callI (asNamed_no _ _ _ rfl rfl) rfl rfl ?_ | refine L_callI (abtp_no _ _ _ _ rfl rfl) rfl rfl ?_) | (refine cL_eql ?_; refine L_valB (R_eqIf rfl rfl (hA.live hl) (hA.live hl')) e rfl rfl rfl ?_) | (refine cL_gtr ?_; refine L_valB (R_gtI rfl rfl) hle rfl rfl rfl ?_) | (refine cL_and ?_; refine L_val (R_andI rfl rfl) rfl rfl rfl ?_)) | refine r95 ?_))
  (refine G_draw No (0 :: 1 :: 2 :: 3 :: 4 :: 5 :: 6 :: 7 :: []) [] follows (by kernel_rfl) rfl ?_)
  have hAg : ∀ w', Ext No w2 w' → Agree C.H w' := fun _ he => hA.ext0 he
  (repeat (first | (refine cD_guard ?_; refine D_unwanted rfl rfl ?_) | (refine cD_load ?_; refine D_val0 (fun w he => R_loadB rfl (he.heap (fun x => x) h52) rfl) rfl rfl ?_) | (refine cD_call ?_; refine D_callQ (fun w he => Is.qt (abtp_no _ _ _ _ rfl rfl)) rfl ?_) | refine r96 hAg ?_))
  refine D_nil fun w3 he3 => ?_
  refine G_frame (l := [(1, .iface 111 (ptr a)), (2, .iface 111 (ptr b)), (3, .int .u64 _), (4, .pointer none), (5, ptr b5), (12, .pointer none), (13, .pointer none)]) ⟨rfl, rfl, rfl, rfl, rfl, rfl, rfl, trivial⟩ fun f0 => ?_
  have hw3 := hw2.ext he3
  have h53 := he3.heap (fun x => x) h52
  have x3 : Ext C.M w w3 := x2.trans he3.of_no
  clear hub2
  have hub3 := hw3.ub
  unfold UCells at hub3
  have hA3 := hw3.ag
  have hAg3 : ∀ w', Ext C.M w3 w' → Agree C.H w' := fun _ he => hA3.ext he C.hH
  clear hAg hA hub h52
  (repeat (first | (refine cL ?_; first | (refine cL_guard ?_; refine L_unwanted rfl rfl rfl ?_) | (refine cL_call ?_; first | refine L_callI (unalias_any _ _ _ rfl) rfl rfl ?_ | refine L_callI (assert_true _) rfl rfl ?_ | refine L_callI (numFields_any _ hA3 hx) rfl rfl ?_ | refine L_callI (numFields_any _ hA3 hy) rfl rfl ?_ | refine L_callI (isTypeParam_no _ _ _ rfl rfl) rfl rfl ?_ | refine L_callI (asNamed_no _ _ _ rfl rfl) rfl rfl ?_) | (refine cL_eql ?_; refine L_valB (R_eqI rfl rfl) en rfl rfl rfl ?_) | (refine cL_neq ?_; refine L_valB (R_neIf rfl rfl (hA3.live hl) (hA3.live hl')) ene rfl rfl rfl ?_) | (refine cL_and ?_; refine L_val (R_andI rfl rfl) rfl rfl rfl ?_) | (refine cL_or ?_; refine L_valE (R_orI rfl rfl) (v' := .int .u64 3) rfl rfl rfl rfl ?_)) | refine r95 ?_))
  refine G_ret ?_
  intro tmps htm
  exact nf_leave (fun w => ResV.tmp rfl _ w tmps htm) rfl h53 hw3 (by omega) hq x3

theorem nf_namedNe {Q : Bool → σ → Prop} {a b : Nat} {vs vs' : List Value} (hd : d + 1 ≤ 50) (hx : ArgsOf C.H a vs') (hy : ArgsOf C.H b vs) (hl : LiveH C.H a) (hl' : LiveH C.H b)
    (e : (Nat.beq 80 80 && peq (some ⟨a, 0, none⟩) (some ⟨b, 0, none⟩)) = false) (hne : vs.length ≠ vs'.length) (hq : Q false s) :
    Nf C 2 (.iface 80 (ptr a)) (.iface 80 (ptr b)) d s Q := by
  obtain ⟨tx, px, capx, hx1, hx2, hx3⟩ := hx
  obtain ⟨ty', py, capy, hy1, hy2, hy3⟩ := hy
  have en : ((vs.length : Int) != (vs'.length : Int)) = true := by simp; omega
  intro w hw
  have hub := hw.ub
  unfold UCells at hub
  have hinc : Value.int .i64 (IntKind.i64.wrap ((d : Int) + 1)) = .int .i64 ((d + 1 : Nat) : Int) := by rw [wrap_i64 (by omega) (by omega)]; rfl
  have hle : decide (((d + 1 : Nat) : Int) > 50) = false := decide_eq_false (by omega)
  have ene : (!(Nat.beq 80 80 && peq (some ⟨b, 0, none⟩) (some ⟨a, 0, none⟩))) = true := by rw [peq_comm, e]; rfl
  unfold NfAt
  (refine calls_enter_d Tryz.func111 Tryz.ntmps111 rfl rfl ?_)
  (refine r94 ?_)
  refine L_box rfl rfl rfl fun b5 w1 hn1 => ?_
  have hub1 := hn1.ext.heap (fun x => x) hub
  have h51 := hn1.here
  (repeat (first | (refine cL ?_; first | (refine cL_guard ?_; refine L_unwanted rfl rfl rfl ?_) | (refine cL_add ?_; refine L_valE (R_addI rfl rfl) hinc rfl rfl rfl ?_)) | refine r95 ?_))
  refine L_store rfl hub1 rfl rfl rfl fun w2 hub2 e2 s2 => ?_
  have hb5 : b5 ≠ C.u := by have := lt_of_heap hub; have := hn1.fresh; omega
  have hbM : ¬ C.M b5 := fun x => by have := hw.ml _ x; have := hn1.fresh; omega
  have hw2 : UW C s (d + 1) w2 := (hw.ext hn1.ext).deep hub2 e2
  have x2 : Ext C.M w w2 := hn1.ext.of_no.trans (e2.mono fun i _ h => by rw [h]; exact C.hu)
  have h52 := e2.heap (fun x => hb5 x) h51
  clear hub1 h51 e2 hub2
  have hub2 := hw2.ub
  unfold UCells at hub2
  have hA := hw2.ag
  (repeat (first | (refine cL ?_; first | refine L_val (R_makeFunc (xs := [.tmp 5])) rfl rfl rfl ?_) | refine r95 ?_))
  refine L_defer (R_deferV rfl) rfl rfl ?_
  (repeat (first | (refine cL ?_; first | (refine cL_guard ?_; refine L_unwanted rfl rfl rfl ?_) | (refine cL_call ?_; first | refine L_callI (unalias_any _ _ _ rfl) rfl rfl ?_ | refine L_callI (asNamed_yes _ _) rfl rfl ?_ | refine L_callI (abtp_no _ _ _ _ rfl rfl) rfl rfl ?_ | refine L_callI (isTypeLit_named _ _) rfl rfl ?_) | (refine cL_eql ?_; refine L_valB (R_eqIf rfl rfl (hA.live hl) (hA.live hl')) e rfl rfl rfl ?_) | (refine cL_gtr ?_; refine L_valB (R_gtI rfl rfl) hle rfl rfl rfl ?_) | (refine cL_and ?_; refine L_val (R_andI rfl rfl) rfl rfl rfl ?_)) | refine r95 ?_))
  (refine G_draw No (0 :: 1 :: 2 :: 3 :: 4 :: 5 :: 6 :: 7 :: []) [] follows (by kernel_rfl) rfl ?_)
  have hAg : ∀ w', Ext No w2 w' → Agree C.H w' := fun _ he => hA.ext0 he
  (repeat (first | (refine cD_guard ?_; refine D_unwanted rfl rfl ?_) | (refine cD_load ?_; refine D_val0 (fun w he => R_loadB rfl (he.heap (fun x => x) h52) rfl) rfl rfl ?_) | (refine cD_call ?_; refine D_callQ (fun w he => Is.qt (abtp_no _ _ _ _ rfl rfl)) rfl ?_) | refine r96 hAg ?_))
  refine D_nil fun w3 he3 => ?_
  refine G_frame (l := [(1, .iface 80 (ptr b)), (2, .iface 80 (ptr a)), (3, .int .u64 _), (4, .pointer none), (5, ptr b5), (12, .pointer none), (13, .pointer none)]) ⟨rfl, rfl, rfl, rfl, rfl, rfl, rfl, trivial⟩ fun f0 => ?_
  have hw3 := hw2.ext he3
  have h53 := he3.heap (fun x => x) h52
  have x3 : Ext C.M w w3 := x2.trans he3.of_no
  clear hub2
  have hub3 := hw3.ub
  unfold UCells at hub3
  have hA3 := hw3.ag
  have hAg3 : ∀ w', Ext C.M w3 w' → Agree C.H w' := fun _ he => hA3.ext he C.hH
  clear hAg hA hub h52
  (repeat (first | (refine cL ?_; first | (refine cL_guard ?_; refine L_unwanted rfl rfl rfl ?_) | (refine cL_call ?_; first | refine L_callI (unalias_any _ _ _ rfl) rfl rfl ?_ | refine L_callI (assert_true _) rfl rfl ?_ | refine L_callI (hx1 _ hA3) rfl rfl ?_ | refine L_callI (hx2 _ hA3) rfl rfl ?_ | refine L_callI (hy1 _ hA3) rfl rfl ?_ | refine L_callI (hy2 _ hA3) rfl rfl ?_ | refine L_callI (isTypeParam_no _ _ _ rfl rfl) rfl rfl ?_ | refine L_callI (asNamed_yes _ _) rfl rfl ?_) | (refine cL_neq ?_; first | refine L_valB (R_neIf rfl rfl (hA3.live hl') (hA3.live hl)) ene rfl rfl rfl ?_ | refine L_valB (R_neI rfl rfl) en rfl rfl rfl ?_) | (refine cL_and ?_; refine L_val (R_andI rfl rfl) rfl rfl rfl ?_) | (refine cL_or ?_; refine L_valE (R_orI rfl rfl) (v' := .int .u64 3) rfl rfl rfl rfl ?_)) | refine r95 ?_))
  refine G_ret ?_
  intro tmps htm
  exact nf_leave (fun w => ResV.tmp rfl _ w tmps htm) rfl h53 hw3 (by omega) hq x3

end Go.Proofs.YtjilnjifegeceaaGreatDoor

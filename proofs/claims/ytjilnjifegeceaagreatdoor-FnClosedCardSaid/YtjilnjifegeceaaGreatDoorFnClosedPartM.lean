/-
  A part of the proof that laws.FnClosed returns true at every input: the walk's own rules and the contracts of functions, in build order.
  Its conditions are those of the statement: see the last text.
-/
import Derived.Test.YtjilnjifegeceaaGreatDoorFnClosedPartL

/-
  The unifier's 'nify', exactly, on two types whose heads differ: it says false.
-/
namespace Go.Proofs.YtjilnjifegeceaaGreatDoor
set_option maxRecDepth 100000
set_option maxHeartbeats 4000000
attribute [local irreducible] Calls execOp

variable {σ : Type} {C : UC σ} {s : σ} {d : Nat}

theorem nbeq_symm {a b : Nat} (h : Nat.beq a b = false) : Nat.beq b a = false := by
  cases hh : Nat.beq b a with
  | false => rfl
  | true =>
    have := Nat.eq_of_beq_eq_true hh
    subst this
    rw [nbeq_self] at h
    cases h

theorem nf_diff {T T2 a b : Nat} [PtrEq Tryz.prog T2] [CmpT Tryz.prog T2] (hT : litT T = true) (h12 : Nat.beq T T2 = false) (hTa : Nat.beq T2 258 = false) (hTp : Nat.beq T2 72 = false) (hTn : Nat.beq T2 80 = false) {Q : Bool → σ → Prop} (hd : d + 1 ≤ 50) (hl : LiveH C.H a) (hl' : LiveH C.H b) (hq : Q false s) : Nf C 2 (.iface T (ptr a)) (.iface T2 (ptr b)) d s Q := by
  intro w hw
  have hub := hw.ub
  unfold UCells at hub
  have hinc : Value.int .i64 (IntKind.i64.wrap ((d : Int) + 1)) = .int .i64 ((d + 1 : Nat) : Int) := by rw [wrap_i64 (by omega) (by omega)]; rfl
  have hle : decide (((d + 1 : Nat) : Int) > 50) = false := decide_eq_false (by omega)
  unfold NfAt
  simp only [litT, Bool.or_eq_true] at hT
  rcases hT with ((((((h | h) | h) | h) | h) | h) | h) | h <;> (have := Nat.eq_of_beq_eq_true h; subst this; clear h)
  all_goals
    have e0 : ∀ q, (Nat.beq _ T2 && q) = false := fun q => (congrArg (· && q) h12).trans rfl
    have ene : ∀ q, (!(Nat.beq _ T2 && q)) = true := fun q => congrArg (! ·) (e0 q)
    have h21 := nbeq_symm h12
    (refine calls_enter_d Tryz.func111 Tryz.ntmps111 rfl rfl ?_)
    (refine r94 ?_)
    refine L_box rfl rfl rfl fun b5 w1 hn1 => ?_
    have hub1 := hn1.ext.heap (fun x => x) hub
    have h51 := hn1.here
    (repeat (first | (refine cL ?_; first | (refine cL_guard ?_; refine L_unwanted rfl rfl rfl ?_) | (refine cL_add ?_; refine L_valE (R_addI rfl rfl) hinc rfl rfl rfl ?_)) | refine r95 ?_))
    refine L_store rfl hub1 rfl rfl rfl fun w2 hub2 e2 s2 => ?_
    have hb5 : b5 ≠ C.u := by have := lt_of_heap hub; have := hn1.fresh; omega
    have hw2 : UW C s (d + 1) w2 := (hw.ext hn1.ext).deep hub2 e2
    have x2 : Ext C.M w w2 := hn1.ext.of_no.trans (e2.mono fun i _ h => by rw [h]; exact C.hu)
    have h52 := e2.heap (fun x => hb5 x) h51
    clear hub1 h51 e2 hub2
    have hub2 := hw2.ub
    unfold UCells at hub2
    have hA := hw2.ag
    (repeat (first | (refine cL ?_; first | refine L_val (R_makeFunc (xs := [.tmp 5])) rfl rfl rfl ?_) | refine r95 ?_))
    refine L_defer (R_deferV rfl) rfl rfl ?_
    (repeat (first | (refine cL ?_; first | (refine cL_guard ?_; refine L_unwanted rfl rfl rfl ?_) | (refine cL_call ?_; first | refine L_callI (unalias_any _ _ _ rfl) rfl rfl ?_ | refine L_callI (unalias_any _ _ _ hTa) rfl rfl ?_ | refine L_callI (asNamed_no _ _ _ rfl rfl) rfl rfl ?_ | refine L_callI (asNamed_no _ _ _ hTa hTn) rfl rfl ?_ | refine L_callI (abtp_no _ _ _ _ rfl rfl) rfl rfl ?_ | refine L_callI (abtp_no _ _ _ _ hTa hTp) rfl rfl ?_) | (refine cL_eql ?_; refine L_valB (R_eqIf rfl rfl (hA.live hl) (hA.live hl')) (e0 _) rfl rfl rfl ?_) | (refine cL_gtr ?_; refine L_valB (R_gtI rfl rfl) hle rfl rfl rfl ?_) | (refine cL_and ?_; refine L_val (R_andI rfl rfl) rfl rfl rfl ?_)) | refine r95 ?_))
    (refine G_draw No (0 :: 1 :: 2 :: 3 :: 4 :: 5 :: 6 :: 7 :: []) [] follows (by kernel_rfl) rfl ?_)
    have hAg : ∀ w', Ext No w2 w' → Agree C.H w' := fun _ he => hA.ext0 he
    (repeat (first | (refine cD_guard ?_; refine D_unwanted rfl rfl ?_) | (refine cD_load ?_; refine D_val0 (fun w he => R_loadB rfl (he.heap (fun x => x) h52) rfl) rfl rfl ?_) | (refine cD_call ?_; first | refine D_callQ (fun w he => Is.qt (abtp_no _ _ _ _ rfl rfl)) rfl ?_ | refine D_callQ (fun w he => Is.qt (abtp_no _ _ _ _ hTa hTp)) rfl ?_) | refine r96 hAg ?_))
    refine D_nil fun w3 he3 => ?_
    refine G_frame (l := [(1, .iface _ (ptr a)), (2, .iface _ (ptr b)), (3, .int .u64 2), (4, .pointer none), (5, ptr b5), (12, .pointer none), (13, .pointer none)]) ⟨rfl, rfl, rfl, rfl, rfl, rfl, rfl, trivial⟩ fun f0 => ?_
    have hw3 := hw2.ext he3
    have h53 := he3.heap (fun x => x) h52
    have x3 : Ext C.M w w3 := x2.trans he3.of_no
    clear hub2
    have hub3 := hw3.ub
    unfold UCells at hub3
    have hA3 := hw3.ag
    clear hAg hA hub h52
    (repeat (first | (refine cL ?_; first | (refine cL_guard ?_; refine L_unwanted rfl rfl rfl ?_) | (refine cL_typeAssert ?_; refine L_val (R_taN rfl h21) rfl rfl rfl ?_) | (refine cL_call ?_; first | refine L_callI (unalias_any _ _ _ rfl) rfl rfl ?_ | refine L_callI (unalias_any _ _ _ hTa) rfl rfl ?_ | refine L_callI (assert_true _) rfl rfl ?_ | refine L_callI (isTypeParam_no _ _ _ hTa hTp) rfl rfl ?_) | (refine cL_neq ?_; refine L_valB (R_neIf rfl rfl (hA3.live hl) (hA3.live hl')) (ene _) rfl rfl rfl ?_) | (refine cL_and ?_; refine L_val (R_andI rfl rfl) rfl rfl rfl ?_)) | refine r95 ?_))
    refine G_ret ?_
    intro tmps htm
    exact nf_leave (fun w => ResV.tmp rfl _ w tmps htm) rfl h53 hw3 (by omega) hq x3

end Go.Proofs.YtjilnjifegeceaaGreatDoor

/-
  A part of the proof that laws.FnClosed returns true at every input: the walk's own rules and the contracts of functions, in build order.
  Its conditions are those of the statement: see the last text.
-/
import Derived.Test.YtjilnjifegeceaaGreatDoorFnClosedPartD

/-
  The unifier's 'nify' on two types of one kind, whatever it says of the parts.
-/
namespace Go.Proofs.YtjilnjifegeceaaGreatDoor
set_option maxRecDepth 100000
set_option maxHeartbeats 4000000
attribute [local irreducible] Calls execOp

theorem r94 {G G' : Prop} (k : G') (h : Hid G' → G := by intro k_; (repeat (first | (refine cL ?_; first | (refine cL_guard ?_; refine L_unwanted rfl rfl rfl ?_) | (refine cL_move ?_; refine L_val R_move rfl rfl rfl ?_) | (refine cL_load ?_; first | refine L_val (R_loadB rfl (by assumption) (by rfl)) rfl rfl rfl ?_ | refine L_val (R_loadH (by assumption) rfl (by assumption) (by rfl)) rfl rfl rfl ?_) | (refine cL_fieldAddr ?_; refine L_val (R_fa rfl) rfl rfl rfl ?_) | (refine cL_nilCheck ?_; refine L_val (R_nil rfl) rfl rfl rfl ?_) | (refine cL_assign ?_; refine L_val R_assign rfl rfl rfl ?_) | (refine cL_extract ?_; refine L_val (R_extract rfl rfl) rfl rfl rfl ?_) | (refine cL_typeAssert ?_; first | refine L_val (R_taY rfl) rfl rfl rfl ?_ | refine L_val (R_taN rfl rfl) rfl rfl rfl ?_ | refine L_val (R_taNil rfl) rfl rfl rfl ?_) | (refine cL_call ?_; refine L_val (R_len rfl) rfl rfl rfl ?_) | (refine cL_pick ?_; first | refine L_val (R_pickT rfl) rfl rfl rfl ?_ | refine L_val (R_pickF rfl) rfl rfl rfl ?_) | (refine cL_eql ?_; first | refine L_val (R_eqPN rfl rfl) rfl rfl rfl ?_ | refine L_val (R_eqI rfl rfl) rfl rfl rfl ?_ | refine L_val (R_eqB rfl rfl) rfl rfl rfl ?_ | refine L_val (R_eqIfN rfl rfl) rfl rfl rfl ?_ | refine L_val (R_eqIfNN rfl) rfl rfl rfl ?_) | (refine cL_neq ?_; first | refine L_val (R_nePN rfl rfl) rfl rfl rfl ?_ | refine L_val (R_neI rfl rfl) rfl rfl rfl ?_ | refine L_val (R_neB rfl rfl) rfl rfl rfl ?_ | refine L_val (R_neIfN rfl rfl) rfl rfl rfl ?_ | refine L_val (R_neIfNN rfl) rfl rfl rfl ?_) | (refine cL_lss ?_; refine L_val (R_ltI rfl rfl) rfl rfl rfl ?_) | (refine cL_makeInterface ?_; refine L_val R_mkI rfl rfl rfl ?_) | (refine cL_not ?_; refine L_val (R_not rfl) rfl rfl rfl ?_) | (refine cL_add ?_; refine L_val (R_addI rfl rfl) rfl rfl rfl ?_) | (refine cL_gtr ?_; refine L_val (R_gtI rfl rfl) rfl rfl rfl ?_) | refine L_nil ?_) | refine G_seq ?_ | refine G_region ?_ | refine G_skip ?_ | refine G_block ?_ | refine G_end ?_ | refine G_true rfl ?_ | refine G_false rfl ?_)); exact k_.out) : G := h ⟨k⟩
theorem r95 {G G' : Prop} (k : G') (h : Hid G' → G := by intro k_; (first | (refine cL ?_; first | (refine cL_guard ?_; refine L_unwanted rfl rfl rfl ?_) | (refine cL_move ?_; refine L_val R_move rfl rfl rfl ?_) | (refine cL_load ?_; first | refine L_val (R_loadB rfl (by assumption) (by rfl)) rfl rfl rfl ?_ | refine L_val (R_loadH (by assumption) rfl (by assumption) (by rfl)) rfl rfl rfl ?_) | (refine cL_fieldAddr ?_; refine L_val (R_fa rfl) rfl rfl rfl ?_) | (refine cL_nilCheck ?_; refine L_val (R_nil rfl) rfl rfl rfl ?_) | (refine cL_assign ?_; refine L_val R_assign rfl rfl rfl ?_) | (refine cL_extract ?_; refine L_val (R_extract rfl rfl) rfl rfl rfl ?_) | (refine cL_typeAssert ?_; first | refine L_val (R_taY rfl) rfl rfl rfl ?_ | refine L_val (R_taN rfl rfl) rfl rfl rfl ?_ | refine L_val (R_taNil rfl) rfl rfl rfl ?_) | (refine cL_call ?_; refine L_val (R_len rfl) rfl rfl rfl ?_) | (refine cL_pick ?_; first | refine L_val (R_pickT rfl) rfl rfl rfl ?_ | refine L_val (R_pickF rfl) rfl rfl rfl ?_) | (refine cL_eql ?_; first | refine L_val (R_eqPN rfl rfl) rfl rfl rfl ?_ | refine L_val (R_eqI rfl rfl) rfl rfl rfl ?_ | refine L_val (R_eqB rfl rfl) rfl rfl rfl ?_ | refine L_val (R_eqIfN rfl rfl) rfl rfl rfl ?_ | refine L_val (R_eqIfNN rfl) rfl rfl rfl ?_) | (refine cL_neq ?_; first | refine L_val (R_nePN rfl rfl) rfl rfl rfl ?_ | refine L_val (R_neI rfl rfl) rfl rfl rfl ?_ | refine L_val (R_neB rfl rfl) rfl rfl rfl ?_ | refine L_val (R_neIfN rfl rfl) rfl rfl rfl ?_ | refine L_val (R_neIfNN rfl) rfl rfl rfl ?_) | (refine cL_lss ?_; refine L_val (R_ltI rfl rfl) rfl rfl rfl ?_) | (refine cL_makeInterface ?_; refine L_val R_mkI rfl rfl rfl ?_) | (refine cL_not ?_; refine L_val (R_not rfl) rfl rfl rfl ?_) | (refine cL_add ?_; refine L_val (R_addI rfl rfl) rfl rfl rfl ?_) | (refine cL_gtr ?_; refine L_val (R_gtI rfl rfl) rfl rfl rfl ?_) | refine L_nil ?_) | refine G_seq ?_ | refine G_region ?_ | refine G_skip ?_ | refine G_block ?_ | refine G_end ?_ | refine G_true rfl ?_ | refine G_false rfl ?_); exact k_.out) : G := h ⟨k⟩
theorem r96 {G G' A : Prop} (ag : A) (k : G') (h : Hid G' → A → G := by intro k_ ag_; (first | (refine cD_guard ?_; refine D_unwanted rfl rfl ?_) | (refine cD_move ?_; refine D_val0 (fun _ _ => R_move) rfl rfl ?_) | (refine cD_load ?_; refine D_val0 (fun w he => R_loadH (ag_ w he) rfl (by assumption) (by rfl)) rfl rfl ?_) | (refine cD_fieldAddr ?_; refine D_val0 (fun _ _ => R_fa rfl) rfl rfl ?_) | (refine cD_nilCheck ?_; refine D_val0 (fun _ _ => R_nil rfl) rfl rfl ?_) | (refine cD_assign ?_; refine D_val0 (fun _ _ => R_assign) rfl rfl ?_) | (refine cD_extract ?_; refine D_val0 (fun _ _ => R_extract rfl rfl) rfl rfl ?_) | (refine cD_typeAssert ?_; first | refine D_val0 (fun _ _ => R_taY rfl) rfl rfl ?_ | refine D_val0 (fun _ _ => R_taN rfl rfl) rfl rfl ?_ | refine D_val0 (fun _ _ => R_taNil rfl) rfl rfl ?_) | (refine cD_call ?_; refine D_val0 (fun _ _ => R_len rfl) rfl rfl ?_) | (refine cD_pick ?_; first | refine D_val0 (fun _ _ => R_pickT rfl) rfl rfl ?_ | refine D_val0 (fun _ _ => R_pickF rfl) rfl rfl ?_) | (refine cD_eql ?_; first | refine D_val0 (fun _ _ => R_eqPN rfl rfl) rfl rfl ?_ | refine D_val0 (fun _ _ => R_eqI rfl rfl) rfl rfl ?_ | refine D_val0 (fun _ _ => R_eqB rfl rfl) rfl rfl ?_ | refine D_val0 (fun _ _ => R_eqIfN rfl rfl) rfl rfl ?_ | refine D_val0 (fun _ _ => R_eqIfNN rfl) rfl rfl ?_) | (refine cD_neq ?_; first | refine D_val0 (fun _ _ => R_nePN rfl rfl) rfl rfl ?_ | refine D_val0 (fun _ _ => R_neI rfl rfl) rfl rfl ?_ | refine D_val0 (fun _ _ => R_neB rfl rfl) rfl rfl ?_ | refine D_val0 (fun _ _ => R_neIfN rfl rfl) rfl rfl ?_ | refine D_val0 (fun _ _ => R_neIfNN rfl) rfl rfl ?_) | (refine cD_lss ?_; refine D_val0 (fun _ _ => R_ltI rfl rfl) rfl rfl ?_) | (refine cD_makeInterface ?_; refine D_val0 (fun _ _ => R_mkI) rfl rfl ?_) | (refine cD_not ?_; refine D_val0 (fun _ _ => R_not rfl) rfl rfl ?_) | (refine cD_add ?_; refine D_val0 (fun _ _ => R_addI rfl rfl) rfl rfl ?_) | (refine cD_gtr ?_; refine D_val0 (fun _ _ => R_gtI rfl rfl) rfl rfl ?_)); exact k_.out) : G := h ⟨k⟩ ag
theorem r97 {G G' A : Prop} (ag : A) (k : G') (h : Hid G' → A → G := by intro k_ ag_; (repeat (first | (refine cD_guard ?_; refine D_unwanted rfl rfl ?_) | (refine cD_move ?_; refine D_val0 (fun _ _ => R_move) rfl rfl ?_) | (refine cD_load ?_; refine D_val0 (fun w he => R_loadH (ag_ w he) rfl (by assumption) (by rfl)) rfl rfl ?_) | (refine cD_fieldAddr ?_; refine D_val0 (fun _ _ => R_fa rfl) rfl rfl ?_) | (refine cD_nilCheck ?_; refine D_val0 (fun _ _ => R_nil rfl) rfl rfl ?_) | (refine cD_assign ?_; refine D_val0 (fun _ _ => R_assign) rfl rfl ?_) | (refine cD_extract ?_; refine D_val0 (fun _ _ => R_extract rfl rfl) rfl rfl ?_) | (refine cD_typeAssert ?_; first | refine D_val0 (fun _ _ => R_taY rfl) rfl rfl ?_ | refine D_val0 (fun _ _ => R_taN rfl rfl) rfl rfl ?_ | refine D_val0 (fun _ _ => R_taNil rfl) rfl rfl ?_) | (refine cD_call ?_; refine D_val0 (fun _ _ => R_len rfl) rfl rfl ?_) | (refine cD_pick ?_; first | refine D_val0 (fun _ _ => R_pickT rfl) rfl rfl ?_ | refine D_val0 (fun _ _ => R_pickF rfl) rfl rfl ?_) | (refine cD_eql ?_; first | refine D_val0 (fun _ _ => R_eqPN rfl rfl) rfl rfl ?_ | refine D_val0 (fun _ _ => R_eqI rfl rfl) rfl rfl ?_ | refine D_val0 (fun _ _ => R_eqB rfl rfl) rfl rfl ?_ | refine D_val0 (fun _ _ => R_eqIfN rfl rfl) rfl rfl ?_ | refine D_val0 (fun _ _ => R_eqIfNN rfl) rfl rfl ?_) | (refine cD_neq ?_; first | refine D_val0 (fun _ _ => R_nePN rfl rfl) rfl rfl ?_ | refine D_val0 (fun _ _ => R_neI rfl rfl) rfl rfl ?_ | refine D_val0 (fun _ _ => R_neB rfl rfl) rfl rfl ?_ | refine D_val0 (fun _ _ => R_neIfN rfl rfl) rfl rfl ?_ | refine D_val0 (fun _ _ => R_neIfNN rfl) rfl rfl ?_) | (refine cD_lss ?_; refine D_val0 (fun _ _ => R_ltI rfl rfl) rfl rfl ?_) | (refine cD_makeInterface ?_; refine D_val0 (fun _ _ => R_mkI) rfl rfl ?_) | (refine cD_not ?_; refine D_val0 (fun _ _ => R_not rfl) rfl rfl ?_) | (refine cD_add ?_; refine D_val0 (fun _ _ => R_addI rfl rfl) rfl rfl ?_) | (refine cD_gtr ?_; refine D_val0 (fun _ _ => R_gtI rfl rfl) rfl rfl ?_))); exact k_.out) : G := h ⟨k⟩ ag
theorem r98 {G G' A : Prop} (ag : A) (k : G') (h : Hid G' → A → G := by intro k_ ag_; (first | (refine cX_guard ?_; refine X_unwanted rfl rfl ?_) | (refine cX_move ?_; first | refine X_val0 (fun _ _ => R_move) rfl rfl ?_ | refine X_pure (fun _ => R_move) rfl rfl ?_) | (refine cX_load ?_; refine X_val0 (fun w he => R_loadH (ag_ w he) rfl (by assumption) (by rfl)) rfl rfl ?_) | (refine cX_fieldAddr ?_; first | refine X_val0 (fun _ _ => R_fa rfl) rfl rfl ?_ | refine X_pure (fun _ => R_fa rfl) rfl rfl ?_) | (refine cX_nilCheck ?_; first | refine X_val0 (fun _ _ => R_nil rfl) rfl rfl ?_ | refine X_pure (fun _ => R_nil rfl) rfl rfl ?_) | (refine cX_assign ?_; first | refine X_val0 (fun _ _ => R_assign) rfl rfl ?_ | refine X_pure (fun _ => R_assign) rfl rfl ?_) | (refine cX_extract ?_; first | refine X_val0 (fun _ _ => R_extract rfl rfl) rfl rfl ?_ | refine X_pure (fun _ => R_extract rfl rfl) rfl rfl ?_) | (refine cX_typeAssert ?_; first | refine X_val0 (fun _ _ => R_taY rfl) rfl rfl ?_ | refine X_pure (fun _ => R_taY rfl) rfl rfl ?_ | refine X_val0 (fun _ _ => R_taN rfl rfl) rfl rfl ?_ | refine X_pure (fun _ => R_taN rfl rfl) rfl rfl ?_ | refine X_val0 (fun _ _ => R_taNil rfl) rfl rfl ?_ | refine X_pure (fun _ => R_taNil rfl) rfl rfl ?_) | (refine cX_call ?_; first | refine X_val0 (fun _ _ => R_len rfl) rfl rfl ?_ | refine X_pure (fun _ => R_len rfl) rfl rfl ?_) | (refine cX_pick ?_; first | refine X_val0 (fun _ _ => R_pickT rfl) rfl rfl ?_ | refine X_pure (fun _ => R_pickT rfl) rfl rfl ?_ | refine X_val0 (fun _ _ => R_pickF rfl) rfl rfl ?_ | refine X_pure (fun _ => R_pickF rfl) rfl rfl ?_) | (refine cX_eql ?_; first | refine X_val0 (fun _ _ => R_eqPN rfl rfl) rfl rfl ?_ | refine X_pure (fun _ => R_eqPN rfl rfl) rfl rfl ?_ | refine X_val0 (fun _ _ => R_eqI rfl rfl) rfl rfl ?_ | refine X_pure (fun _ => R_eqI rfl rfl) rfl rfl ?_ | refine X_val0 (fun _ _ => R_eqB rfl rfl) rfl rfl ?_ | refine X_pure (fun _ => R_eqB rfl rfl) rfl rfl ?_ | refine X_val0 (fun _ _ => R_eqIfN rfl rfl) rfl rfl ?_ | refine X_pure (fun _ => R_eqIfN rfl rfl) rfl rfl ?_ | refine X_val0 (fun _ _ => R_eqIfNN rfl) rfl rfl ?_ | refine X_pure (fun _ => R_eqIfNN rfl) rfl rfl ?_) | (refine cX_neq ?_; first | refine X_val0 (fun _ _ => R_nePN rfl rfl) rfl rfl ?_ | refine X_pure (fun _ => R_nePN rfl rfl) rfl rfl ?_ | refine X_val0 (fun _ _ => R_neI rfl rfl) rfl rfl ?_ | refine X_pure (fun _ => R_neI rfl rfl) rfl rfl ?_ | refine X_val0 (fun _ _ => R_neB rfl rfl) rfl rfl ?_ | refine X_pure (fun _ => R_neB rfl rfl) rfl rfl ?_ | refine X_val0 (fun _ _ => R_neIfN rfl rfl) rfl rfl ?_ | refine X_pure (fun _ => R_neIfN rfl rfl) rfl rfl ?_ | refine X_val0 (fun _ _ => R_neIfNN rfl) rfl rfl ?_ | refine X_pure (fun _ => R_neIfNN rfl) rfl rfl ?_) | (refine cX_lss ?_; first | refine X_val0 (fun _ _ => R_ltI rfl rfl) rfl rfl ?_ | refine X_pure (fun _ => R_ltI rfl rfl) rfl rfl ?_) | (refine cX_makeInterface ?_; first | refine X_val0 (fun _ _ => R_mkI) rfl rfl ?_ | refine X_pure (fun _ => R_mkI) rfl rfl ?_) | (refine cX_not ?_; first | refine X_val0 (fun _ _ => R_not rfl) rfl rfl ?_ | refine X_pure (fun _ => R_not rfl) rfl rfl ?_) | (refine cX_add ?_; first | refine X_val0 (fun _ _ => R_addI rfl rfl) rfl rfl ?_ | refine X_pure (fun _ => R_addI rfl rfl) rfl rfl ?_) | (refine cX_gtr ?_; first | refine X_val0 (fun _ _ => R_gtI rfl rfl) rfl rfl ?_ | refine X_pure (fun _ => R_gtI rfl rfl) rfl rfl ?_)); exact k_.out) : G := h ⟨k⟩ ag
theorem r99 {G G' A : Prop} (ag : A) (k : G') (h : Hid G' → A → G := by intro k_ ag_; (repeat (first | (refine cX_guard ?_; refine X_unwanted rfl rfl ?_) | (refine cX_move ?_; first | refine X_val0 (fun _ _ => R_move) rfl rfl ?_ | refine X_pure (fun _ => R_move) rfl rfl ?_) | (refine cX_load ?_; refine X_val0 (fun w he => R_loadH (ag_ w he) rfl (by assumption) (by rfl)) rfl rfl ?_) | (refine cX_fieldAddr ?_; first | refine X_val0 (fun _ _ => R_fa rfl) rfl rfl ?_ | refine X_pure (fun _ => R_fa rfl) rfl rfl ?_) | (refine cX_nilCheck ?_; first | refine X_val0 (fun _ _ => R_nil rfl) rfl rfl ?_ | refine X_pure (fun _ => R_nil rfl) rfl rfl ?_) | (refine cX_assign ?_; first | refine X_val0 (fun _ _ => R_assign) rfl rfl ?_ | refine X_pure (fun _ => R_assign) rfl rfl ?_) | (refine cX_extract ?_; first | refine X_val0 (fun _ _ => R_extract rfl rfl) rfl rfl ?_ | refine X_pure (fun _ => R_extract rfl rfl) rfl rfl ?_) | (refine cX_typeAssert ?_; first | refine X_val0 (fun _ _ => R_taY rfl) rfl rfl ?_ | refine X_pure (fun _ => R_taY rfl) rfl rfl ?_ | refine X_val0 (fun _ _ => R_taN rfl rfl) rfl rfl ?_ | refine X_pure (fun _ => R_taN rfl rfl) rfl rfl ?_ | refine X_val0 (fun _ _ => R_taNil rfl) rfl rfl ?_ | refine X_pure (fun _ => R_taNil rfl) rfl rfl ?_) | (refine cX_call ?_; first | refine X_val0 (fun _ _ => R_len rfl) rfl rfl ?_ | refine X_pure (fun _ => R_len rfl) rfl rfl ?_) | (refine cX_pick ?_; first | refine X_val0 (fun _ _ => R_pickT rfl) rfl rfl ?_ | refine X_pure (fun _ => R_pickT rfl) rfl rfl ?_ | refine X_val0 (fun _ _ => R_pickF rfl) rfl rfl ?_ | refine X_pure (fun _ => R_pickF rfl) rfl rfl ?_) | (refine cX_eql ?_; first | refine X_val0 (fun _ _ => R_eqPN rfl rfl) rfl rfl ?_ | refine X_pure (fun _ => R_eqPN rfl rfl) rfl rfl ?_ | refine X_val0 (fun _ _ => R_eqI rfl rfl) rfl rfl ?_ | refine X_pure (fun _ => R_eqI rfl rfl) rfl rfl ?_ | refine X_val0 (fun _ _ => R_eqB rfl rfl) rfl rfl ?_ | refine X_pure (fun _ => R_eqB rfl rfl) rfl rfl ?_ | refine X_val0 (fun _ _ => R_eqIfN rfl rfl) rfl rfl ?_ | refine X_pure (fun _ => R_eqIfN rfl rfl) rfl rfl ?_ | refine X_val0 (fun _ _ => R_eqIfNN rfl) rfl rfl ?_ | refine X_pure (fun _ => R_eqIfNN rfl) rfl rfl ?_) | (refine cX_neq ?_; first | refine X_val0 (fun _ _ => R_nePN rfl rfl) rfl rfl ?_ | refine X_pure (fun _ => R_nePN rfl rfl) rfl rfl ?_ | refine X_val0 (fun _ _ => R_neI rfl rfl) rfl rfl ?_ | refine X_pure (fun _ => R_neI rfl rfl) rfl rfl ?_ | refine X_val0 (fun _ _ => R_neB rfl rfl) rfl rfl ?_ | refine X_pure (fun _ => R_neB rfl rfl) rfl rfl ?_ | refine X_val0 (fun _ _ => R_neIfN rfl rfl) rfl rfl ?_ | refine X_pure (fun _ => R_neIfN rfl rfl) rfl rfl ?_ | refine X_val0 (fun _ _ => R_neIfNN rfl) rfl rfl ?_ | refine X_pure (fun _ => R_neIfNN rfl) rfl rfl ?_) | (refine cX_lss ?_; first | refine X_val0 (fun _ _ => R_ltI rfl rfl) rfl rfl ?_ | refine X_pure (fun _ => R_ltI rfl rfl) rfl rfl ?_) | (refine cX_makeInterface ?_; first | refine X_val0 (fun _ _ => R_mkI) rfl rfl ?_ | refine X_pure (fun _ => R_mkI) rfl rfl ?_) | (refine cX_not ?_; first | refine X_val0 (fun _ _ => R_not rfl) rfl rfl ?_ | refine X_pure (fun _ => R_not rfl) rfl rfl ?_) | (refine cX_add ?_; first | refine X_val0 (fun _ _ => R_addI rfl rfl) rfl rfl ?_ | refine X_pure (fun _ => R_addI rfl rfl) rfl rfl ?_) | (refine cX_gtr ?_; first | refine X_val0 (fun _ _ => R_gtI rfl rfl) rfl rfl ?_ | refine X_pure (fun _ => R_gtI rfl rfl) rfl rfl ?_))); exact k_.out) : G := h ⟨k⟩ ag

variable {σ : Type} {C : UC σ} {s : σ} {d : Nat}

theorem nf_eq {Q : Bool → σ → Prop} {m : Int} {T T' : Nat} {a b : Option Addr} [PtrEq Tryz.prog T] [CmpT Tryz.prog T] (hd : d + 1 ≤ 50) (ha : a = none ∨ ∃ b0, a = some ⟨b0, 0, none⟩ ∧ LiveH C.H b0) (hb : b = none ∨ ∃ b0, b = some ⟨b0, 0, none⟩ ∧ LiveH C.H b0)
    (e : (Nat.beq T T' && peq a b) = true) (hq : Q true s) : Nf C m (.iface T (.pointer a)) (.iface T' (.pointer b)) d s Q := by
  intro w hw
  have hub := hw.ub
  unfold UCells at hub
  have hinc : Value.int .i64 (IntKind.i64.wrap ((d : Int) + 1)) = .int .i64 ((d + 1 : Nat) : Int) := by rw [wrap_i64 (by omega) (by omega)]; rfl
  unfold NfAt
  (refine calls_enter_d Tryz.func111 Tryz.ntmps111 rfl rfl ?_)
  (refine r94 ?_)
  refine L_box rfl rfl rfl fun b5 w1 hn1 => ?_
  have hub1 := hn1.ext.heap (fun x => x) hub
  have h51 := hn1.here
  (repeat (first | (refine cL ?_; first | (refine cL_guard ?_; refine L_unwanted rfl rfl rfl ?_) | (refine cL_add ?_; refine L_valE (R_addI rfl rfl) hinc rfl rfl rfl ?_)) | refine r95 ?_))
  refine L_store rfl hub1 rfl rfl rfl fun w2 hub2 e2 s2 => ?_
  have hb5 : b5 ≠ C.u := by have := lt_of_heap hub; have := hn1.fresh; omega
  have hw2 : UW C s (d + 1) w2 := (hw.ext hn1.ext).deep hub2 e2
  have x2 : Ext C.M w w2 := hn1.ext.of_no.trans (e2.mono fun i _ h => by rw [h]; exact C.hu)
  have h52 := e2.heap (fun x => hb5 x) h51
  have hpl : ∀ {a : Option Addr}, (a = none ∨ ∃ b0, a = some ⟨b0, 0, none⟩ ∧ LiveH C.H b0) → PLive w2 a := by
    rintro _ (rfl | ⟨b0, rfl, h⟩)
    · trivial
    · exact hw2.ag.live h
  (repeat (first | (refine cL ?_; first | refine L_val (R_makeFunc (xs := [.tmp 5])) rfl rfl rfl ?_) | refine r95 ?_))
  refine L_defer (R_deferV rfl) rfl rfl ?_
  (repeat (first | (refine cL ?_; first | (refine cL_guard ?_; refine L_unwanted rfl rfl rfl ?_) | (refine cL_eql ?_; refine L_valB (R_eqIf rfl rfl (hpl ha) (hpl hb)) e rfl rfl rfl ?_)) | refine r95 ?_))
  refine G_ret ?_
  intro tmps htm
  exact nf_leave (fun w => ResV.tmp rfl _ w tmps htm) rfl h52 hw2 (by omega) hq x2

theorem nf_basic {Q : Bool → σ → Prop} {m m' : Int} {a b : Nat} {n n' : Int} {i1 i2 j1 j2 : Value} (hm : Md m m') (hd : d + 1 ≤ 50) (hx : C.H a = some (Ob [.int .i64 n, i1, i2] 173)) (hy : C.H b = some (Ob [.int .i64 n', j1, j2] 173))
    (e : (Nat.beq 156 156 && peq (some ⟨a, 0, none⟩) (some ⟨b, 0, none⟩)) = false) (hq : Q (n == n') s) :
    Nf C m (.iface 156 (ptr a)) (.iface 156 (ptr b)) d s Q := by
  have hl : LiveH C.H a := ⟨_, _, _, hx⟩
  have hl' : LiveH C.H b := ⟨_, _, _, hy⟩
  intro w hw
  have hub := hw.ub
  unfold UCells at hub
  have hinc : Value.int .i64 (IntKind.i64.wrap ((d : Int) + 1)) = .int .i64 ((d + 1 : Nat) : Int) := by rw [wrap_i64 (by omega) (by omega)]; rfl
  have hle : decide (((d + 1 : Nat) : Int) > 50) = false := decide_eq_false (by omega)
  have ene : (!(Nat.beq 156 156 && peq (some ⟨a, 0, none⟩) (some ⟨b, 0, none⟩))) = true := by rw [e]; rfl
  unfold NfAt
  rcases hm with ⟨rfl, rfl⟩ | ⟨rfl, rfl⟩ | ⟨rfl, rfl⟩ | ⟨rfl, rfl⟩
  all_goals
    (refine calls_enter_d Tryz.func111 Tryz.ntmps111 rfl rfl ?_)
    (refine r94 ?_)
    refine L_box rfl rfl rfl fun b5 w1 hn1 => ?_
    have hub1 := hn1.ext.heap (fun x => x) hub
    have h51 := hn1.here
    (repeat (first | (refine cL ?_; first | (refine cL_guard ?_; refine L_unwanted rfl rfl rfl ?_) | (refine cL_add ?_; refine L_valE (R_addI rfl rfl) hinc rfl rfl rfl ?_)) | refine r95 ?_))
    refine L_store rfl hub1 rfl rfl rfl fun w2 hub2 e2 s2 => ?_
    have hb5 : b5 ≠ C.u := by have := lt_of_heap hub; have := hn1.fresh; omega
    have hbM : ¬ C.M b5 := fun x => by have := hw.ml _ x; have := hn1.fresh; omega
    have hw2 : UW C s (d + 1) w2 := (hw.ext hn1.ext).deep hub2 e2
    have x2 : Ext C.M w w2 := hn1.ext.of_no.trans (e2.mono fun i _ h => by rw [h]; exact C.hu)
    have h52 := e2.heap (fun x => hb5 x) h51
    clear hub1 h51 e2 hub2
    have hub2 := hw2.ub
    unfold UCells at hub2
    have hA := hw2.ag
    (repeat (first | (refine cL ?_; first | refine L_val (R_makeFunc (xs := [.tmp 5])) rfl rfl rfl ?_) | refine r95 ?_))
    refine L_defer (R_deferV rfl) rfl rfl ?_
    (repeat (first | (refine cL ?_; first | (refine cL_guard ?_; refine L_unwanted rfl rfl rfl ?_) | (refine cL_call ?_; first | refine L_callI (unalias_any _ _ _ rfl) rfl rfl ?_ | refine L_callI (asNamed_no _ _ _ rfl rfl) rfl rfl ?_ | refine L_callI (abtp_no _ _ _ _ rfl rfl) rfl rfl ?_) | (refine cL_eql ?_; refine L_valB (R_eqIf rfl rfl (hA.live hl) (hA.live hl')) e rfl rfl rfl ?_) | (refine cL_gtr ?_; refine L_valB (R_gtI rfl rfl) hle rfl rfl rfl ?_) | (refine cL_and ?_; refine L_val (R_andI rfl rfl) rfl rfl rfl ?_)) | refine r95 ?_))
    (refine G_draw No (0 :: 1 :: 2 :: 3 :: 4 :: 5 :: 6 :: 7 :: []) [] follows (by kernel_rfl) rfl ?_)
    have hAg : ∀ w', Ext No w2 w' → Agree C.H w' := fun _ he => hA.ext0 he
    (repeat (first | (refine cD_guard ?_; refine D_unwanted rfl rfl ?_) | (refine cD_load ?_; refine D_val0 (fun w he => R_loadB rfl (he.heap (fun x => x) h52) rfl) rfl rfl ?_) | (refine cD_call ?_; refine D_callQ (fun w he => Is.qt (abtp_no _ _ _ _ rfl rfl)) rfl ?_) | refine r96 hAg ?_))
    refine D_nil fun w3 he3 => ?_
    refine G_frame (l := [(1, .iface 156 (ptr a)), (2, .iface 156 (ptr b)), (3, .int .u64 _), (4, .pointer none), (5, ptr b5), (12, .pointer none), (13, .pointer none)]) ⟨rfl, rfl, rfl, rfl, rfl, rfl, rfl, trivial⟩ fun f0 => ?_
    have hw3 := hw2.ext he3
    have h53 := he3.heap (fun x => x) h52
    have x3 : Ext C.M w w3 := x2.trans he3.of_no
    clear hub2
    have hub3 := hw3.ub
    unfold UCells at hub3
    have hA3 := hw3.ag
    have hAg3 : ∀ w', Ext C.M w3 w' → Agree C.H w' := fun _ he => hA3.ext he C.hH
    clear hAg hA hub h52
    (repeat (first | (refine cL ?_; first | (refine cL_guard ?_; refine L_unwanted rfl rfl rfl ?_) | (refine cL_call ?_; first | refine L_callI (unalias_any _ _ _ rfl) rfl rfl ?_ | refine L_callI (assert_true _) rfl rfl ?_ | refine L_callI (isTypeParam_no _ _ _ rfl rfl) rfl rfl ?_ | refine L_callI (asNamed_no _ _ _ rfl rfl) rfl rfl ?_) | (refine cL_neq ?_; refine L_valB (R_neIf rfl rfl (hA3.live hl) (hA3.live hl')) ene rfl rfl rfl ?_) | (refine cL_and ?_; refine L_val (R_andI rfl rfl) rfl rfl rfl ?_) | (refine cL_or ?_; refine L_valE (R_orI rfl rfl) (v' := .int .u64 3) rfl rfl rfl rfl ?_)) | refine r95 ?_))
    (refine G_draw No (0 :: 1 :: 2 :: 3 :: 4 :: 5 :: 6 :: 7 :: 8 :: 9 :: []) [] follows (by kernel_rfl) rfl ?_)
    have hAg : ∀ w', Ext No w3 w' → Agree C.H w' := fun _ he => hA3.ext0 he
    (refine r97 hAg ?_)
    refine D_nil fun w4 he4 => ?_
    (refine r94 ?_)
    refine G_ret ?_
    intro tmps htm
    exact nf_leave (fun w => ResV.tmp rfl _ w tmps htm) rfl (he4.heap (fun x => x) h53) (hw3.ext he4) (by omega) hq (x3.trans he4.of_no)

theorem nf_pointer {Q : Bool → σ → Prop} {m m' : Int} {a b : Nat} {v v' : Value} (hm : Md m m') (hd : d + 1 ≤ 50) (hx : C.H a = some (Ob [v] 191)) (hy : C.H b = some (Ob [v'] 191))
    (e : (Nat.beq 95 95 && peq (some ⟨a, 0, none⟩) (some ⟨b, 0, none⟩)) = false) (ih : Nf C m' v v' (d + 1) s Q) :
    Nf C m (.iface 95 (ptr a)) (.iface 95 (ptr b)) d s Q := by
  have hl : LiveH C.H a := ⟨_, _, _, hx⟩
  have hl' : LiveH C.H b := ⟨_, _, _, hy⟩
  intro w hw
  have hub := hw.ub
  unfold UCells at hub
  have hinc : Value.int .i64 (IntKind.i64.wrap ((d : Int) + 1)) = .int .i64 ((d + 1 : Nat) : Int) := by rw [wrap_i64 (by omega) (by omega)]; rfl
  have hle : decide (((d + 1 : Nat) : Int) > 50) = false := decide_eq_false (by omega)
  have ene : (!(Nat.beq 95 95 && peq (some ⟨a, 0, none⟩) (some ⟨b, 0, none⟩))) = true := by rw [e]; rfl
  unfold NfAt
  rcases hm with ⟨rfl, rfl⟩ | ⟨rfl, rfl⟩ | ⟨rfl, rfl⟩ | ⟨rfl, rfl⟩
  all_goals
    (refine calls_enter_d Tryz.func111 Tryz.ntmps111 rfl rfl ?_)
    (refine r94 ?_)
    refine L_box rfl rfl rfl fun b5 w1 hn1 => ?_
    have hub1 := hn1.ext.heap (fun x => x) hub
    have h51 := hn1.here
    (repeat (first | (refine cL ?_; first | (refine cL_guard ?_; refine L_unwanted rfl rfl rfl ?_) | (refine cL_add ?_; refine L_valE (R_addI rfl rfl) hinc rfl rfl rfl ?_)) | refine r95 ?_))
    refine L_store rfl hub1 rfl rfl rfl fun w2 hub2 e2 s2 => ?_
    have hb5 : b5 ≠ C.u := by have := lt_of_heap hub; have := hn1.fresh; omega
    have hbM : ¬ C.M b5 := fun x => by have := hw.ml _ x; have := hn1.fresh; omega
    have hw2 : UW C s (d + 1) w2 := (hw.ext hn1.ext).deep hub2 e2
    have x2 : Ext C.M w w2 := hn1.ext.of_no.trans (e2.mono fun i _ h => by rw [h]; exact C.hu)
    have h52 := e2.heap (fun x => hb5 x) h51
    clear hub1 h51 e2 hub2
    have hub2 := hw2.ub
    unfold UCells at hub2
    have hA := hw2.ag
    (repeat (first | (refine cL ?_; first | refine L_val (R_makeFunc (xs := [.tmp 5])) rfl rfl rfl ?_) | refine r95 ?_))
    refine L_defer (R_deferV rfl) rfl rfl ?_
    (repeat (first | (refine cL ?_; first | (refine cL_guard ?_; refine L_unwanted rfl rfl rfl ?_) | (refine cL_call ?_; first | refine L_callI (unalias_any _ _ _ rfl) rfl rfl ?_ | refine L_callI (asNamed_no _ _ _ rfl rfl) rfl rfl ?_ | refine L_callI (abtp_no _ _ _ _ rfl rfl) rfl rfl ?_) | (refine cL_eql ?_; refine L_valB (R_eqIf rfl rfl (hA.live hl) (hA.live hl')) e rfl rfl rfl ?_) | (refine cL_gtr ?_; refine L_valB (R_gtI rfl rfl) hle rfl rfl rfl ?_) | (refine cL_and ?_; refine L_val (R_andI rfl rfl) rfl rfl rfl ?_)) | refine r95 ?_))
    (refine G_draw No (0 :: 1 :: 2 :: 3 :: 4 :: 5 :: 6 :: 7 :: []) [] follows (by kernel_rfl) rfl ?_)
    have hAg : ∀ w', Ext No w2 w' → Agree C.H w' := fun _ he => hA.ext0 he
    (repeat (first | (refine cD_guard ?_; refine D_unwanted rfl rfl ?_) | (refine cD_load ?_; refine D_val0 (fun w he => R_loadB rfl (he.heap (fun x => x) h52) rfl) rfl rfl ?_) | (refine cD_call ?_; refine D_callQ (fun w he => Is.qt (abtp_no _ _ _ _ rfl rfl)) rfl ?_) | refine r96 hAg ?_))
    refine D_nil fun w3 he3 => ?_
    refine G_frame (l := [(1, .iface 95 (ptr a)), (2, .iface 95 (ptr b)), (3, .int .u64 _), (4, .pointer none), (5, ptr b5), (12, .pointer none), (13, .pointer none)]) ⟨rfl, rfl, rfl, rfl, rfl, rfl, rfl, trivial⟩ fun f0 => ?_
    have hw3 := hw2.ext he3
    have h53 := he3.heap (fun x => x) h52
    have x3 : Ext C.M w w3 := x2.trans he3.of_no
    clear hub2
    have hub3 := hw3.ub
    unfold UCells at hub3
    have hA3 := hw3.ag
    have hAg3 : ∀ w', Ext C.M w3 w' → Agree C.H w' := fun _ he => hA3.ext he C.hH
    clear hAg hA hub h52
    (repeat (first | (refine cL ?_; first | (refine cL_guard ?_; refine L_unwanted rfl rfl rfl ?_) | (refine cL_call ?_; first | refine L_callI (unalias_any _ _ _ rfl) rfl rfl ?_ | refine L_callI (assert_true _) rfl rfl ?_ | refine L_callI (isTypeParam_no _ _ _ rfl rfl) rfl rfl ?_ | refine L_callI (asNamed_no _ _ _ rfl rfl) rfl rfl ?_) | (refine cL_neq ?_; refine L_valB (R_neIf rfl rfl (hA3.live hl) (hA3.live hl')) ene rfl rfl rfl ?_) | (refine cL_and ?_; refine L_val (R_andI rfl rfl) rfl rfl rfl ?_) | (refine cL_or ?_; refine L_valE (R_orI rfl rfl) (v' := .int .u64 3) rfl rfl rfl rfl ?_)) | refine r95 ?_))
    refine G_frame (l := [(3, .int .u64 _), (4, .pointer none), (5, ptr b5), (42, .int .u64 _), (59, ptr a), (60, ptr b)]) ⟨rfl, rfl, rfl, rfl, rfl, rfl, trivial⟩ fun f0 => ?_
    (refine G_drawX C.M (.op 0 (.op 1 (.op 2 (.op 3 (.op 4 (.op 5 (.op 6 (.op 7 (.op 8 (.op 9 (.op 10 (.op 11 (.op 12 .nil))))))))))))) [(11, 1)] follows (by kernel_rfl) ?_)
    (repeat (first | (refine cX_guard ?_; refine X_unwanted rfl rfl ?_) | (refine cX_load ?_; refine X_val0 (fun w he => R_loadB rfl (he.heap hbM h53) rfl) rfl rfl ?_) | refine r98 hAg3 ?_))
    refine X_call (Φ := fun w v w' => ∃ r s', v = .bool r ∧ Q r s' ∧ UW C s' (d + 1) w' ∧ Ext C.M w w') (fun w he => ih w (hw3.ext he)) rfl fun w4 v w5 he4 ⟨r, s', hv, hq, hw5, x5⟩ => ⟨x5, ?_⟩
    subst hv
    (refine r99 hAg3 ?_)
    refine X_nil fun w6 he6 => ?_
    (refine r94 ?_)
    refine G_ret ?_
    intro tmps htm
    exact nf_leave (fun w => ResV.tmp rfl _ w tmps htm) rfl (he6.heap (fun x => x) (x5.heap hbM (he4.heap (fun x => x) h53))) (hw5.ext he6) (by omega) hq (x3.trans (he4.of_no.trans (x5.trans he6.of_no)))

theorem nf_slice {Q : Bool → σ → Prop} {m m' : Int} {a b : Nat} {v v' : Value} (hm : Md m m') (hd : d + 1 ≤ 50) (hx : C.H a = some (Ob [v] 179)) (hy : C.H b = some (Ob [v'] 179))
    (e : (Nat.beq 97 97 && peq (some ⟨a, 0, none⟩) (some ⟨b, 0, none⟩)) = false) (ih : Nf C m' v v' (d + 1) s Q) :
    Nf C m (.iface 97 (ptr a)) (.iface 97 (ptr b)) d s Q := by
  have hl : LiveH C.H a := ⟨_, _, _, hx⟩
  have hl' : LiveH C.H b := ⟨_, _, _, hy⟩
  intro w hw
  have hub := hw.ub
  unfold UCells at hub
  have hinc : Value.int .i64 (IntKind.i64.wrap ((d : Int) + 1)) = .int .i64 ((d + 1 : Nat) : Int) := by rw [wrap_i64 (by omega) (by omega)]; rfl
  have hle : decide (((d + 1 : Nat) : Int) > 50) = false := decide_eq_false (by omega)
  have ene : (!(Nat.beq 97 97 && peq (some ⟨a, 0, none⟩) (some ⟨b, 0, none⟩))) = true := by rw [e]; rfl
  unfold NfAt
  rcases hm with ⟨rfl, rfl⟩ | ⟨rfl, rfl⟩ | ⟨rfl, rfl⟩ | ⟨rfl, rfl⟩
  all_goals
    (refine calls_enter_d Tryz.func111 Tryz.ntmps111 rfl rfl ?_)
    (refine r94 ?_)
    refine L_box rfl rfl rfl fun b5 w1 hn1 => ?_
    have hub1 := hn1.ext.heap (fun x => x) hub
    have h51 := hn1.here
    (repeat (first | (refine cL ?_; first | (refine cL_guard ?_; refine L_unwanted rfl rfl rfl ?_) | (refine cL_add ?_; refine L_valE (R_addI rfl rfl) hinc rfl rfl rfl ?_)) | refine r95 ?_))
    refine L_store rfl hub1 rfl rfl rfl fun w2 hub2 e2 s2 => ?_
    have hb5 : b5 ≠ C.u := by have := lt_of_heap hub; have := hn1.fresh; omega
    have hbM : ¬ C.M b5 := fun x => by have := hw.ml _ x; have := hn1.fresh; omega
    have hw2 : UW C s (d + 1) w2 := (hw.ext hn1.ext).deep hub2 e2
    have x2 : Ext C.M w w2 := hn1.ext.of_no.trans (e2.mono fun i _ h => by rw [h]; exact C.hu)
    have h52 := e2.heap (fun x => hb5 x) h51
    clear hub1 h51 e2 hub2
    have hub2 := hw2.ub
    unfold UCells at hub2
    have hA := hw2.ag
    (repeat (first | (refine cL ?_; first | refine L_val (R_makeFunc (xs := [.tmp 5])) rfl rfl rfl ?_) | refine r95 ?_))
    refine L_defer (R_deferV rfl) rfl rfl ?_
    (repeat (first | (refine cL ?_; first | (refine cL_guard ?_; refine L_unwanted rfl rfl rfl ?_) | (refine cL_call ?_; first | refine L_callI (unalias_any _ _ _ rfl) rfl rfl ?_ | refine L_callI (asNamed_no _ _ _ rfl rfl) rfl rfl ?_ | refine L_callI (abtp_no _ _ _ _ rfl rfl) rfl rfl ?_) | (refine cL_eql ?_; refine L_valB (R_eqIf rfl rfl (hA.live hl) (hA.live hl')) e rfl rfl rfl ?_) | (refine cL_gtr ?_; refine L_valB (R_gtI rfl rfl) hle rfl rfl rfl ?_) | (refine cL_and ?_; refine L_val (R_andI rfl rfl) rfl rfl rfl ?_)) | refine r95 ?_))
    (refine G_draw No (0 :: 1 :: 2 :: 3 :: 4 :: 5 :: 6 :: 7 :: []) [] follows (by kernel_rfl) rfl ?_)
    have hAg : ∀ w', Ext No w2 w' → Agree C.H w' := fun _ he => hA.ext0 he
    (repeat (first | (refine cD_guard ?_; refine D_unwanted rfl rfl ?_) | (refine cD_load ?_; refine D_val0 (fun w he => R_loadB rfl (he.heap (fun x => x) h52) rfl) rfl rfl ?_) | (refine cD_call ?_; refine D_callQ (fun w he => Is.qt (abtp_no _ _ _ _ rfl rfl)) rfl ?_) | refine r96 hAg ?_))
    refine D_nil fun w3 he3 => ?_
    refine G_frame (l := [(1, .iface 97 (ptr a)), (2, .iface 97 (ptr b)), (3, .int .u64 _), (4, .pointer none), (5, ptr b5), (12, .pointer none), (13, .pointer none)]) ⟨rfl, rfl, rfl, rfl, rfl, rfl, rfl, trivial⟩ fun f0 => ?_
    have hw3 := hw2.ext he3
    have h53 := he3.heap (fun x => x) h52
    have x3 : Ext C.M w w3 := x2.trans he3.of_no
    clear hub2
    have hub3 := hw3.ub
    unfold UCells at hub3
    have hA3 := hw3.ag
    have hAg3 : ∀ w', Ext C.M w3 w' → Agree C.H w' := fun _ he => hA3.ext he C.hH
    clear hAg hA hub h52
    (repeat (first | (refine cL ?_; first | (refine cL_guard ?_; refine L_unwanted rfl rfl rfl ?_) | (refine cL_call ?_; first | refine L_callI (unalias_any _ _ _ rfl) rfl rfl ?_ | refine L_callI (assert_true _) rfl rfl ?_ | refine L_callI (isTypeParam_no _ _ _ rfl rfl) rfl rfl ?_ | refine L_callI (asNamed_no _ _ _ rfl rfl) rfl rfl ?_) | (refine cL_neq ?_; refine L_valB (R_neIf rfl rfl (hA3.live hl) (hA3.live hl')) ene rfl rfl rfl ?_) | (refine cL_and ?_; refine L_val (R_andI rfl rfl) rfl rfl rfl ?_) | (refine cL_or ?_; refine L_valE (R_orI rfl rfl) (v' := .int .u64 3) rfl rfl rfl rfl ?_)) | refine r95 ?_))
    refine G_frame (l := [(3, .int .u64 _), (4, .pointer none), (5, ptr b5), (42, .int .u64 _), (50, ptr a), (51, ptr b)]) ⟨rfl, rfl, rfl, rfl, rfl, rfl, trivial⟩ fun f0 => ?_
    (refine G_drawX C.M (.op 0 (.op 1 (.op 2 (.op 3 (.op 4 (.op 5 (.op 6 (.op 7 (.op 8 (.op 9 (.op 10 (.op 11 (.op 12 .nil))))))))))))) [(11, 1)] follows (by kernel_rfl) ?_)
    (repeat (first | (refine cX_guard ?_; refine X_unwanted rfl rfl ?_) | (refine cX_load ?_; refine X_val0 (fun w he => R_loadB rfl (he.heap hbM h53) rfl) rfl rfl ?_) | refine r98 hAg3 ?_))
    refine X_call (Φ := fun w v w' => ∃ r s', v = .bool r ∧ Q r s' ∧ UW C s' (d + 1) w' ∧ Ext C.M w w') (fun w he => ih w (hw3.ext he)) rfl fun w4 v w5 he4 ⟨r, s', hv, hq, hw5, x5⟩ => ⟨x5, ?_⟩
    subst hv
    (refine r99 hAg3 ?_)
    refine X_nil fun w6 he6 => ?_
    (refine r94 ?_)
    refine G_ret ?_
    intro tmps htm
    exact nf_leave (fun w => ResV.tmp rfl _ w tmps htm) rfl (he6.heap (fun x => x) (x5.heap hbM (he4.heap (fun x => x) h53))) (hw5.ext he6) (by omega) hq (x3.trans (he4.of_no.trans (x5.trans he6.of_no)))

theorem nf_array {Q : Bool → σ → Prop} {m m' : Int} {a b : Nat} {n : Int} {v v' : Value} (hm : Md m m') (hd : d + 1 ≤ 50) (hx : C.H a = some (Ob [.int .i64 n, v] 176)) (hy : C.H b = some (Ob [.int .i64 n, v'] 176)) (h0 : 0 ≤ n)
    (e : (Nat.beq 99 99 && peq (some ⟨a, 0, none⟩) (some ⟨b, 0, none⟩)) = false) (ih : Nf C m' v v' (d + 1) s Q) :
    Nf C m (.iface 99 (ptr a)) (.iface 99 (ptr b)) d s Q := by
  have hl : LiveH C.H a := ⟨_, _, _, hx⟩
  have hl' : LiveH C.H b := ⟨_, _, _, hy⟩
  have elt : Value.bool (decide (n < 0)) = .bool false := by rw [decide_eq_false (by omega)]
  have eeq : Value.bool (n == n) = .bool true := by simp
  intro w hw
  have hub := hw.ub
  unfold UCells at hub
  have hinc : Value.int .i64 (IntKind.i64.wrap ((d : Int) + 1)) = .int .i64 ((d + 1 : Nat) : Int) := by rw [wrap_i64 (by omega) (by omega)]; rfl
  have hle : decide (((d + 1 : Nat) : Int) > 50) = false := decide_eq_false (by omega)
  have ene : (!(Nat.beq 99 99 && peq (some ⟨a, 0, none⟩) (some ⟨b, 0, none⟩))) = true := by rw [e]; rfl
  unfold NfAt
  rcases hm with ⟨rfl, rfl⟩ | ⟨rfl, rfl⟩ | ⟨rfl, rfl⟩ | ⟨rfl, rfl⟩
  all_goals
    (refine calls_enter_d Tryz.func111 Tryz.ntmps111 rfl rfl ?_)
    (refine r94 ?_)
    refine L_box rfl rfl rfl fun b5 w1 hn1 => ?_
    have hub1 := hn1.ext.heap (fun x => x) hub
    have h51 := hn1.here
    (repeat (first | (refine cL ?_; first | (refine cL_guard ?_; refine L_unwanted rfl rfl rfl ?_) | (refine cL_add ?_; refine L_valE (R_addI rfl rfl) hinc rfl rfl rfl ?_)) | refine r95 ?_))
    refine L_store rfl hub1 rfl rfl rfl fun w2 hub2 e2 s2 => ?_
    have hb5 : b5 ≠ C.u := by have := lt_of_heap hub; have := hn1.fresh; omega
    have hbM : ¬ C.M b5 := fun x => by have := hw.ml _ x; have := hn1.fresh; omega
    have hw2 : UW C s (d + 1) w2 := (hw.ext hn1.ext).deep hub2 e2
    have x2 : Ext C.M w w2 := hn1.ext.of_no.trans (e2.mono fun i _ h => by rw [h]; exact C.hu)
    have h52 := e2.heap (fun x => hb5 x) h51
    clear hub1 h51 e2 hub2
    have hub2 := hw2.ub
    unfold UCells at hub2
    have hA := hw2.ag
    (repeat (first | (refine cL ?_; first | refine L_val (R_makeFunc (xs := [.tmp 5])) rfl rfl rfl ?_) | refine r95 ?_))
    refine L_defer (R_deferV rfl) rfl rfl ?_
    (repeat (first | (refine cL ?_; first | (refine cL_guard ?_; refine L_unwanted rfl rfl rfl ?_) | (refine cL_call ?_; first | refine L_callI (unalias_any _ _ _ rfl) rfl rfl ?_ | refine L_callI (asNamed_no _ _ _ rfl rfl) rfl rfl ?_ | refine L_callI (abtp_no _ _ _ _ rfl rfl) rfl rfl ?_) | (refine cL_eql ?_; refine L_valB (R_eqIf rfl rfl (hA.live hl) (hA.live hl')) e rfl rfl rfl ?_) | (refine cL_gtr ?_; refine L_valB (R_gtI rfl rfl) hle rfl rfl rfl ?_) | (refine cL_and ?_; refine L_val (R_andI rfl rfl) rfl rfl rfl ?_)) | refine r95 ?_))
    (refine G_draw No (0 :: 1 :: 2 :: 3 :: 4 :: 5 :: 6 :: 7 :: []) [] follows (by kernel_rfl) rfl ?_)
    have hAg : ∀ w', Ext No w2 w' → Agree C.H w' := fun _ he => hA.ext0 he
    (repeat (first | (refine cD_guard ?_; refine D_unwanted rfl rfl ?_) | (refine cD_load ?_; refine D_val0 (fun w he => R_loadB rfl (he.heap (fun x => x) h52) rfl) rfl rfl ?_) | (refine cD_call ?_; refine D_callQ (fun w he => Is.qt (abtp_no _ _ _ _ rfl rfl)) rfl ?_) | refine r96 hAg ?_))
    refine D_nil fun w3 he3 => ?_
    refine G_frame (l := [(1, .iface 99 (ptr a)), (2, .iface 99 (ptr b)), (3, .int .u64 _), (4, .pointer none), (5, ptr b5), (12, .pointer none), (13, .pointer none)]) ⟨rfl, rfl, rfl, rfl, rfl, rfl, rfl, trivial⟩ fun f0 => ?_
    have hw3 := hw2.ext he3
    have h53 := he3.heap (fun x => x) h52
    have x3 : Ext C.M w w3 := x2.trans he3.of_no
    clear hub2
    have hub3 := hw3.ub
    unfold UCells at hub3
    have hA3 := hw3.ag
    have hAg3 : ∀ w', Ext C.M w3 w' → Agree C.H w' := fun _ he => hA3.ext he C.hH
    clear hAg hA hub h52
    (repeat (first | (refine cL ?_; first | (refine cL_guard ?_; refine L_unwanted rfl rfl rfl ?_) | (refine cL_call ?_; first | refine L_callI (unalias_any _ _ _ rfl) rfl rfl ?_ | refine L_callI (assert_true _) rfl rfl ?_ | refine L_callI (isTypeParam_no _ _ _ rfl rfl) rfl rfl ?_ | refine L_callI (asNamed_no _ _ _ rfl rfl) rfl rfl ?_) | (refine cL_neq ?_; refine L_valB (R_neIf rfl rfl (hA3.live hl) (hA3.live hl')) ene rfl rfl rfl ?_) | (refine cL_and ?_; refine L_val (R_andI rfl rfl) rfl rfl rfl ?_) | (refine cL_or ?_; refine L_valE (R_orI rfl rfl) (v' := .int .u64 3) rfl rfl rfl rfl ?_)) | refine r95 ?_))
    refine G_frame (l := [(3, .int .u64 _), (4, .pointer none), (5, ptr b5), (42, .int .u64 _), (47, ptr a), (48, ptr b)]) ⟨rfl, rfl, rfl, rfl, rfl, rfl, trivial⟩ fun f0 => ?_
    (refine G_drawX C.M (.op 0 (.op 1 (.op 2 (.op 3 (.op 4 (.op 5 (.op 6 (.op 7 (.op 8 (.op 9 (.op 10 (.op 11 (.op 12 (.op 13 (.op 14 (.op 15 (.op 16 (.op 17 (.op 18 (.op 19 (.op 20 (.op 21 (.op 22 (.op 23 (.op 24 (.op 25 (.op 26 (.op 27 (.op 28 (.op 29 (.op 30 (.op 31 (.op 32 (.op 33 (.op 34 (.op 35 (.op 36 (.op 37 .nil)))))))))))))))))))))))))))))))))))))) [(35, 1)] follows (by kernel_rfl) ?_)
    (repeat (first | (refine cX_guard ?_; refine X_unwanted rfl rfl ?_) | (refine cX_load ?_; refine X_val0 (fun w he => R_loadB rfl (he.heap hbM h53) rfl) rfl rfl ?_) | (refine cX_eql ?_; refine X_valE (fun _ _ => R_eqI rfl rfl) eeq rfl rfl ?_) | (refine cX_lss ?_; refine X_valE (fun _ _ => R_ltI rfl rfl) elt rfl rfl ?_) | refine r98 hAg3 ?_))
    refine X_call (Φ := fun w v w' => ∃ r s', v = .bool r ∧ (Q) r s' ∧ UW C s' (d + 1) w' ∧ Ext C.M w w') (fun w he => ih w (hw3.ext he)) rfl fun w4 v w5 he4 ⟨r, s1, hv, hq, hw5, x5⟩ => ⟨x5, ?_⟩
    subst hv
    have h55 := x5.heap hbM (he4.heap (fun x => x) h53)
    have x35 : Ext C.M w w5 := x3.trans (he4.of_no.trans x5)
    have hAg5 : ∀ w', Ext C.M w5 w' → Agree C.H w' := fun _ he => hw5.ag.ext he C.hH
    (refine r99 hAg5 ?_)
    refine X_nil fun w6 he6 => ?_
    (refine r94 ?_)
    refine G_ret ?_
    intro tmps htm
    exact nf_leave (fun w => ResV.tmp rfl _ w tmps htm) rfl (he6.heap (fun x => x) h55) (hw5.ext he6) (by omega) hq (x35.trans he6.of_no)

end Go.Proofs.YtjilnjifegeceaaGreatDoor

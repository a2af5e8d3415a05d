/-
  A part of the proof that laws.FnClosed returns true at every input: the walk's own rules and the contracts of functions, in build order.
  Its conditions are those of the statement: see the last text.
-/
import Derived.Test.YtjilnjifegeceaaGreatDoorFnClosedPartN

/-
  The unifier's 'nify', exactly, on two types whose heads differ: it says false.
-/
namespace Go.Proofs.YtjilnjifegeceaaGreatDoor
set_option maxRecDepth 100000
set_option maxHeartbeats 4000000
attribute [local irreducible] Calls execOp

variable {σ : Type} {C : UC σ} {s : σ} {d : Nat}

theorem nf_arrayNe {Q : Bool → σ → Prop} {a b : Nat} {n n' : Int} {v v' : Value} (hd : d + 1 ≤ 50) (hx : C.H a = some (Ob [.int .i64 n, v] 176)) (hy : C.H b = some (Ob [.int .i64 n', v'] 176)) (h0 : 0 ≤ n) (h0' : 0 ≤ n') (hne : n ≠ n')
    (e : (Nat.beq 99 99 && peq (some ⟨a, 0, none⟩) (some ⟨b, 0, none⟩)) = false) (hq : Q false s) :
    Nf C 2 (.iface 99 (ptr a)) (.iface 99 (ptr b)) d s Q := by
  have hl : LiveH C.H a := ⟨_, _, _, hx⟩
  have hl' : LiveH C.H b := ⟨_, _, _, hy⟩
  have elt : Value.bool (decide (n < 0)) = .bool false := by rw [decide_eq_false (by omega)]
  have elt' : Value.bool (decide (n' < 0)) = .bool false := by rw [decide_eq_false (by omega)]
  have eeq : Value.bool (n == n') = .bool false := by simp [hne]
  intro w hw
  have hub := hw.ub
  unfold UCells at hub
  have hinc : Value.int .i64 (IntKind.i64.wrap ((d : Int) + 1)) = .int .i64 ((d + 1 : Nat) : Int) := by rw [wrap_i64 (by omega) (by omega)]; rfl
  have hle : decide (((d + 1 : Nat) : Int) > 50) = false := decide_eq_false (by omega)
  have ene : (!(Nat.beq 99 99 && peq (some ⟨a, 0, none⟩) (some ⟨b, 0, none⟩))) = true := by rw [e]; rfl
  unfold NfAt
  (refine calls_enter_d Tryz.func111 Tryz.ntmps111 rfl rfl ?_)
  (refine r94 ?_)
  refine L_box rfl rfl rfl fun b5 w1 hn1 => ?_
  have hub1 := hn1.ext.heap (fun x => x) hub
  have h51 := hn1.here
  (repeat (first | (refine cL ?_; first | (refine cL_guard ?_; refine L_unwanted rfl rfl rfl ?_) | (refine cL_add ?_; refine L_valE (R_addI rfl rfl) hinc rfl rfl rfl ?_)) | refine r95 ?_))
  refine L_store rfl hub1 rfl rfl rfl fun w2 hub2 e2 s2 => ?_
  have hb5 : b5 ≠ C.u := by have := lt_of_heap hub; have := hn1.fresh; omega
  have hbM : ¬ C.M b5 := fun x => by have := hw.ml _ x; have := hn1.fresh; omega
  have hw2 : UW C s (d + 1) w2 := (hw.ext hn1.ext).deep hub2 e2
  have x2 : Ext C.M w w2 := hn1.ext.of_no.trans (e2.mono fun i _ h => by rw [h]; exact C.hu)
  have h52 := e2.heap (fun x => hb5 x) h51
  clear hub1 h51 e2 hub2
  have hub2 := hw2.ub
  unfold UCells at hub2
  have hA := hw2.ag
  (repeat (first | (refine cL ?_; first | refine L_val (R_makeFunc (xs := [.tmp 5])) rfl rfl rfl ?_) | refine r95 ?_))
  refine L_defer (R_deferV rfl) rfl rfl ?_
  (repeat (first | (refine cL ?_; first | (refine cL_guard ?_; refine L_unwanted rfl rfl rfl ?_) | (refine cL_call ?_; first | refine L_callI (unalias_any _ _ _ rfl) rfl rfl ?_ | refine L_callI (asNamed_no _ _ _ rfl rfl) rfl rfl ?_ | refine L_callI (abtp_no _ _ _ _ rfl rfl) rfl rfl ?_) | (refine cL_eql ?_; refine L_valB (R_eqIf rfl rfl (hA.live hl) (hA.live hl')) e rfl rfl rfl ?_) | (refine cL_gtr ?_; refine L_valB (R_gtI rfl rfl) hle rfl rfl rfl ?_) | (refine cL_and ?_; refine L_val (R_andI rfl rfl) rfl rfl rfl ?_)) | refine r95 ?_))
  (refine G_draw No (0 :: 1 :: 2 :: 3 :: 4 :: 5 :: 6 :: 7 :: []) [] follows (by kernel_rfl) rfl ?_)
  have hAg : ∀ w', Ext No w2 w' → Agree C.H w' := fun _ he => hA.ext0 he
  (repeat (first | (refine cD_guard ?_; refine D_unwanted rfl rfl ?_) | (refine cD_load ?_; refine D_val0 (fun w he => R_loadB rfl (he.heap (fun x => x) h52) rfl) rfl rfl ?_) | (refine cD_call ?_; refine D_callQ (fun w he => Is.qt (abtp_no _ _ _ _ rfl rfl)) rfl ?_) | refine r96 hAg ?_))
  refine D_nil fun w3 he3 => ?_
  refine G_frame (l := [(1, .iface 99 (ptr a)), (2, .iface 99 (ptr b)), (3, .int .u64 _), (4, .pointer none), (5, ptr b5), (12, .pointer none), (13, .pointer none)]) ⟨rfl, rfl, rfl, rfl, rfl, rfl, rfl, trivial⟩ fun f0 => ?_
  have hw3 := hw2.ext he3
  have h53 := he3.heap (fun x => x) h52
  have x3 : Ext C.M w w3 := x2.trans he3.of_no
  clear hub2
  have hub3 := hw3.ub
  unfold UCells at hub3
  have hA3 := hw3.ag
  have hAg3 : ∀ w', Ext C.M w3 w' → Agree C.H w' := fun _ he => hA3.ext he C.hH
  clear hAg hA hub h52
  (repeat (first | (refine cL ?_; first | (refine cL_guard ?_; refine L_unwanted rfl rfl rfl ?_) | (refine cL_call ?_; first | refine L_callI (unalias_any _ _ _ rfl) rfl rfl ?_ | refine L_callI (assert_true _) rfl rfl ?_ | refine L_callI (isTypeParam_no _ _ _ rfl rfl) rfl rfl ?_ | refine L_callI (asNamed_no _ _ _ rfl rfl) rfl rfl ?_) | (refine cL_neq ?_; refine L_valB (R_neIf rfl rfl (hA3.live hl) (hA3.live hl')) ene rfl rfl rfl ?_) | (refine cL_and ?_; refine L_val (R_andI rfl rfl) rfl rfl rfl ?_) | (refine cL_or ?_; refine L_valE (R_orI rfl rfl) (v' := .int .u64 3) rfl rfl rfl rfl ?_)) | refine r95 ?_))
  refine G_frame (l := [(3, .int .u64 _), (4, .pointer none), (5, ptr b5), (42, .int .u64 _), (47, ptr a), (48, ptr b)]) ⟨rfl, rfl, rfl, rfl, rfl, rfl, trivial⟩ fun f0 => ?_
  (refine G_draw No (0 :: 1 :: 2 :: 3 :: 4 :: 5 :: 6 :: 7 :: 8 :: 9 :: 10 :: 11 :: 12 :: 13 :: 14 :: 15 :: 16 :: 17 :: 18 :: 19 :: 20 :: 21 :: 22 :: 23 :: 24 :: 25 :: 26 :: 27 :: 28 :: 29 :: 30 :: 31 :: 32 :: 33 :: 34 :: 35 :: 36 :: 37 :: []) [] follows (by kernel_rfl) rfl ?_)
  have hAg : ∀ w', Ext No w3 w' → Agree C.H w' := fun _ he => hA3.ext0 he
  (repeat (first | (refine cD_guard ?_; refine D_unwanted rfl rfl ?_) | (refine cD_load ?_; refine D_val0 (fun w he => R_loadB rfl (he.heap (fun x => x) h53) rfl) rfl rfl ?_) | (refine cD_eql ?_; refine D_valE (fun _ _ => R_eqI rfl rfl) eeq rfl rfl ?_) | (refine cD_lss ?_; first | refine D_valE (fun _ _ => R_ltI rfl rfl) elt rfl rfl ?_ | refine D_valE (fun _ _ => R_ltI rfl rfl) elt' rfl rfl ?_) | refine r96 hAg ?_))
  refine D_nil fun w4 he4 => ?_
  (refine r94 ?_)
  refine G_ret ?_
  intro tmps htm
  exact nf_leave (fun w => ResV.tmp rfl _ w tmps htm) rfl (he4.heap (fun x => x) h53) (hw3.ext he4) (by omega) hq (x3.trans he4.of_no)

theorem nf_chanNe {Q : Bool → σ → Prop} {a b : Nat} {n n' : Int} {v v' : Value} (hd : d + 1 ≤ 50) (hx : C.H a = some (Ob [.int .i64 n, v] 215)) (hy : C.H b = some (Ob [.int .i64 n', v'] 215)) (hne : n ≠ n')
    (e : (Nat.beq 103 103 && peq (some ⟨a, 0, none⟩) (some ⟨b, 0, none⟩)) = false) (hq : Q false s) :
    Nf C 2 (.iface 103 (ptr a)) (.iface 103 (ptr b)) d s Q := by
  have hl : LiveH C.H a := ⟨_, _, _, hx⟩
  have hl' : LiveH C.H b := ⟨_, _, _, hy⟩
  have eeq : Value.bool (n == n') = .bool false := by simp [hne]
  intro w hw
  have hub := hw.ub
  unfold UCells at hub
  have hinc : Value.int .i64 (IntKind.i64.wrap ((d : Int) + 1)) = .int .i64 ((d + 1 : Nat) : Int) := by rw [wrap_i64 (by omega) (by omega)]; rfl
  have hle : decide (((d + 1 : Nat) : Int) > 50) = false := decide_eq_false (by omega)
  have ene : (!(Nat.beq 103 103 && peq (some ⟨a, 0, none⟩) (some ⟨b, 0, none⟩))) = true := by rw [e]; rfl
  unfold NfAt
  (refine calls_enter_d Tryz.func111 Tryz.ntmps111 rfl rfl ?_)
  (refine r94 ?_)
  refine L_box rfl rfl rfl fun b5 w1 hn1 => ?_
  have hub1 := hn1.ext.heap (fun x => x) hub
  have h51 := hn1.here
  (repeat (first | (refine cL ?_; first | (refine cL_guard ?_; refine L_unwanted rfl rfl rfl ?_) | (refine cL_add ?_; refine L_valE (R_addI rfl rfl) hinc rfl rfl rfl ?_)) | refine r95 ?_))
  refine L_store rfl hub1 rfl rfl rfl fun w2 hub2 e2 s2 => ?_
  have hb5 : b5 ≠ C.u := by have := lt_of_heap hub; have := hn1.fresh; omega
  have hbM : ¬ C.M b5 := fun x => by have := hw.ml _ x; have := hn1.fresh; omega
  have hw2 : UW C s (d + 1) w2 := (hw.ext hn1.ext).deep hub2 e2
  have x2 : Ext C.M w w2 := hn1.ext.of_no.trans (e2.mono fun i _ h => by rw [h]; exact C.hu)
  have h52 := e2.heap (fun x => hb5 x) h51
  clear hub1 h51 e2 hub2
  have hub2 := hw2.ub
  unfold UCells at hub2
  have hA := hw2.ag
  (repeat (first | (refine cL ?_; first | refine L_val (R_makeFunc (xs := [.tmp 5])) rfl rfl rfl ?_) | refine r95 ?_))
  refine L_defer (R_deferV rfl) rfl rfl ?_
  (repeat (first | (refine cL ?_; first | (refine cL_guard ?_; refine L_unwanted rfl rfl rfl ?_) | (refine cL_call ?_; first | refine L_callI (unalias_any _ _ _ rfl) rfl rfl ?_ | refine L_callI (asNamed_no _ _ _ rfl rfl) rfl rfl ?_ | refine L_callI (abtp_no _ _ _ _ rfl rfl) rfl rfl ?_) | (refine cL_eql ?_; refine L_valB (R_eqIf rfl rfl (hA.live hl) (hA.live hl')) e rfl rfl rfl ?_) | (refine cL_gtr ?_; refine L_valB (R_gtI rfl rfl) hle rfl rfl rfl ?_) | (refine cL_and ?_; refine L_val (R_andI rfl rfl) rfl rfl rfl ?_)) | refine r95 ?_))
  (refine G_draw No (0 :: 1 :: 2 :: 3 :: 4 :: 5 :: 6 :: 7 :: []) [] follows (by kernel_rfl) rfl ?_)
  have hAg : ∀ w', Ext No w2 w' → Agree C.H w' := fun _ he => hA.ext0 he
  (repeat (first | (refine cD_guard ?_; refine D_unwanted rfl rfl ?_) | (refine cD_load ?_; refine D_val0 (fun w he => R_loadB rfl (he.heap (fun x => x) h52) rfl) rfl rfl ?_) | (refine cD_call ?_; refine D_callQ (fun w he => Is.qt (abtp_no _ _ _ _ rfl rfl)) rfl ?_) | refine r96 hAg ?_))
  refine D_nil fun w3 he3 => ?_
  refine G_frame (l := [(1, .iface 103 (ptr a)), (2, .iface 103 (ptr b)), (3, .int .u64 _), (4, .pointer none), (5, ptr b5), (12, .pointer none), (13, .pointer none)]) ⟨rfl, rfl, rfl, rfl, rfl, rfl, rfl, trivial⟩ fun f0 => ?_
  have hw3 := hw2.ext he3
  have h53 := he3.heap (fun x => x) h52
  have x3 : Ext C.M w w3 := x2.trans he3.of_no
  clear hub2
  have hub3 := hw3.ub
  unfold UCells at hub3
  have hA3 := hw3.ag
  have hAg3 : ∀ w', Ext C.M w3 w' → Agree C.H w' := fun _ he => hA3.ext he C.hH
  clear hAg hA hub h52
  (repeat (first | (refine cL ?_; first | (refine cL_guard ?_; refine L_unwanted rfl rfl rfl ?_) | (refine cL_call ?_; first | refine L_callI (unalias_any _ _ _ rfl) rfl rfl ?_ | refine L_callI (assert_true _) rfl rfl ?_ | refine L_callI (isTypeParam_no _ _ _ rfl rfl) rfl rfl ?_ | refine L_callI (asNamed_no _ _ _ rfl rfl) rfl rfl ?_) | (refine cL_neq ?_; refine L_valB (R_neIf rfl rfl (hA3.live hl) (hA3.live hl')) ene rfl rfl rfl ?_) | (refine cL_and ?_; refine L_val (R_andI rfl rfl) rfl rfl rfl ?_) | (refine cL_or ?_; refine L_valE (R_orI rfl rfl) (v' := .int .u64 3) rfl rfl rfl rfl ?_)) | refine r95 ?_))
  refine G_frame (l := [(3, .int .u64 _), (4, .pointer none), (5, ptr b5), (42, .int .u64 _), (85, ptr a), (86, ptr b)]) ⟨rfl, rfl, rfl, rfl, rfl, rfl, trivial⟩ fun f0 => ?_
  (refine G_draw No (0 :: 1 :: 2 :: 3 :: 4 :: 5 :: 6 :: 7 :: 8 :: 9 :: 10 :: 11 :: 12 :: 13 :: 14 :: 15 :: 16 :: 17 :: 18 :: 19 :: 20 :: 21 :: 22 :: 23 :: 24 :: 25 :: 26 :: 27 :: 28 :: []) [] follows (by kernel_rfl) rfl ?_)
  have hAg : ∀ w', Ext No w3 w' → Agree C.H w' := fun _ he => hA3.ext0 he
  (repeat (first | (refine cD_guard ?_; refine D_unwanted rfl rfl ?_) | (refine cD_load ?_; refine D_val0 (fun w he => R_loadB rfl (he.heap (fun x => x) h53) rfl) rfl rfl ?_) | (refine cD_eql ?_; first | refine D_val0 (fun _ _ => R_eqI (k := .u64) rfl rfl) rfl rfl ?_ | refine D_valE (fun _ _ => R_eqI rfl rfl) eeq rfl rfl ?_) | (refine cD_and ?_; refine D_val0 (fun _ _ => R_andI rfl rfl) rfl rfl ?_) | refine r96 hAg ?_))
  refine D_nil fun w4 he4 => ?_
  (refine r94 ?_)
  refine G_ret ?_
  intro tmps htm
  exact nf_leave (fun w => ResV.tmp rfl _ w tmps htm) rfl (he4.heap (fun x => x) h53) (hw3.ext he4) (by omega) hq (x3.trans he4.of_no)

theorem nf_funcNe {Q : Bool → σ → Prop} {a b : Nat} {x y x' y' : Value} {g g' : Bool} (hd : d + 1 ≤ 50) (hx : C.H a = some (Ob [.pointer none, .pointer none, x, y, .bool g] 134)) (hy : C.H b = some (Ob [.pointer none, .pointer none, x', y', .bool g'] 134)) (hne : g ≠ g')
    (e : (Nat.beq 113 113 && peq (some ⟨a, 0, none⟩) (some ⟨b, 0, none⟩)) = false) (hq : Q false s) :
    Nf C 2 (.iface 113 (ptr a)) (.iface 113 (ptr b)) d s Q := by
  have hl : LiveH C.H a := ⟨_, _, _, hx⟩
  have hl' : LiveH C.H b := ⟨_, _, _, hy⟩
  have eeq : Value.bool (g == g') = .bool false := by cases g <;> cases g' <;> first | rfl | exact absurd rfl hne
  intro w hw
  have hub := hw.ub
  unfold UCells at hub
  have hinc : Value.int .i64 (IntKind.i64.wrap ((d : Int) + 1)) = .int .i64 ((d + 1 : Nat) : Int) := by rw [wrap_i64 (by omega) (by omega)]; rfl
  have hle : decide (((d + 1 : Nat) : Int) > 50) = false := decide_eq_false (by omega)
  have ene : (!(Nat.beq 113 113 && peq (some ⟨a, 0, none⟩) (some ⟨b, 0, none⟩))) = true := by rw [e]; rfl
  unfold NfAt
  (refine calls_enter_d Tryz.func111 Tryz.ntmps111 rfl rfl ?_)
  (refine r94 ?_)
  refine L_box rfl rfl rfl fun b5 w1 hn1 => ?_
  have hub1 := hn1.ext.heap (fun x => x) hub
  have h51 := hn1.here
  (repeat (first | (refine cL ?_; first | (refine cL_guard ?_; refine L_unwanted rfl rfl rfl ?_) | (refine cL_add ?_; refine L_valE (R_addI rfl rfl) hinc rfl rfl rfl ?_)) | refine r95 ?_))
  refine L_store rfl hub1 rfl rfl rfl fun w2 hub2 e2 s2 => ?_
  have hb5 : b5 ≠ C.u := by have := lt_of_heap hub; have := hn1.fresh; omega
  have hbM : ¬ C.M b5 := fun x => by have := hw.ml _ x; have := hn1.fresh; omega
  have hw2 : UW C s (d + 1) w2 := (hw.ext hn1.ext).deep hub2 e2
  have x2 : Ext C.M w w2 := hn1.ext.of_no.trans (e2.mono fun i _ h => by rw [h]; exact C.hu)
  have h52 := e2.heap (fun x => hb5 x) h51
  clear hub1 h51 e2 hub2
  have hub2 := hw2.ub
  unfold UCells at hub2
  have hA := hw2.ag
  (repeat (first | (refine cL ?_; first | refine L_val (R_makeFunc (xs := [.tmp 5])) rfl rfl rfl ?_) | refine r95 ?_))
  refine L_defer (R_deferV rfl) rfl rfl ?_
  (repeat (first | (refine cL ?_; first | (refine cL_guard ?_; refine L_unwanted rfl rfl rfl ?_) | (refine cL_call ?_; first | refine L_callI (unalias_any _ _ _ rfl) rfl rfl ?_ | refine L_callI (asNamed_no _ _ _ rfl rfl) rfl rfl ?_ | refine L_callI (abtp_no _ _ _ _ rfl rfl) rfl rfl ?_) | (refine cL_eql ?_; refine L_valB (R_eqIf rfl rfl (hA.live hl) (hA.live hl')) e rfl rfl rfl ?_) | (refine cL_gtr ?_; refine L_valB (R_gtI rfl rfl) hle rfl rfl rfl ?_) | (refine cL_and ?_; refine L_val (R_andI rfl rfl) rfl rfl rfl ?_)) | refine r95 ?_))
  (refine G_draw No (0 :: 1 :: 2 :: 3 :: 4 :: 5 :: 6 :: 7 :: []) [] follows (by kernel_rfl) rfl ?_)
  have hAg : ∀ w', Ext No w2 w' → Agree C.H w' := fun _ he => hA.ext0 he
  (repeat (first | (refine cD_guard ?_; refine D_unwanted rfl rfl ?_) | (refine cD_load ?_; refine D_val0 (fun w he => R_loadB rfl (he.heap (fun x => x) h52) rfl) rfl rfl ?_) | (refine cD_call ?_; refine D_callQ (fun w he => Is.qt (abtp_no _ _ _ _ rfl rfl)) rfl ?_) | refine r96 hAg ?_))
  refine D_nil fun w3 he3 => ?_
  refine G_frame (l := [(1, .iface 113 (ptr a)), (2, .iface 113 (ptr b)), (3, .int .u64 _), (4, .pointer none), (5, ptr b5), (12, .pointer none), (13, .pointer none)]) ⟨rfl, rfl, rfl, rfl, rfl, rfl, rfl, trivial⟩ fun f0 => ?_
  have hw3 := hw2.ext he3
  have h53 := he3.heap (fun x => x) h52
  have x3 : Ext C.M w w3 := x2.trans he3.of_no
  clear hub2
  have hub3 := hw3.ub
  unfold UCells at hub3
  have hA3 := hw3.ag
  have hAg3 : ∀ w', Ext C.M w3 w' → Agree C.H w' := fun _ he => hA3.ext he C.hH
  clear hAg hA hub h52
  (repeat (first | (refine cL ?_; first | (refine cL_guard ?_; refine L_unwanted rfl rfl rfl ?_) | (refine cL_call ?_; first | refine L_callI (unalias_any _ _ _ rfl) rfl rfl ?_ | refine L_callI (assert_true _) rfl rfl ?_ | refine L_callI (isTypeParam_no _ _ _ rfl rfl) rfl rfl ?_ | refine L_callI (asNamed_no _ _ _ rfl rfl) rfl rfl ?_) | (refine cL_neq ?_; refine L_valB (R_neIf rfl rfl (hA3.live hl) (hA3.live hl')) ene rfl rfl rfl ?_) | (refine cL_and ?_; refine L_val (R_andI rfl rfl) rfl rfl rfl ?_) | (refine cL_or ?_; refine L_valE (R_orI rfl rfl) (v' := .int .u64 3) rfl rfl rfl rfl ?_)) | refine r95 ?_))
  refine G_frame (l := [(3, .int .u64 _), (4, .pointer none), (5, ptr b5), (42, .int .u64 _), (68, ptr a), (69, ptr b)]) ⟨rfl, rfl, rfl, rfl, rfl, rfl, trivial⟩ fun f0 => ?_
  (refine G_draw No (0 :: 1 :: 2 :: 3 :: 4 :: 5 :: 6 :: 7 :: 8 :: 9 :: 10 :: 11 :: 12 :: 13 :: 14 :: 15 :: 16 :: 17 :: 18 :: 19 :: 20 :: 21 :: 22 :: 23 :: 24 :: 25 :: 26 :: 27 :: 28 :: 29 :: 30 :: 31 :: 32 :: 33 :: 34 :: 35 :: 36 :: 37 :: 38 :: 39 :: 40 :: 41 :: []) [] follows (by kernel_rfl) rfl ?_)
  have hAg : ∀ w', Ext No w3 w' → Agree C.H w' := fun _ he => hA3.ext0 he
  (repeat (first | (refine cD_guard ?_; refine D_unwanted rfl rfl ?_) | (refine cD_load ?_; refine D_val0 (fun w he => R_loadB rfl (he.heap (fun x => x) h53) rfl) rfl rfl ?_) | (refine cD_eql ?_; refine D_valE (fun _ _ => R_eqB rfl rfl) eeq rfl rfl ?_) | refine r96 hAg ?_))
  refine D_nil fun w4 he4 => ?_
  (refine r94 ?_)
  refine G_ret ?_
  intro tmps htm
  exact nf_leave (fun w => ResV.tmp rfl _ w tmps htm) rfl (he4.heap (fun x => x) h53) (hw3.ext he4) (by omega) hq (x3.trans he4.of_no)

end Go.Proofs.YtjilnjifegeceaaGreatDoor

/-
  A part of the proof that laws.FnClosed returns true at every input: the walk's own rules and the contracts of functions, in build order.
  Its conditions are those of the statement: see the last text.
-/
import Derived.Test.YtjilnjifegeceaaGreatDoorFnClosedPartE

/-
  The unifier's 'nify' on two types of one kind, whatever it says of the parts.
-/
namespace Go.Proofs.YtjilnjifegeceaaGreatDoor
set_option maxRecDepth 100000
set_option maxHeartbeats 4000000
attribute [local irreducible] Calls execOp

variable {σ : Type} {C : UC σ} {s : σ} {d : Nat}

theorem nf_chan {Q : Bool → σ → Prop} {m m' : Int} {a b : Nat} {n : Int} {v v' : Value} (hm : Md m m') (hd : d + 1 ≤ 50) (hx : C.H a = some (Ob [.int .i64 n, v] 215)) (hy : C.H b = some (Ob [.int .i64 n, v'] 215))
    (e : (Nat.beq 103 103 && peq (some ⟨a, 0, none⟩) (some ⟨b, 0, none⟩)) = false) (ih : Nf C m' v v' (d + 1) s Q) :
    Nf C m (.iface 103 (ptr a)) (.iface 103 (ptr b)) d s Q := by
  have hl : LiveH C.H a := ⟨_, _, _, hx⟩
  have hl' : LiveH C.H b := ⟨_, _, _, hy⟩
  have eeq : Value.bool (n == n) = .bool true := by simp
  intro w hw
  have hub := hw.ub
  unfold UCells at hub
  have hinc : Value.int .i64 (IntKind.i64.wrap ((d : Int) + 1)) = .int .i64 ((d + 1 : Nat) : Int) := by rw [wrap_i64 (by omega) (by omega)]; rfl
  have hle : decide (((d + 1 : Nat) : Int) > 50) = false := decide_eq_false (by omega)
  have ene : (!(Nat.beq 103 103 && peq (some ⟨a, 0, none⟩) (some ⟨b, 0, none⟩))) = true := by rw [e]; rfl
  unfold NfAt
  rcases hm with ⟨rfl, rfl⟩ | ⟨rfl, rfl⟩ | ⟨rfl, rfl⟩ | ⟨rfl, rfl⟩
  all_goals
    (refine calls_enter_d Tryz.func111 Tryz.ntmps111 rfl rfl ?_)
    (refine r94 ?_)
    refine L_box rfl rfl rfl fun b5 w1 hn1 => ?_
    have hub1 := hn1.ext.heap (fun x => x) hub
    have h51 := hn1.here
    (repeat (first | (refine cL ?_; first | (refine cL_guard ?_; refine L_unwanted rfl rfl rfl ?_) | (refine cL_add ?_; refine L_valE (R_addI rfl rfl) hinc rfl rfl rfl ?_)) | refine r95 ?_))
    refine L_store rfl hub1 rfl rfl rfl fun w2 hub2 e2 s2 => ?_
    have hb5 : b5 ≠ C.u := by have := lt_of_heap hub; have := hn1.fresh; omega
    have hbM : ¬ C.M b5 := fun x => by have := hw.ml _ x; have := hn1.fresh; omega
    have hw2 : UW C s (d + 1) w2 := (hw.ext hn1.ext).deep hub2 e2
    have x2 : Ext C.M w w2 := hn1.ext.of_no.trans (e2.mono fun i _ h => by rw [h]; exact C.hu)
    have h52 := e2.heap (fun x => hb5 x) h51
    clear hub1 h51 e2 hub2
    have hub2 := hw2.ub
    unfold UCells at hub2
    have hA := hw2.ag
    (repeat (first | (refine cL ?_; first | refine L_val (R_makeFunc (xs := [.tmp 5])) rfl rfl rfl ?_) | refine r95 ?_))
    refine L_defer (R_deferV rfl) rfl rfl ?_
    (repeat (first | (refine cL ?_; first | (refine cL_guard ?_; refine L_unwanted rfl rfl rfl ?_) | (refine cL_call ?_; first | refine L_callI (unalias_any _ _ _ rfl) rfl rfl ?_ | refine L_callI (asNamed_no _ _ _ rfl rfl) rfl rfl ?_ | refine L_callI (abtp_no _ _ _ _ rfl rfl) rfl rfl ?_) | (refine cL_eql ?_; refine L_valB (R_eqIf rfl rfl (hA.live hl) (hA.live hl')) e rfl rfl rfl ?_) | (refine cL_gtr ?_; refine L_valB (R_gtI rfl rfl) hle rfl rfl rfl ?_) | (refine cL_and ?_; refine L_val (R_andI rfl rfl) rfl rfl rfl ?_)) | refine r95 ?_))
    (refine G_draw No (0 :: 1 :: 2 :: 3 :: 4 :: 5 :: 6 :: 7 :: []) [] follows (by kernel_rfl) rfl ?_)
    have hAg : ∀ w', Ext No w2 w' → Agree C.H w' := fun _ he => hA.ext0 he
    (repeat (first | (refine cD_guard ?_; refine D_unwanted rfl rfl ?_) | (refine cD_load ?_; refine D_val0 (fun w he => R_loadB rfl (he.heap (fun x => x) h52) rfl) rfl rfl ?_) | (refine cD_call ?_; refine D_callQ (fun w he => Is.qt (abtp_no _ _ _ _ rfl rfl)) rfl ?_) | refine r96 hAg ?_))
    refine D_nil fun w3 he3 => ?_
    refine G_frame (l := [(1, .iface 103 (ptr a)), (2, .iface 103 (ptr b)), (3, .int .u64 _), (4, .pointer none), (5, ptr b5), (12, .pointer none), (13, .pointer none)]) ⟨rfl, rfl, rfl, rfl, rfl, rfl, rfl, trivial⟩ fun f0 => ?_
    have hw3 := hw2.ext he3
    have h53 := he3.heap (fun x => x) h52
    have x3 : Ext C.M w w3 := x2.trans he3.of_no
    clear hub2
    have hub3 := hw3.ub
    unfold UCells at hub3
    have hA3 := hw3.ag
    have hAg3 : ∀ w', Ext C.M w3 w' → Agree C.H w' := fun _ he => hA3.ext he C.hH
    clear hAg hA hub h52
    (repeat (first | (refine cL ?_; first | (refine cL_guard ?_; refine L_unwanted rfl rfl rfl ?_) | (refine cL_call ?_; first | refine L_callI (unalias_any _ _ _ rfl) rfl rfl ?_ | refine L_callI (assert_true _) rfl rfl ?_ | refine L_callI (isTypeParam_no _ _ _ rfl rfl) rfl rfl ?_ | refine L_callI (asNamed_no _ _ _ rfl rfl) rfl rfl ?_) | (refine cL_neq ?_; refine L_valB (R_neIf rfl rfl (hA3.live hl) (hA3.live hl')) ene rfl rfl rfl ?_) | (refine cL_and ?_; refine L_val (R_andI rfl rfl) rfl rfl rfl ?_) | (refine cL_or ?_; refine L_valE (R_orI rfl rfl) (v' := .int .u64 3) rfl rfl rfl rfl ?_)) | refine r95 ?_))
    refine G_frame (l := [(3, .int .u64 _), (4, .pointer none), (5, ptr b5), (42, .int .u64 _), (85, ptr a), (86, ptr b)]) ⟨rfl, rfl, rfl, rfl, rfl, rfl, trivial⟩ fun f0 => ?_
    (refine G_drawX C.M (.op 0 (.op 1 (.op 2 (.op 3 (.op 4 (.op 5 (.op 6 (.op 7 (.op 8 (.op 9 (.op 10 (.op 11 (.op 12 (.op 13 (.op 14 (.op 15 (.op 16 (.op 17 (.op 18 (.op 19 (.op 20 (.op 21 (.op 22 (.op 23 (.op 24 (.op 25 (.op 26 (.op 27 (.op 28 .nil))))))))))))))))))))))))))))) [(26, 1)] follows (by kernel_rfl) ?_)
    (repeat (first | (refine cX_guard ?_; refine X_unwanted rfl rfl ?_) | (refine cX_load ?_; refine X_val0 (fun w he => R_loadB rfl (he.heap hbM h53) rfl) rfl rfl ?_) | (refine cX_eql ?_; first | refine X_val0 (fun _ _ => R_eqI (k := .u64) rfl rfl) rfl rfl ?_ | refine X_valE (fun _ _ => R_eqI rfl rfl) eeq rfl rfl ?_) | (refine cX_and ?_; refine X_val0 (fun _ _ => R_andI rfl rfl) rfl rfl ?_) | refine r98 hAg3 ?_))
    refine X_call (Φ := fun w v w' => ∃ r s', v = .bool r ∧ (Q) r s' ∧ UW C s' (d + 1) w' ∧ Ext C.M w w') (fun w he => ih w (hw3.ext he)) rfl fun w4 v w5 he4 ⟨r, s1, hv, hq, hw5, x5⟩ => ⟨x5, ?_⟩
    subst hv
    have h55 := x5.heap hbM (he4.heap (fun x => x) h53)
    have x35 : Ext C.M w w5 := x3.trans (he4.of_no.trans x5)
    have hAg5 : ∀ w', Ext C.M w5 w' → Agree C.H w' := fun _ he => hw5.ag.ext he C.hH
    (refine r99 hAg5 ?_)
    refine X_nil fun w6 he6 => ?_
    (refine r94 ?_)
    refine G_ret ?_
    intro tmps htm
    exact nf_leave (fun w => ResV.tmp rfl _ w tmps htm) rfl (he6.heap (fun x => x) h55) (hw5.ext he6) (by omega) hq (x35.trans he6.of_no)

theorem nf_map {Q : Bool → σ → Prop} {m m' : Int} {a b : Nat} {v u v' u' : Value} (hm : Md m m') (hd : d + 1 ≤ 50) (hx : C.H a = some (Ob [v, u] 212)) (hy : C.H b = some (Ob [v', u'] 212)) {P1 : σ → Prop}
    (e : (Nat.beq 101 101 && peq (some ⟨a, 0, none⟩) (some ⟨b, 0, none⟩)) = false) (ih1 : Nf C m' v v' (d + 1) s fun r s1 => bif r then P1 s1 else Q false s1) (ih2 : ∀ s1, P1 s1 → Nf C m' u u' (d + 1) s1 Q) :
    Nf C m (.iface 101 (ptr a)) (.iface 101 (ptr b)) d s Q := by
  have hl : LiveH C.H a := ⟨_, _, _, hx⟩
  have hl' : LiveH C.H b := ⟨_, _, _, hy⟩
  intro w hw
  have hub := hw.ub
  unfold UCells at hub
  have hinc : Value.int .i64 (IntKind.i64.wrap ((d : Int) + 1)) = .int .i64 ((d + 1 : Nat) : Int) := by rw [wrap_i64 (by omega) (by omega)]; rfl
  have hle : decide (((d + 1 : Nat) : Int) > 50) = false := decide_eq_false (by omega)
  have ene : (!(Nat.beq 101 101 && peq (some ⟨a, 0, none⟩) (some ⟨b, 0, none⟩))) = true := by rw [e]; rfl
  unfold NfAt
  rcases hm with ⟨rfl, rfl⟩ | ⟨rfl, rfl⟩ | ⟨rfl, rfl⟩ | ⟨rfl, rfl⟩
  all_goals
    (refine calls_enter_d Tryz.func111 Tryz.ntmps111 rfl rfl ?_)
    (refine r94 ?_)
    refine L_box rfl rfl rfl fun b5 w1 hn1 => ?_
    have hub1 := hn1.ext.heap (fun x => x) hub
    have h51 := hn1.here
    (repeat (first | (refine cL ?_; first | (refine cL_guard ?_; refine L_unwanted rfl rfl rfl ?_) | (refine cL_add ?_; refine L_valE (R_addI rfl rfl) hinc rfl rfl rfl ?_)) | refine r95 ?_))
    refine L_store rfl hub1 rfl rfl rfl fun w2 hub2 e2 s2 => ?_
    have hb5 : b5 ≠ C.u := by have := lt_of_heap hub; have := hn1.fresh; omega
    have hbM : ¬ C.M b5 := fun x => by have := hw.ml _ x; have := hn1.fresh; omega
    have hw2 : UW C s (d + 1) w2 := (hw.ext hn1.ext).deep hub2 e2
    have x2 : Ext C.M w w2 := hn1.ext.of_no.trans (e2.mono fun i _ h => by rw [h]; exact C.hu)
    have h52 := e2.heap (fun x => hb5 x) h51
    clear hub1 h51 e2 hub2
    have hub2 := hw2.ub
    unfold UCells at hub2
    have hA := hw2.ag
    (repeat (first | (refine cL ?_; first | refine L_val (R_makeFunc (xs := [.tmp 5])) rfl rfl rfl ?_) | refine r95 ?_))
    refine L_defer (R_deferV rfl) rfl rfl ?_
    (repeat (first | (refine cL ?_; first | (refine cL_guard ?_; refine L_unwanted rfl rfl rfl ?_) | (refine cL_call ?_; first | refine L_callI (unalias_any _ _ _ rfl) rfl rfl ?_ | refine L_callI (asNamed_no _ _ _ rfl rfl) rfl rfl ?_ | refine L_callI (abtp_no _ _ _ _ rfl rfl) rfl rfl ?_) | (refine cL_eql ?_; refine L_valB (R_eqIf rfl rfl (hA.live hl) (hA.live hl')) e rfl rfl rfl ?_) | (refine cL_gtr ?_; refine L_valB (R_gtI rfl rfl) hle rfl rfl rfl ?_) | (refine cL_and ?_; refine L_val (R_andI rfl rfl) rfl rfl rfl ?_)) | refine r95 ?_))
    (refine G_draw No (0 :: 1 :: 2 :: 3 :: 4 :: 5 :: 6 :: 7 :: []) [] follows (by kernel_rfl) rfl ?_)
    have hAg : ∀ w', Ext No w2 w' → Agree C.H w' := fun _ he => hA.ext0 he
    (repeat (first | (refine cD_guard ?_; refine D_unwanted rfl rfl ?_) | (refine cD_load ?_; refine D_val0 (fun w he => R_loadB rfl (he.heap (fun x => x) h52) rfl) rfl rfl ?_) | (refine cD_call ?_; refine D_callQ (fun w he => Is.qt (abtp_no _ _ _ _ rfl rfl)) rfl ?_) | refine r96 hAg ?_))
    refine D_nil fun w3 he3 => ?_
    refine G_frame (l := [(1, .iface 101 (ptr a)), (2, .iface 101 (ptr b)), (3, .int .u64 _), (4, .pointer none), (5, ptr b5), (12, .pointer none), (13, .pointer none)]) ⟨rfl, rfl, rfl, rfl, rfl, rfl, rfl, trivial⟩ fun f0 => ?_
    have hw3 := hw2.ext he3
    have h53 := he3.heap (fun x => x) h52
    have x3 : Ext C.M w w3 := x2.trans he3.of_no
    clear hub2
    have hub3 := hw3.ub
    unfold UCells at hub3
    have hA3 := hw3.ag
    have hAg3 : ∀ w', Ext C.M w3 w' → Agree C.H w' := fun _ he => hA3.ext he C.hH
    clear hAg hA hub h52
    (repeat (first | (refine cL ?_; first | (refine cL_guard ?_; refine L_unwanted rfl rfl rfl ?_) | (refine cL_call ?_; first | refine L_callI (unalias_any _ _ _ rfl) rfl rfl ?_ | refine L_callI (assert_true _) rfl rfl ?_ | refine L_callI (isTypeParam_no _ _ _ rfl rfl) rfl rfl ?_ | refine L_callI (asNamed_no _ _ _ rfl rfl) rfl rfl ?_) | (refine cL_neq ?_; refine L_valB (R_neIf rfl rfl (hA3.live hl) (hA3.live hl')) ene rfl rfl rfl ?_) | (refine cL_and ?_; refine L_val (R_andI rfl rfl) rfl rfl rfl ?_) | (refine cL_or ?_; refine L_valE (R_orI rfl rfl) (v' := .int .u64 3) rfl rfl rfl rfl ?_)) | refine r95 ?_))
    refine G_frame (l := [(3, .int .u64 _), (4, .pointer none), (5, ptr b5), (42, .int .u64 _), (82, ptr a), (83, ptr b)]) ⟨rfl, rfl, rfl, rfl, rfl, rfl, trivial⟩ fun f0 => ?_
    (refine G_drawX C.M (.op 0 (.op 1 (.op 2 (.op 3 (.op 4 (.op 5 (.op 6 (.op 7 (.op 8 (.op 9 (.op 10 (.op 11 (.op 12 (.op 13 (.op 14 (.op 15 (.op 16 (.op 17 (.op 18 (.op 19 (.op 20 (.op 21 (.op 22 (.op 23 (.op 24 (.op 25 (.op 26 .nil))))))))))))))))))))))))))) [(11, 1), (24, 1)] follows (by kernel_rfl) ?_)
    (repeat (first | (refine cX_guard ?_; refine X_unwanted rfl rfl ?_) | (refine cX_load ?_; refine X_val0 (fun w he => R_loadB rfl (he.heap hbM h53) rfl) rfl rfl ?_) | refine r98 hAg3 ?_))
    refine X_call (Φ := fun w v w' => ∃ r s', v = .bool r ∧ (fun r s1 => bif r then P1 s1 else Q false s1) r s' ∧ UW C s' (d + 1) w' ∧ Ext C.M w w') (fun w he => ih1 w (hw3.ext he)) rfl fun w4 v w5 he4 ⟨r, s1, hv, hq, hw5, x5⟩ => ⟨x5, ?_⟩
    subst hv
    have h55 := x5.heap hbM (he4.heap (fun x => x) h53)
    have x35 : Ext C.M w w5 := x3.trans (he4.of_no.trans x5)
    have hAg5 : ∀ w', Ext C.M w5 w' → Agree C.H w' := fun _ he => hw5.ag.ext he C.hH
    cases r with
    | false =>
      (refine r99 hAg5 ?_)
      refine X_nil fun w6 he6 => ?_
      (refine r94 ?_)
      refine G_ret ?_
      intro tmps htm
      exact nf_leave (fun w => ResV.tmp rfl _ w tmps htm) rfl (he6.heap (fun x => x) h55) (hw5.ext he6) (by omega) hq (x35.trans he6.of_no)
    | true =>
      (repeat (first | (refine cX_guard ?_; refine X_unwanted rfl rfl ?_) | (refine cX_load ?_; refine X_val0 (fun w he => R_loadB rfl (he.heap hbM h55) rfl) rfl rfl ?_) | refine r98 hAg5 ?_))
      refine X_call (Φ := fun w v w' => ∃ r s', v = .bool r ∧ Q r s' ∧ UW C s' (d + 1) w' ∧ Ext C.M w w') (fun w he => ih2 _ hq w (hw5.ext he)) rfl fun w6 v w7 he6 ⟨r, s2, hv, hq7, hw7, x7⟩ => ⟨x7, ?_⟩
      subst hv
      have h57 := x7.heap hbM (he6.heap (fun x => x) h55)
      have x37 : Ext C.M w w7 := x35.trans (he6.of_no.trans x7)
      have hAg7 : ∀ w', Ext C.M w7 w' → Agree C.H w' := fun _ he => hw7.ag.ext he C.hH
      (refine r99 hAg7 ?_)
      refine X_nil fun w8 he8 => ?_
      (refine r94 ?_)
      refine G_ret ?_
      intro tmps htm
      exact nf_leave (fun w => ResV.tmp rfl _ w tmps htm) rfl (he8.heap (fun x => x) h57) (hw7.ext he8) (by omega) hq7 (x37.trans he8.of_no)

theorem nf_func {Q : Bool → σ → Prop} {m m' : Int} {a b : Nat} {x y x' y' : Value} {g : Bool} (hm : Md m m') (hd : d + 1 ≤ 50) (hx : C.H a = some (Ob [.pointer none, .pointer none, x, y, .bool g] 134)) (hy : C.H b = some (Ob [.pointer none, .pointer none, x', y', .bool g] 134)) {P1 : σ → Prop}
    (e : (Nat.beq 113 113 && peq (some ⟨a, 0, none⟩) (some ⟨b, 0, none⟩)) = false) (ih1 : Nf C m' (.iface 115 x) (.iface 115 x') (d + 1) s fun r s1 => bif r then P1 s1 else Q false s1) (ih2 : ∀ s1, P1 s1 → Nf C m' (.iface 115 y) (.iface 115 y') (d + 1) s1 Q) :
    Nf C m (.iface 113 (ptr a)) (.iface 113 (ptr b)) d s Q := by
  have hl : LiveH C.H a := ⟨_, _, _, hx⟩
  have hl' : LiveH C.H b := ⟨_, _, _, hy⟩
  have eeq : Value.bool (g == g) = .bool true := by cases g <;> rfl
  intro w hw
  have hub := hw.ub
  unfold UCells at hub
  have hinc : Value.int .i64 (IntKind.i64.wrap ((d : Int) + 1)) = .int .i64 ((d + 1 : Nat) : Int) := by rw [wrap_i64 (by omega) (by omega)]; rfl
  have hle : decide (((d + 1 : Nat) : Int) > 50) = false := decide_eq_false (by omega)
  have ene : (!(Nat.beq 113 113 && peq (some ⟨a, 0, none⟩) (some ⟨b, 0, none⟩))) = true := by rw [e]; rfl
  unfold NfAt
  rcases hm with ⟨rfl, rfl⟩ | ⟨rfl, rfl⟩ | ⟨rfl, rfl⟩ | ⟨rfl, rfl⟩
  all_goals
    (refine calls_enter_d Tryz.func111 Tryz.ntmps111 rfl rfl ?_)
    (refine r94 ?_)
    refine L_box rfl rfl rfl fun b5 w1 hn1 => ?_
    have hub1 := hn1.ext.heap (fun x => x) hub
    have h51 := hn1.here
    (repeat (first | (refine cL ?_; first | (refine cL_guard ?_; refine L_unwanted rfl rfl rfl ?_) | (refine cL_add ?_; refine L_valE (R_addI rfl rfl) hinc rfl rfl rfl ?_)) | refine r95 ?_))
    refine L_store rfl hub1 rfl rfl rfl fun w2 hub2 e2 s2 => ?_
    have hb5 : b5 ≠ C.u := by have := lt_of_heap hub; have := hn1.fresh; omega
    have hbM : ¬ C.M b5 := fun x => by have := hw.ml _ x; have := hn1.fresh; omega
    have hw2 : UW C s (d + 1) w2 := (hw.ext hn1.ext).deep hub2 e2
    have x2 : Ext C.M w w2 := hn1.ext.of_no.trans (e2.mono fun i _ h => by rw [h]; exact C.hu)
    have h52 := e2.heap (fun x => hb5 x) h51
    clear hub1 h51 e2 hub2
    have hub2 := hw2.ub
    unfold UCells at hub2
    have hA := hw2.ag
    (repeat (first | (refine cL ?_; first | refine L_val (R_makeFunc (xs := [.tmp 5])) rfl rfl rfl ?_) | refine r95 ?_))
    refine L_defer (R_deferV rfl) rfl rfl ?_
    (repeat (first | (refine cL ?_; first | (refine cL_guard ?_; refine L_unwanted rfl rfl rfl ?_) | (refine cL_call ?_; first | refine L_callI (unalias_any _ _ _ rfl) rfl rfl ?_ | refine L_callI (asNamed_no _ _ _ rfl rfl) rfl rfl ?_ | refine L_callI (abtp_no _ _ _ _ rfl rfl) rfl rfl ?_) | (refine cL_eql ?_; refine L_valB (R_eqIf rfl rfl (hA.live hl) (hA.live hl')) e rfl rfl rfl ?_) | (refine cL_gtr ?_; refine L_valB (R_gtI rfl rfl) hle rfl rfl rfl ?_) | (refine cL_and ?_; refine L_val (R_andI rfl rfl) rfl rfl rfl ?_)) | refine r95 ?_))
    (refine G_draw No (0 :: 1 :: 2 :: 3 :: 4 :: 5 :: 6 :: 7 :: []) [] follows (by kernel_rfl) rfl ?_)
    have hAg : ∀ w', Ext No w2 w' → Agree C.H w' := fun _ he => hA.ext0 he
    (repeat (first | (refine cD_guard ?_; refine D_unwanted rfl rfl ?_) | (refine cD_load ?_; refine D_val0 (fun w he => R_loadB rfl (he.heap (fun x => x) h52) rfl) rfl rfl ?_) | (refine cD_call ?_; refine D_callQ (fun w he => Is.qt (abtp_no _ _ _ _ rfl rfl)) rfl ?_) | refine r96 hAg ?_))
    refine D_nil fun w3 he3 => ?_
    refine G_frame (l := [(1, .iface 113 (ptr a)), (2, .iface 113 (ptr b)), (3, .int .u64 _), (4, .pointer none), (5, ptr b5), (12, .pointer none), (13, .pointer none)]) ⟨rfl, rfl, rfl, rfl, rfl, rfl, rfl, trivial⟩ fun f0 => ?_
    have hw3 := hw2.ext he3
    have h53 := he3.heap (fun x => x) h52
    have x3 : Ext C.M w w3 := x2.trans he3.of_no
    clear hub2
    have hub3 := hw3.ub
    unfold UCells at hub3
    have hA3 := hw3.ag
    have hAg3 : ∀ w', Ext C.M w3 w' → Agree C.H w' := fun _ he => hA3.ext he C.hH
    clear hAg hA hub h52
    (repeat (first | (refine cL ?_; first | (refine cL_guard ?_; refine L_unwanted rfl rfl rfl ?_) | (refine cL_call ?_; first | refine L_callI (unalias_any _ _ _ rfl) rfl rfl ?_ | refine L_callI (assert_true _) rfl rfl ?_ | refine L_callI (isTypeParam_no _ _ _ rfl rfl) rfl rfl ?_ | refine L_callI (asNamed_no _ _ _ rfl rfl) rfl rfl ?_) | (refine cL_neq ?_; refine L_valB (R_neIf rfl rfl (hA3.live hl) (hA3.live hl')) ene rfl rfl rfl ?_) | (refine cL_and ?_; refine L_val (R_andI rfl rfl) rfl rfl rfl ?_) | (refine cL_or ?_; refine L_valE (R_orI rfl rfl) (v' := .int .u64 3) rfl rfl rfl rfl ?_)) | refine r95 ?_))
    refine G_frame (l := [(3, .int .u64 _), (4, .pointer none), (5, ptr b5), (42, .int .u64 _), (68, ptr a), (69, ptr b)]) ⟨rfl, rfl, rfl, rfl, rfl, rfl, trivial⟩ fun f0 => ?_
    (refine G_drawX C.M (.op 0 (.op 1 (.op 2 (.op 3 (.op 4 (.op 5 (.op 6 (.op 7 (.op 8 (.op 9 (.op 10 (.op 11 (.op 12 (.op 13 (.op 14 (.op 15 (.op 16 (.op 17 (.op 18 (.op 19 (.op 20 (.op 21 (.op 22 (.op 23 (.op 24 (.op 25 (.op 26 (.op 27 (.op 28 (.op 29 (.op 30 (.op 31 (.op 32 (.op 33 (.op 34 (.op 35 (.op 36 (.op 37 (.op 38 (.op 39 (.op 40 (.op 41 .nil)))))))))))))))))))))))))))))))))))))))))) [(23, 1), (39, 1)] follows (by kernel_rfl) ?_)
    (repeat (first | (refine cX_guard ?_; refine X_unwanted rfl rfl ?_) | (refine cX_load ?_; refine X_val0 (fun w he => R_loadB rfl (he.heap hbM h53) rfl) rfl rfl ?_) | (refine cX_eql ?_; refine X_valE (fun _ _ => R_eqB rfl rfl) eeq rfl rfl ?_) | refine r98 hAg3 ?_))
    refine X_call (Φ := fun w v w' => ∃ r s', v = .bool r ∧ (fun r s1 => bif r then P1 s1 else Q false s1) r s' ∧ UW C s' (d + 1) w' ∧ Ext C.M w w') (fun w he => ih1 w (hw3.ext he)) rfl fun w4 v w5 he4 ⟨r, s1, hv, hq, hw5, x5⟩ => ⟨x5, ?_⟩
    subst hv
    have h55 := x5.heap hbM (he4.heap (fun x => x) h53)
    have x35 : Ext C.M w w5 := x3.trans (he4.of_no.trans x5)
    have hAg5 : ∀ w', Ext C.M w5 w' → Agree C.H w' := fun _ he => hw5.ag.ext he C.hH
    cases r with
    | false =>
      (refine r99 hAg5 ?_)
      refine X_nil fun w6 he6 => ?_
      (refine r94 ?_)
      refine G_ret ?_
      intro tmps htm
      exact nf_leave (fun w => ResV.tmp rfl _ w tmps htm) rfl (he6.heap (fun x => x) h55) (hw5.ext he6) (by omega) hq (x35.trans he6.of_no)
    | true =>
      (repeat (first | (refine cX_guard ?_; refine X_unwanted rfl rfl ?_) | (refine cX_load ?_; refine X_val0 (fun w he => R_loadB rfl (he.heap hbM h55) rfl) rfl rfl ?_) | refine r98 hAg5 ?_))
      refine X_call (Φ := fun w v w' => ∃ r s', v = .bool r ∧ Q r s' ∧ UW C s' (d + 1) w' ∧ Ext C.M w w') (fun w he => ih2 _ hq w (hw5.ext he)) rfl fun w6 v w7 he6 ⟨r, s2, hv, hq7, hw7, x7⟩ => ⟨x7, ?_⟩
      subst hv
      have h57 := x7.heap hbM (he6.heap (fun x => x) h55)
      have x37 : Ext C.M w w7 := x35.trans (he6.of_no.trans x7)
      have hAg7 : ∀ w', Ext C.M w7 w' → Agree C.H w' := fun _ he => hw7.ag.ext he C.hH
      (refine r99 hAg7 ?_)
      refine X_nil fun w8 he8 => ?_
      (refine r94 ?_)
      refine G_ret ?_
      intro tmps htm
      exact nf_leave (fun w => ResV.tmp rfl _ w tmps htm) rfl (he8.heap (fun x => x) h57) (hw7.ext he8) (by omega) hq7 (x37.trans he8.of_no)

end Go.Proofs.YtjilnjifegeceaaGreatDoor

/-
  A part of the proof that laws.FnFinds returns true at every input: the walk's own rules and the contracts of functions, in build order.
  Its conditions are those of the statement: see the last text.
-/
import Derived.Test.YtjilnjifegeceaaGreatDoorFnFindsPartL

/-
  The unifier's 'nify', exactly, on a type parameter of which a type is known, and a type that is none: the two are unified.
-/
namespace Go.Proofs.YtjilnjifegeceaaGreatDoor
set_option maxRecDepth 100000
set_option maxHeartbeats 4000000
attribute [local irreducible] Calls execOp

/-- what 'asInterface' and 'asNamed' say of a type that is no type parameter -/
def NoIfc (H : Hp) (v : Value) : Prop := (∀ w, Agree H w → Calls Tryz.prog 148 #[v] w (Ret (Is (.pointer none) w))) ∧ ∃ q, ∀ w, Calls Tryz.prog 58 #[v] w (Ret (Is (.pointer q) w))

theorem noIfc {E : Env} {H : Hp} {k n c : Int} {b : Bool} {nms : List ByteArray} {vs : List Value} {v : Value} (hS : Sh E H k n c b nms vs v) (hk : k ≠ 2) : NoIfc H v := by
  refine ⟨fun w hA => asInterface_any hS hk w hA, ?_⟩
  cases hS with
  | param => exact absurd rfl hk
  | named => exact ⟨_, fun w => asNamed_yes _ w⟩
  | inst => exact ⟨_, fun w => asNamed_yes _ w⟩
  | _ => exact ⟨none, fun w => asNamed_no _ _ w rfl rfl⟩

section
variable {H : Hp} {as_ : List Nat} {u hm : Nat} {M : Nat → Prop} {hu : M u} {hH : ∀ b o, H b = some o → ¬ M b} {s : HS} {d : Nat} {w : World}

theorem nf_known {i a h b Tv av : Nat} {T : Nat} [PtrEq Tryz.prog T] [CmpT Tryz.prog T] (hTa : Nat.beq T 258 = false) (hTp : Nat.beq T 72 = false) (hTn : Nat.beq T 80 = false) (hd : d + 1 ≤ 50) (hal : ∀ a ∈ as_, LiveH H a) (hnd : as_.Nodup) (ha : as_[i]? = some a) (hh : s.hs[i]? = some h) (hval : s.val h = .iface Tv (ptr av)) (hl' : LiveH H b) {Q : Bool → HS → Prop} (hiv : NoIfc H (.iface Tv (ptr av))) (hiy : NoIfc H (.iface T (ptr b))) (ih : Nf (mkUC H as_ u hm M hu hH) 2 (.iface Tv (ptr av)) (.iface T (ptr b)) (d + 1) s Q) :
    Nf (mkUC H as_ u hm M hu hH) 2 (.iface 72 (ptr a)) (.iface T (ptr b)) d s Q := by
  intro w hw
  have hl : LiveH H a := hal a (List.mem_of_getElem? ha)
  have hinc : Value.int .i64 (IntKind.i64.wrap ((d : Int) + 1)) = .int .i64 ((d + 1 : Nat) : Int) := by rw [wrap_i64 (by omega) (by omega)]; rfl
  have hle : decide (((d + 1 : Nat) : Int) > 50) = false := decide_eq_false (by omega)
  have hTp' : Nat.beq 72 T = false := by
    cases hq : Nat.beq 72 T with
    | false => rfl
    | true =>
      have := Nat.eq_of_beq_eq_true hq
      subst this
      rw [nbeq_self] at hTp
      cases hTp
  have e : (Nat.beq 72 T && peq (some ⟨a, 0, none⟩) (some ⟨b, 0, none⟩)) = false := by rw [hTp']; rfl
  obtain ⟨C, hC⟩ : ∃ C, C = mkUC H as_ u hm M hu hH := ⟨_, rfl⟩
  have hCu : C.u = u := by rw [hC]; rfl
  have hCM : C.M = M := by rw [hC]; rfl
  have hCH : C.H = H := by rw [hC]; rfl
  have hCc : C.ck = .pointer none := by rw [hC]; rfl
  have hCm : C.hm = hm := by rw [hC]; rfl
  have hub := hw.ub
  unfold UCells at hub
  rw [← hC] at hw hub ih ⊢
  obtain ⟨hiv1, qv, hiv2⟩ := hiv
  obtain ⟨hiy1, qy, hiy2⟩ := hiy
  unfold Nf NfAt at ih
  unfold NfAt
  (refine calls_enter_d Tryz.func111 Tryz.ntmps111 rfl rfl ?_)
  (refine r94 ?_)
  refine L_box rfl rfl rfl fun b5 w1 hn1 => ?_
  have hub1 := hn1.ext.heap (fun x => x) hub
  have h51 := hn1.here
  (repeat (first | (refine cL ?_; first | (refine cL_guard ?_; refine L_unwanted rfl rfl rfl ?_) | (refine cL_add ?_; refine L_valE (R_addI rfl rfl) hinc rfl rfl rfl ?_)) | refine r95 ?_))
  refine L_store rfl hub1 rfl rfl rfl fun w2 hub2 e2 s2 => ?_
  have hb5 : b5 ≠ C.u := by have := lt_of_heap hub; have := hn1.fresh; omega
  have hbM : ¬ C.M b5 := fun x => by have := hw.ml _ x; have := hn1.fresh; omega
  have hw2 : UW C s (d + 1) w2 := (hw.ext hn1.ext).deep hub2 e2
  have x2 : Ext C.M w w2 := hn1.ext.of_no.trans (e2.mono fun i _ h => by rw [h]; exact C.hu)
  have h52 := e2.heap (fun x => hb5 x) h51
  clear hub1 h51 e2 hub2
  have hub2 := hw2.ub
  unfold UCells at hub2
  have hA : Agree H w2 := hCH ▸ hw2.ag
  have hw2' : UW (mkUC H as_ u hm M hu hH) s (d + 1) w2 := hC ▸ hw2
  (repeat (first | (refine cL ?_; first | refine L_val (R_makeFunc (xs := [.tmp 5])) rfl rfl rfl ?_) | refine r95 ?_))
  refine L_defer (R_deferV rfl) rfl rfl ?_
  have hby : ∀ w', UW C s (d + 1) w' → Calls Tryz.prog 143 #[ptr C.u, .iface 72 (ptr a)] w' (Ret (Is (ptr a) w')) := fun w' hw' => by
    rw [hCu]
    exact abtp_yes (hC ▸ hw') hal hnd ha hh
  (repeat (first | (refine cL ?_; first | (refine cL_guard ?_; refine L_unwanted rfl rfl rfl ?_) | (refine cL_call ?_; first | refine L_callI (unalias_any _ _ _ rfl) rfl rfl ?_ | refine L_callI (unalias_any _ _ _ hTa) rfl rfl ?_ | refine L_callI (asNamed_no _ _ _ rfl rfl) rfl rfl ?_ | refine L_callI (asNamed_no _ _ _ hTa hTn) rfl rfl ?_ | refine L_callI (hby _ hw2) rfl rfl ?_ | refine L_callI (abtp_no _ _ _ _ hTa hTp) rfl rfl ?_ | refine L_callI (isTypeLit_param _ _) rfl rfl ?_) | (refine cL_eql ?_; refine L_valB (R_eqIf rfl rfl (hA.live hl) (hA.live hl')) e rfl rfl rfl ?_) | (refine cL_gtr ?_; refine L_valB (R_gtI rfl rfl) hle rfl rfl rfl ?_) | (refine cL_and ?_; refine L_val (R_andI rfl rfl) rfl rfl rfl ?_)) | refine r95 ?_))
  (refine G_draw No (0 :: 1 :: 2 :: 3 :: 4 :: 5 :: 6 :: 7 :: []) [] follows (by kernel_rfl) rfl ?_)
  have hAg : ∀ w', Ext No w2 w' → Agree H w' := fun _ he => hA.ext0 he
  (repeat (first | (refine cD_guard ?_; refine D_unwanted rfl rfl ?_) | (refine cD_load ?_; refine D_val0 (fun w he => R_loadB rfl (he.heap (fun x => x) h52) rfl) rfl rfl ?_) | (refine cD_call ?_; first | refine D_callQ (fun w he => Is.qt (hby _ (hw2.ext he))) rfl ?_ | refine D_callQ (fun w he => Is.qt (abtp_no _ _ _ _ hTa hTp)) rfl ?_) | refine r96 hAg ?_))
  refine D_nil fun w3 he3 => ?_
  refine G_frame (l := [(1, .iface 72 (ptr a)), (2, .iface T (ptr b)), (3, .int .u64 _), (4, .pointer none), (5, ptr b5), (12, ptr a), (13, .pointer none)]) ⟨rfl, rfl, rfl, rfl, rfl, rfl, rfl, trivial⟩ fun f0 => ?_
  have hw3 := hw2.ext he3
  have h53 := he3.heap (fun x => x) h52
  have x3 : Ext C.M w w3 := x2.trans he3.of_no
  have hat : Calls Tryz.prog 112 #[ptr C.u, ptr a] w3 (Ret (Is (.iface Tv (ptr av)) w3)) := by
    rw [hCu, ← hval]
    exact at_any (hC ▸ hw3) hal hnd ha hh
  (repeat (first | (refine cL ?_; first | (refine cL_guard ?_; refine L_unwanted rfl rfl rfl ?_) | (refine cL_call ?_; refine L_callI hat rfl rfl ?_)) | refine r95 ?_))
  refine L_callR (ih w3 hw3) rfl rfl fun v w4 ⟨r, s4, hv, hq4, hw4, x4⟩ => ?_
  subst hv
  have h54 := x4.heap hbM h53
  have hA4 : Agree H w4 := hCH ▸ hw4.ag
  cases r with
  | false =>
    (refine r94 ?_)
    refine G_ret ?_
    intro tmps htm
    exact nf_leave (fun w => ResV.tmp rfl _ w tmps htm) rfl h54 hw4 (by omega) hq4 (x3.trans x4)
  | true =>
    (repeat (first | (refine cL ?_; first | (refine cL_guard ?_; refine L_unwanted rfl rfl rfl ?_) | (refine cL_call ?_; first | refine L_callI (hiv1 _ hA4) rfl rfl ?_ | refine L_callI (hiy1 _ hA4) rfl rfl ?_ | refine L_callI (hiv2 _) rfl rfl ?_ | refine L_callI (hiy2 _) rfl rfl ?_) | (refine cL_and ?_; refine L_val (R_andI rfl rfl) rfl rfl rfl ?_)) | refine r95 ?_))
    refine G_ret ?_
    intro tmps htm
    exact nf_leave (fun w => ResV.tmp rfl _ w tmps htm) rfl h54 hw4 (by omega) hq4 (x3.trans x4)

theorem nf_knownB {i a h b Tv av : Nat} {T : Nat} [PtrEq Tryz.prog T] [CmpT Tryz.prog T] (hTa : Nat.beq T 258 = false) (hTp : Nat.beq T 72 = false) (hTn : Nat.beq T 80 = false) (hd : d + 1 ≤ 50) (hal : ∀ a ∈ as_, LiveH H a) (hnd : as_.Nodup) (ha : as_[i]? = some a) (hh : s.hs[i]? = some h) (hval : s.val h = .iface Tv (ptr av)) (hl' : LiveH H b) {Q : Bool → HS → Prop} (hiv : NoIfc H (.iface Tv (ptr av))) (hiy : NoIfc H (.iface T (ptr b))) (ih : Nf (mkUC H as_ u hm M hu hH) 2 (.iface Tv (ptr av)) (.iface T (ptr b)) (d + 1) s Q) :
    Nf (mkUC H as_ u hm M hu hH) 2 (.iface T (ptr b)) (.iface 72 (ptr a)) d s Q := by
  intro w hw
  have hl : LiveH H a := hal a (List.mem_of_getElem? ha)
  have hinc : Value.int .i64 (IntKind.i64.wrap ((d : Int) + 1)) = .int .i64 ((d + 1 : Nat) : Int) := by rw [wrap_i64 (by omega) (by omega)]; rfl
  have hle : decide (((d + 1 : Nat) : Int) > 50) = false := decide_eq_false (by omega)
  have e : (Nat.beq T 72 && peq (some ⟨b, 0, none⟩) (some ⟨a, 0, none⟩)) = false := by rw [hTp]; rfl
  obtain ⟨C, hC⟩ : ∃ C, C = mkUC H as_ u hm M hu hH := ⟨_, rfl⟩
  have hCu : C.u = u := by rw [hC]; rfl
  have hCM : C.M = M := by rw [hC]; rfl
  have hCH : C.H = H := by rw [hC]; rfl
  have hCc : C.ck = .pointer none := by rw [hC]; rfl
  have hCm : C.hm = hm := by rw [hC]; rfl
  have hub := hw.ub
  unfold UCells at hub
  rw [← hC] at hw hub ih ⊢
  obtain ⟨hiv1, qv, hiv2⟩ := hiv
  obtain ⟨hiy1, qy, hiy2⟩ := hiy
  unfold Nf NfAt at ih
  unfold NfAt
  (refine calls_enter_d Tryz.func111 Tryz.ntmps111 rfl rfl ?_)
  (refine r94 ?_)
  refine L_box rfl rfl rfl fun b5 w1 hn1 => ?_
  have hub1 := hn1.ext.heap (fun x => x) hub
  have h51 := hn1.here
  (repeat (first | (refine cL ?_; first | (refine cL_guard ?_; refine L_unwanted rfl rfl rfl ?_) | (refine cL_add ?_; refine L_valE (R_addI rfl rfl) hinc rfl rfl rfl ?_)) | refine r95 ?_))
  refine L_store rfl hub1 rfl rfl rfl fun w2 hub2 e2 s2 => ?_
  have hb5 : b5 ≠ C.u := by have := lt_of_heap hub; have := hn1.fresh; omega
  have hbM : ¬ C.M b5 := fun x => by have := hw.ml _ x; have := hn1.fresh; omega
  have hw2 : UW C s (d + 1) w2 := (hw.ext hn1.ext).deep hub2 e2
  have x2 : Ext C.M w w2 := hn1.ext.of_no.trans (e2.mono fun i _ h => by rw [h]; exact C.hu)
  have h52 := e2.heap (fun x => hb5 x) h51
  clear hub1 h51 e2 hub2
  have hub2 := hw2.ub
  unfold UCells at hub2
  have hA : Agree H w2 := hCH ▸ hw2.ag
  have hw2' : UW (mkUC H as_ u hm M hu hH) s (d + 1) w2 := hC ▸ hw2
  (repeat (first | (refine cL ?_; first | refine L_val (R_makeFunc (xs := [.tmp 5])) rfl rfl rfl ?_) | refine r95 ?_))
  refine L_defer (R_deferV rfl) rfl rfl ?_
  have hby : ∀ w', UW C s (d + 1) w' → Calls Tryz.prog 143 #[ptr C.u, .iface 72 (ptr a)] w' (Ret (Is (ptr a) w')) := fun w' hw' => by
    rw [hCu]
    exact abtp_yes (hC ▸ hw') hal hnd ha hh
  (repeat (first | (refine cL ?_; first | (refine cL_guard ?_; refine L_unwanted rfl rfl rfl ?_) | (refine cL_call ?_; first | refine L_callI (unalias_any _ _ _ rfl) rfl rfl ?_ | refine L_callI (unalias_any _ _ _ hTa) rfl rfl ?_ | refine L_callI (asNamed_no _ _ _ rfl rfl) rfl rfl ?_ | refine L_callI (asNamed_no _ _ _ hTa hTn) rfl rfl ?_ | refine L_callI (hby _ hw2) rfl rfl ?_ | refine L_callI (abtp_no _ _ _ _ hTa hTp) rfl rfl ?_ | refine L_callI (isTypeLit_param _ _) rfl rfl ?_) | (refine cL_eql ?_; refine L_valB (R_eqIf rfl rfl (hA.live hl') (hA.live hl)) e rfl rfl rfl ?_) | (refine cL_gtr ?_; refine L_valB (R_gtI rfl rfl) hle rfl rfl rfl ?_) | (refine cL_and ?_; refine L_val (R_andI rfl rfl) rfl rfl rfl ?_)) | refine r95 ?_))
  (refine G_draw No (0 :: 1 :: 2 :: 3 :: 4 :: 5 :: 6 :: 7 :: []) [] follows (by kernel_rfl) rfl ?_)
  have hAg : ∀ w', Ext No w2 w' → Agree H w' := fun _ he => hA.ext0 he
  (repeat (first | (refine cD_guard ?_; refine D_unwanted rfl rfl ?_) | (refine cD_load ?_; refine D_val0 (fun w he => R_loadB rfl (he.heap (fun x => x) h52) rfl) rfl rfl ?_) | (refine cD_call ?_; first | refine D_callQ (fun w he => Is.qt (hby _ (hw2.ext he))) rfl ?_ | refine D_callQ (fun w he => Is.qt (abtp_no _ _ _ _ hTa hTp)) rfl ?_) | refine r96 hAg ?_))
  refine D_nil fun w3 he3 => ?_
  refine G_frame (l := [(1, .iface 72 (ptr a)), (2, .iface T (ptr b)), (3, .int .u64 _), (4, .pointer none), (5, ptr b5), (12, ptr a), (13, .pointer none)]) ⟨rfl, rfl, rfl, rfl, rfl, rfl, rfl, trivial⟩ fun f0 => ?_
  have hw3 := hw2.ext he3
  have h53 := he3.heap (fun x => x) h52
  have x3 : Ext C.M w w3 := x2.trans he3.of_no
  have hat : Calls Tryz.prog 112 #[ptr C.u, ptr a] w3 (Ret (Is (.iface Tv (ptr av)) w3)) := by
    rw [hCu, ← hval]
    exact at_any (hC ▸ hw3) hal hnd ha hh
  (repeat (first | (refine cL ?_; first | (refine cL_guard ?_; refine L_unwanted rfl rfl rfl ?_) | (refine cL_call ?_; refine L_callI hat rfl rfl ?_)) | refine r95 ?_))
  refine L_callR (ih w3 hw3) rfl rfl fun v w4 ⟨r, s4, hv, hq4, hw4, x4⟩ => ?_
  subst hv
  have h54 := x4.heap hbM h53
  have hA4 : Agree H w4 := hCH ▸ hw4.ag
  cases r with
  | false =>
    (refine r94 ?_)
    refine G_ret ?_
    intro tmps htm
    exact nf_leave (fun w => ResV.tmp rfl _ w tmps htm) rfl h54 hw4 (by omega) hq4 (x3.trans x4)
  | true =>
    (repeat (first | (refine cL ?_; first | (refine cL_guard ?_; refine L_unwanted rfl rfl rfl ?_) | (refine cL_call ?_; first | refine L_callI (hiv1 _ hA4) rfl rfl ?_ | refine L_callI (hiy1 _ hA4) rfl rfl ?_ | refine L_callI (hiv2 _) rfl rfl ?_ | refine L_callI (hiy2 _) rfl rfl ?_) | (refine cL_and ?_; refine L_val (R_andI rfl rfl) rfl rfl rfl ?_)) | refine r95 ?_))
    refine G_ret ?_
    intro tmps htm
    exact nf_leave (fun w => ResV.tmp rfl _ w tmps htm) rfl h54 hw4 (by omega) hq4 (x3.trans x4)

theorem nf_knownN {i a h b Tv av : Nat} (hd : d + 1 ≤ 50) (hal : ∀ a ∈ as_, LiveH H a) (hnd : as_.Nodup) (ha : as_[i]? = some a) (hh : s.hs[i]? = some h) (hval : s.val h = .iface Tv (ptr av)) (hl' : LiveH H b) {Q : Bool → HS → Prop} (hiv : NoIfc H (.iface Tv (ptr av))) (hiy : NoIfc H (.iface 80 (ptr b))) (ih : Nf (mkUC H as_ u hm M hu hH) 2 (.iface Tv (ptr av)) (.iface 80 (ptr b)) (d + 1) s Q) :
    Nf (mkUC H as_ u hm M hu hH) 2 (.iface 72 (ptr a)) (.iface 80 (ptr b)) d s Q := by
  intro w hw
  have hl : LiveH H a := hal a (List.mem_of_getElem? ha)
  have hinc : Value.int .i64 (IntKind.i64.wrap ((d : Int) + 1)) = .int .i64 ((d + 1 : Nat) : Int) := by rw [wrap_i64 (by omega) (by omega)]; rfl
  have hle : decide (((d + 1 : Nat) : Int) > 50) = false := decide_eq_false (by omega)
  have e : (Nat.beq 72 80 && peq (some ⟨a, 0, none⟩) (some ⟨b, 0, none⟩)) = false := rfl
  obtain ⟨C, hC⟩ : ∃ C, C = mkUC H as_ u hm M hu hH := ⟨_, rfl⟩
  have hCu : C.u = u := by rw [hC]; rfl
  have hCM : C.M = M := by rw [hC]; rfl
  have hCH : C.H = H := by rw [hC]; rfl
  have hCc : C.ck = .pointer none := by rw [hC]; rfl
  have hCm : C.hm = hm := by rw [hC]; rfl
  have hub := hw.ub
  unfold UCells at hub
  rw [← hC] at hw hub ih ⊢
  obtain ⟨hiv1, qv, hiv2⟩ := hiv
  obtain ⟨hiy1, qy, hiy2⟩ := hiy
  unfold Nf NfAt at ih
  unfold NfAt
  (refine calls_enter_d Tryz.func111 Tryz.ntmps111 rfl rfl ?_)
  (refine r94 ?_)
  refine L_box rfl rfl rfl fun b5 w1 hn1 => ?_
  have hub1 := hn1.ext.heap (fun x => x) hub
  have h51 := hn1.here
  (repeat (first | (refine cL ?_; first | (refine cL_guard ?_; refine L_unwanted rfl rfl rfl ?_) | (refine cL_add ?_; refine L_valE (R_addI rfl rfl) hinc rfl rfl rfl ?_)) | refine r95 ?_))
  refine L_store rfl hub1 rfl rfl rfl fun w2 hub2 e2 s2 => ?_
  have hb5 : b5 ≠ C.u := by have := lt_of_heap hub; have := hn1.fresh; omega
  have hbM : ¬ C.M b5 := fun x => by have := hw.ml _ x; have := hn1.fresh; omega
  have hw2 : UW C s (d + 1) w2 := (hw.ext hn1.ext).deep hub2 e2
  have x2 : Ext C.M w w2 := hn1.ext.of_no.trans (e2.mono fun i _ h => by rw [h]; exact C.hu)
  have h52 := e2.heap (fun x => hb5 x) h51
  clear hub1 h51 e2 hub2
  have hub2 := hw2.ub
  unfold UCells at hub2
  have hA : Agree H w2 := hCH ▸ hw2.ag
  have hw2' : UW (mkUC H as_ u hm M hu hH) s (d + 1) w2 := hC ▸ hw2
  (repeat (first | (refine cL ?_; first | refine L_val (R_makeFunc (xs := [.tmp 5])) rfl rfl rfl ?_) | refine r95 ?_))
  refine L_defer (R_deferV rfl) rfl rfl ?_
  have hby : ∀ w', UW C s (d + 1) w' → Calls Tryz.prog 143 #[ptr C.u, .iface 72 (ptr a)] w' (Ret (Is (ptr a) w')) := fun w' hw' => by
    rw [hCu]
    exact abtp_yes (hC ▸ hw') hal hnd ha hh
  (repeat (first | (refine cL ?_; first | (refine cL_guard ?_; refine L_unwanted rfl rfl rfl ?_) | (refine cL_call ?_; first | refine L_callI (unalias_any _ _ _ rfl) rfl rfl ?_ | refine L_callI (unalias_any _ _ _ rfl) rfl rfl ?_ | refine L_callI (asNamed_no _ _ _ rfl rfl) rfl rfl ?_ | refine L_callI (asNamed_yes _ _) rfl rfl ?_ | refine L_callI (hby _ hw2) rfl rfl ?_ | refine L_callI (abtp_no _ _ _ _ rfl rfl) rfl rfl ?_ | refine L_callI (isTypeLit_param _ _) rfl rfl ?_) | (refine cL_eql ?_; refine L_valB (R_eqIf rfl rfl (hA.live hl) (hA.live hl')) e rfl rfl rfl ?_) | (refine cL_gtr ?_; refine L_valB (R_gtI rfl rfl) hle rfl rfl rfl ?_) | (refine cL_and ?_; refine L_val (R_andI rfl rfl) rfl rfl rfl ?_)) | refine r95 ?_))
  (refine G_draw No (0 :: 1 :: 2 :: 3 :: 4 :: 5 :: 6 :: 7 :: []) [] follows (by kernel_rfl) rfl ?_)
  have hAg : ∀ w', Ext No w2 w' → Agree H w' := fun _ he => hA.ext0 he
  (repeat (first | (refine cD_guard ?_; refine D_unwanted rfl rfl ?_) | (refine cD_load ?_; refine D_val0 (fun w he => R_loadB rfl (he.heap (fun x => x) h52) rfl) rfl rfl ?_) | (refine cD_call ?_; first | refine D_callQ (fun w he => Is.qt (hby _ (hw2.ext he))) rfl ?_ | refine D_callQ (fun w he => Is.qt (abtp_no _ _ _ _ rfl rfl)) rfl ?_) | refine r96 hAg ?_))
  refine D_nil fun w3 he3 => ?_
  refine G_frame (l := [(1, .iface 72 (ptr a)), (2, .iface 80 (ptr b)), (3, .int .u64 _), (4, .pointer none), (5, ptr b5), (12, ptr a), (13, .pointer none)]) ⟨rfl, rfl, rfl, rfl, rfl, rfl, rfl, trivial⟩ fun f0 => ?_
  have hw3 := hw2.ext he3
  have h53 := he3.heap (fun x => x) h52
  have x3 : Ext C.M w w3 := x2.trans he3.of_no
  have hat : Calls Tryz.prog 112 #[ptr C.u, ptr a] w3 (Ret (Is (.iface Tv (ptr av)) w3)) := by
    rw [hCu, ← hval]
    exact at_any (hC ▸ hw3) hal hnd ha hh
  (repeat (first | (refine cL ?_; first | (refine cL_guard ?_; refine L_unwanted rfl rfl rfl ?_) | (refine cL_call ?_; refine L_callI hat rfl rfl ?_)) | refine r95 ?_))
  refine L_callR (ih w3 hw3) rfl rfl fun v w4 ⟨r, s4, hv, hq4, hw4, x4⟩ => ?_
  subst hv
  have h54 := x4.heap hbM h53
  have hA4 : Agree H w4 := hCH ▸ hw4.ag
  cases r with
  | false =>
    (refine r94 ?_)
    refine G_ret ?_
    intro tmps htm
    exact nf_leave (fun w => ResV.tmp rfl _ w tmps htm) rfl h54 hw4 (by omega) hq4 (x3.trans x4)
  | true =>
    (repeat (first | (refine cL ?_; first | (refine cL_guard ?_; refine L_unwanted rfl rfl rfl ?_) | (refine cL_call ?_; first | refine L_callI (hiv1 _ hA4) rfl rfl ?_ | refine L_callI (hiy1 _ hA4) rfl rfl ?_ | refine L_callI (hiv2 _) rfl rfl ?_ | refine L_callI (hiy2 _) rfl rfl ?_) | (refine cL_and ?_; refine L_val (R_andI rfl rfl) rfl rfl rfl ?_)) | refine r95 ?_))
    refine G_ret ?_
    intro tmps htm
    exact nf_leave (fun w => ResV.tmp rfl _ w tmps htm) rfl h54 hw4 (by omega) hq4 (x3.trans x4)

theorem nf_knownNB {i a h b Tv av : Nat} (hd : d + 1 ≤ 50) (hal : ∀ a ∈ as_, LiveH H a) (hnd : as_.Nodup) (ha : as_[i]? = some a) (hh : s.hs[i]? = some h) (hval : s.val h = .iface Tv (ptr av)) (hl' : LiveH H b) {Q : Bool → HS → Prop} (hiv : NoIfc H (.iface Tv (ptr av))) (hiy : NoIfc H (.iface 80 (ptr b))) (ih : Nf (mkUC H as_ u hm M hu hH) 2 (.iface Tv (ptr av)) (.iface 80 (ptr b)) (d + 1) s Q) :
    Nf (mkUC H as_ u hm M hu hH) 2 (.iface 80 (ptr b)) (.iface 72 (ptr a)) d s Q := by
  intro w hw
  have hl : LiveH H a := hal a (List.mem_of_getElem? ha)
  have hinc : Value.int .i64 (IntKind.i64.wrap ((d : Int) + 1)) = .int .i64 ((d + 1 : Nat) : Int) := by rw [wrap_i64 (by omega) (by omega)]; rfl
  have hle : decide (((d + 1 : Nat) : Int) > 50) = false := decide_eq_false (by omega)
  have e : (Nat.beq 80 72 && peq (some ⟨b, 0, none⟩) (some ⟨a, 0, none⟩)) = false := rfl
  obtain ⟨C, hC⟩ : ∃ C, C = mkUC H as_ u hm M hu hH := ⟨_, rfl⟩
  have hCu : C.u = u := by rw [hC]; rfl
  have hCM : C.M = M := by rw [hC]; rfl
  have hCH : C.H = H := by rw [hC]; rfl
  have hCc : C.ck = .pointer none := by rw [hC]; rfl
  have hCm : C.hm = hm := by rw [hC]; rfl
  have hub := hw.ub
  unfold UCells at hub
  rw [← hC] at hw hub ih ⊢
  obtain ⟨hiv1, qv, hiv2⟩ := hiv
  obtain ⟨hiy1, qy, hiy2⟩ := hiy
  unfold Nf NfAt at ih
  unfold NfAt
  (refine calls_enter_d Tryz.func111 Tryz.ntmps111 rfl rfl ?_)
  (refine r94 ?_)
  refine L_box rfl rfl rfl fun b5 w1 hn1 => ?_
  have hub1 := hn1.ext.heap (fun x => x) hub
  have h51 := hn1.here
  (repeat (first | (refine cL ?_; first | (refine cL_guard ?_; refine L_unwanted rfl rfl rfl ?_) | (refine cL_add ?_; refine L_valE (R_addI rfl rfl) hinc rfl rfl rfl ?_)) | refine r95 ?_))
  refine L_store rfl hub1 rfl rfl rfl fun w2 hub2 e2 s2 => ?_
  have hb5 : b5 ≠ C.u := by have := lt_of_heap hub; have := hn1.fresh; omega
  have hbM : ¬ C.M b5 := fun x => by have := hw.ml _ x; have := hn1.fresh; omega
  have hw2 : UW C s (d + 1) w2 := (hw.ext hn1.ext).deep hub2 e2
  have x2 : Ext C.M w w2 := hn1.ext.of_no.trans (e2.mono fun i _ h => by rw [h]; exact C.hu)
  have h52 := e2.heap (fun x => hb5 x) h51
  clear hub1 h51 e2 hub2
  have hub2 := hw2.ub
  unfold UCells at hub2
  have hA : Agree H w2 := hCH ▸ hw2.ag
  have hw2' : UW (mkUC H as_ u hm M hu hH) s (d + 1) w2 := hC ▸ hw2
  (repeat (first | (refine cL ?_; first | refine L_val (R_makeFunc (xs := [.tmp 5])) rfl rfl rfl ?_) | refine r95 ?_))
  refine L_defer (R_deferV rfl) rfl rfl ?_
  have hby : ∀ w', UW C s (d + 1) w' → Calls Tryz.prog 143 #[ptr C.u, .iface 72 (ptr a)] w' (Ret (Is (ptr a) w')) := fun w' hw' => by
    rw [hCu]
    exact abtp_yes (hC ▸ hw') hal hnd ha hh
  (repeat (first | (refine cL ?_; first | (refine cL_guard ?_; refine L_unwanted rfl rfl rfl ?_) | (refine cL_call ?_; first | refine L_callI (unalias_any _ _ _ rfl) rfl rfl ?_ | refine L_callI (unalias_any _ _ _ rfl) rfl rfl ?_ | refine L_callI (asNamed_no _ _ _ rfl rfl) rfl rfl ?_ | refine L_callI (asNamed_yes _ _) rfl rfl ?_ | refine L_callI (hby _ hw2) rfl rfl ?_ | refine L_callI (abtp_no _ _ _ _ rfl rfl) rfl rfl ?_ | refine L_callI (isTypeLit_param _ _) rfl rfl ?_) | (refine cL_eql ?_; refine L_valB (R_eqIf rfl rfl (hA.live hl') (hA.live hl)) e rfl rfl rfl ?_) | (refine cL_gtr ?_; refine L_valB (R_gtI rfl rfl) hle rfl rfl rfl ?_) | (refine cL_and ?_; refine L_val (R_andI rfl rfl) rfl rfl rfl ?_)) | refine r95 ?_))
  (refine G_draw No (0 :: 1 :: 2 :: 3 :: 4 :: 5 :: 6 :: 7 :: []) [] follows (by kernel_rfl) rfl ?_)
  have hAg : ∀ w', Ext No w2 w' → Agree H w' := fun _ he => hA.ext0 he
  (repeat (first | (refine cD_guard ?_; refine D_unwanted rfl rfl ?_) | (refine cD_load ?_; refine D_val0 (fun w he => R_loadB rfl (he.heap (fun x => x) h52) rfl) rfl rfl ?_) | (refine cD_call ?_; first | refine D_callQ (fun w he => Is.qt (hby _ (hw2.ext he))) rfl ?_ | refine D_callQ (fun w he => Is.qt (abtp_no _ _ _ _ rfl rfl)) rfl ?_) | refine r96 hAg ?_))
  refine D_nil fun w3 he3 => ?_
  refine G_frame (l := [(1, .iface 72 (ptr a)), (2, .iface 80 (ptr b)), (3, .int .u64 _), (4, .pointer none), (5, ptr b5), (12, ptr a), (13, .pointer none)]) ⟨rfl, rfl, rfl, rfl, rfl, rfl, rfl, trivial⟩ fun f0 => ?_
  have hw3 := hw2.ext he3
  have h53 := he3.heap (fun x => x) h52
  have x3 : Ext C.M w w3 := x2.trans he3.of_no
  have hat : Calls Tryz.prog 112 #[ptr C.u, ptr a] w3 (Ret (Is (.iface Tv (ptr av)) w3)) := by
    rw [hCu, ← hval]
    exact at_any (hC ▸ hw3) hal hnd ha hh
  (repeat (first | (refine cL ?_; first | (refine cL_guard ?_; refine L_unwanted rfl rfl rfl ?_) | (refine cL_call ?_; refine L_callI hat rfl rfl ?_)) | refine r95 ?_))
  refine L_callR (ih w3 hw3) rfl rfl fun v w4 ⟨r, s4, hv, hq4, hw4, x4⟩ => ?_
  subst hv
  have h54 := x4.heap hbM h53
  have hA4 : Agree H w4 := hCH ▸ hw4.ag
  cases r with
  | false =>
    (refine r94 ?_)
    refine G_ret ?_
    intro tmps htm
    exact nf_leave (fun w => ResV.tmp rfl _ w tmps htm) rfl h54 hw4 (by omega) hq4 (x3.trans x4)
  | true =>
    (repeat (first | (refine cL ?_; first | (refine cL_guard ?_; refine L_unwanted rfl rfl rfl ?_) | (refine cL_call ?_; first | refine L_callI (hiv1 _ hA4) rfl rfl ?_ | refine L_callI (hiy1 _ hA4) rfl rfl ?_ | refine L_callI (hiv2 _) rfl rfl ?_ | refine L_callI (hiy2 _) rfl rfl ?_) | (refine cL_and ?_; refine L_val (R_andI rfl rfl) rfl rfl rfl ?_)) | refine r95 ?_))
    refine G_ret ?_
    intro tmps htm
    exact nf_leave (fun w => ResV.tmp rfl _ w tmps htm) rfl h54 hw4 (by omega) hq4 (x3.trans x4)

end
end Go.Proofs.YtjilnjifegeceaaGreatDoor

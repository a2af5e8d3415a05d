/-
  A part of the proof that laws.FnFinds returns true at every input: the walk's own rules and the contracts of functions, in build order.
  Its conditions are those of the statement: see the last text.
-/
import Derived.Test.YtjilnjifegeceaaGreatDoorFnFindsPartK

/-
  What lies under a defined type; no type of ours is an interface.
-/
namespace Go.Proofs.YtjilnjifegeceaaGreatDoor
set_option maxRecDepth 100000
set_option maxHeartbeats 4000000
attribute [local irreducible] Calls execOp

theorem r128 {G G' : Prop} (k : G') (h : Hid G' → G := by intro k_; (repeat (first | (refine cL ?_; first | (refine cL_move ?_; refine L_val R_move rfl rfl rfl ?_) | (refine cL_fieldAddr ?_; refine L_val (R_fa rfl) rfl rfl rfl ?_) | (refine cL_nilCheck ?_; refine L_val (R_nil rfl) rfl rfl rfl ?_) | (refine cL_assign ?_; refine L_val R_assign rfl rfl rfl ?_) | (refine cL_neq ?_; first | refine L_val (R_nePN rfl rfl) rfl rfl rfl ?_ | refine L_val (R_neI rfl rfl) rfl rfl rfl ?_ | refine L_val (R_neB rfl rfl) rfl rfl rfl ?_ | refine L_val (R_neIfN rfl rfl) rfl rfl rfl ?_ | refine L_val (R_neIfNN rfl) rfl rfl rfl ?_) | refine L_nil ?_) | refine G_seq ?_ | refine G_region ?_ | refine G_skip ?_ | refine G_block ?_ | refine G_end ?_ | refine G_true rfl ?_ | refine G_false rfl ?_)); exact k_.out) : G := h ⟨k⟩
theorem r129 {G G' : Prop} (k : G') (h : Hid G' → G := by intro k_; (first | (refine cL ?_; first | (refine cL_move ?_; refine L_val R_move rfl rfl rfl ?_) | (refine cL_fieldAddr ?_; refine L_val (R_fa rfl) rfl rfl rfl ?_) | (refine cL_nilCheck ?_; refine L_val (R_nil rfl) rfl rfl rfl ?_) | (refine cL_assign ?_; refine L_val R_assign rfl rfl rfl ?_) | (refine cL_neq ?_; first | refine L_val (R_nePN rfl rfl) rfl rfl rfl ?_ | refine L_val (R_neI rfl rfl) rfl rfl rfl ?_ | refine L_val (R_neB rfl rfl) rfl rfl rfl ?_ | refine L_val (R_neIfN rfl rfl) rfl rfl rfl ?_ | refine L_val (R_neIfNN rfl) rfl rfl rfl ?_) | refine L_nil ?_) | refine G_seq ?_ | refine G_region ?_ | refine G_skip ?_ | refine G_block ?_ | refine G_end ?_ | refine G_true rfl ?_ | refine G_false rfl ?_); exact k_.out) : G := h ⟨k⟩
theorem r130 {G G' : Prop} (k : G') (h : Hid G' → G := by intro k_; (first | (refine cL ?_; first | (refine cL_move ?_; refine L_val R_move rfl rfl rfl ?_) | (refine cL_load ?_; first | refine L_val (R_loadB rfl (by assumption) (by rfl)) rfl rfl rfl ?_ | refine L_val (R_loadH (by assumption) rfl (by assumption) (by rfl)) rfl rfl rfl ?_) | (refine cL_fieldAddr ?_; refine L_val (R_fa rfl) rfl rfl rfl ?_) | (refine cL_nilCheck ?_; refine L_val (R_nil rfl) rfl rfl rfl ?_) | (refine cL_assign ?_; refine L_val R_assign rfl rfl rfl ?_) | (refine cL_eql ?_; first | refine L_val (R_eqPN rfl rfl) rfl rfl rfl ?_ | refine L_val (R_eqI rfl rfl) rfl rfl rfl ?_ | refine L_val (R_eqB rfl rfl) rfl rfl rfl ?_ | refine L_val (R_eqIfN rfl rfl) rfl rfl rfl ?_ | refine L_val (R_eqIfNN rfl) rfl rfl rfl ?_) | (refine cL_not ?_; refine L_val (R_not rfl) rfl rfl rfl ?_) | refine L_nil ?_) | refine G_seq ?_ | refine G_region ?_ | refine G_skip ?_ | refine G_block ?_ | refine G_end ?_ | refine G_true rfl ?_ | refine G_false rfl ?_); exact k_.out) : G := h ⟨k⟩
theorem r131 {G G' : Prop} (k : G') (h : Hid G' → G := by intro k_; (first | (refine cL ?_; first | (refine cL_move ?_; refine L_val R_move rfl rfl rfl ?_) | (refine cL_assign ?_; refine L_val R_assign rfl rfl rfl ?_) | (refine cL_extract ?_; refine L_val (R_extract rfl rfl) rfl rfl rfl ?_) | (refine cL_typeAssert ?_; first | refine L_val (R_taY rfl) rfl rfl rfl ?_ | refine L_val (R_taN rfl rfl) rfl rfl rfl ?_ | refine L_val (R_taNil rfl) rfl rfl rfl ?_) | (refine cL_not ?_; refine L_val (R_not rfl) rfl rfl rfl ?_) | refine L_nil ?_) | refine G_seq ?_ | refine G_region ?_ | refine G_skip ?_ | refine G_block ?_ | refine G_end ?_ | refine G_true rfl ?_ | refine G_false rfl ?_); exact k_.out) : G := h ⟨k⟩

theorem run_call_loadU {P : Program} {f : FuncId} {fn : Func} (hf : P.funcs[f]? = some fn) (hname : (fn.name == "runtime.NumGoroutine") = false) (hb : fn.body.isNone = true) (hn : Extern.findNext fn = none) (k : IntKind)
    (he : Extern.find fn = some (Extern.Atomic.loadT (.int k))) {a : Addr} {x : Int} {w : World} (hc : w.cell? a = some (.int k x)) :
    (callFunc f #[.pointer (some a)]).run P w = .ok (.value (.int k x)) w := by
  rw [run_callFunc_extern hf hname hb hn he]
  change (Sem.run P (do
    let a' ← asAddr (.pointer (some a))
    Extern.Atomic.read (.int k) a') w).andThen _ = _
  simp [Extern.Atomic.read, asAddr, hc, Result.andThen]

theorem L_loadU {n : Nat} {ops rest : List Oper} {K : LK} {f : Fm} {ds : List Deferred} {d : Nat} {ty : TypeId} {pos : String} {aft : Array Edge} {g : Option (Nat × Bool)} {w : World} {x : Operand} {ts : Array TypeId} {b i : Nat} {cs : List Value} {T : TypeId} {m : Int}
    (hx : ev f x = .pointer (some ⟨b, i, none⟩)) (hb : w.heap[b]? = some (Ob cs T)) (hv : lget cs i = some (.int .u32 m))
    (hw : wantd ops f ⟨some d, .call ⟨.value (.func 211), #[x], ts⟩, ty, pos, aft, g⟩ = true) (hn : Nat.blt d n = true)
    (h : L Tryz.prog n ops K rest (upd f d (.int .u32 m)) ds w) :
    L Tryz.prog n ops K (⟨some d, .call ⟨.value (.func 211), #[x], ts⟩, ty, pos, aft, g⟩ :: rest) f ds w := by
  have hc : w.cell? ⟨b, i, none⟩ = some (.int .u32 m) := by
    rw [lget_eq] at hv
    simp [World.cell?, hb, Ob]
    exact hv
  have hr := run_call_loadU (P := Tryz.prog) Tryz.func211 (by kernel_rfl) (by kernel_rfl) (by kernel_rfl) .u32 (by kernel_rfl) hc
  refine L_val (v := .int .u32 m) (w' := w) ?_ hw rfl hn h
  simp only [execOp, resolve, ev, Deferred.ofValue, Sem.run_bind, Sem.run_pure, Result.andThen_ok, invoke]
  simp [hx, hr]

theorem R_andU {P : Program} {f : Fm} {w : World} {dst : Option Nat} {ty : TypeId} {pos : String} {aft : Array Edge} {g : Option (Nat × Bool)} {xt yt : TypeId} {x y : Operand} {m c r : Int} (hx : ev f x = .int .u32 m) (hy : ev f y = .int .u32 c) (hr : bits .and .u32 m c = r) :
    (execOp (ev f) ⟨dst, .binOp .and xt x y yt, ty, pos, aft, g⟩).run P w = .ok (.value (.int .u32 r)) w := by
  rw [← hr]
  exact R_andI hx hy

section
variable {H : Hp} {a : Nat} {obj inst m1 m2 fr und vz me : Value} (w : World) (hA : Agree H w) (h : H a = some (Ob (namedCells obj inst m1 m2 fr und vz me) 148))
include hA h

theorem stateHas_any {c : Int} (hc : c = 3 ∨ c = 8) : Calls Tryz.prog 183 #[ptr a, .int .u32 c] w (Ret (Is (.bool true) w)) := by
  have hb := hA _ _ h
  rcases hc with rfl | rfl
  all_goals
    (refine calls_enter Tryz.func183 Tryz.ntmps183 rfl rfl ?_)
    (refine r128 ?_)
    refine L_loadU rfl hb rfl rfl rfl ?_
    (repeat (first | (refine cL ?_; first | (refine cL_and ?_; refine L_val (R_andU rfl rfl rfl) rfl rfl rfl ?_)) | refine r129 ?_))
    (refine G_retF rfl ?_)
    exact ⟨_, rfl, rfl, rfl⟩

theorem unpack_any : Calls Tryz.prog 181 #[ptr a] w (Ret (Is (ptr a) w)) := by
  refine calls_enter_d Tryz.func181 Tryz.ntmps181 rfl rfl ?_
  (repeat (first | (refine cL ?_; first | (refine cL_guard ?_; refine L_unwanted rfl rfl rfl ?_) | (refine cL_call ?_; refine L_callI (stateHas_any w hA h (.inl rfl)) rfl rfl ?_)) | refine r89 ?_))
  refine G_ret ?_
  intro tmps htm
  exact ⟨_, ResV.tmp rfl _ w tmps htm, _, rfl, rfl, rfl⟩

theorem rhs_any : Calls Tryz.prog 182 #[ptr a] w (Ret (Is fr w)) := by
  (refine calls_enter Tryz.func182 Tryz.ntmps182 rfl rfl ?_)
  (repeat (first | (refine cL ?_; first | (refine cL_load ?_; refine L_val (R_loadH hA rfl h rfl) rfl rfl rfl ?_)) | refine r12 ?_))
  (refine G_retF rfl ?_)
  exact ⟨_, rfl, rfl, rfl⟩

theorem namedUnder_any (hu : UndOK fr und) : Calls Tryz.prog 146 #[ptr a] w (Ret (Is und w)) := by
  obtain ⟨⟨T, x, rfl⟩, T', y, rfl, -⟩ := hu
  (refine calls_enter Tryz.func146 Tryz.ntmps146 rfl rfl ?_)
  (repeat (first | (refine cL ?_; first | (refine cL_load ?_; refine L_val (R_loadH hA rfl h rfl) rfl rfl rfl ?_) | (refine cL_call ?_; first | refine L_callI (unpack_any w hA h) rfl rfl ?_ | refine L_callI (rhs_any w hA h) rfl rfl ?_ | refine L_callI (stateHas_any w hA h (.inr rfl)) rfl rfl ?_)) | refine r130 ?_))
  (refine G_retF rfl ?_)
  exact ⟨_, rfl, rfl, rfl⟩
end

instance call_namedUnder : CallT Tryz.prog 146 := call_of Tryz.func146 (by kernel_rfl) (by kernel_rfl)
instance inv_namedUnder : InvT Tryz.prog 80 "Underlying" 146 := ⟨fun a w => by kernel_rfl⟩

theorem lit_notIface {T : Nat} (h : litT T = true) : Nat.beq T 76 = false := by
  simp only [litT, Bool.or_eq_true] at h
  rcases h with ((((((h | h) | h) | h) | h) | h) | h) | h <;> (have := Nat.eq_of_beq_eq_true h; subst this; rfl)

theorem asInterface_named {H : Hp} {a : Nat} {obj inst m1 m2 fr und vz me : Value} (w : World) (hA : Agree H w) (h : H a = some (Ob (namedCells obj inst m1 m2 fr und vz me) 148)) (hu : UndOK fr und) :
    Calls Tryz.prog 148 #[.iface 80 (ptr a)] w (Ret (Is (.pointer none) w)) := by
  have hun := namedUnder_any w hA h hu
  obtain ⟨-, T', y, rfl, hT⟩ := hu
  have hT' := lit_notIface hT
  (refine calls_enter Tryz.func148 Tryz.ntmps148 rfl rfl ?_)
  (repeat (first | (refine cL ?_; first | (refine cL_typeAssert ?_; refine L_val (R_taN rfl hT') rfl rfl rfl ?_) | (refine cL_call ?_; first | refine L_callI (unalias_any _ _ _ rfl) rfl rfl ?_ | refine L_invokeI rfl hun rfl rfl ?_)) | refine r131 ?_))
  (refine G_retF rfl ?_)
  exact ⟨_, rfl, rfl, rfl⟩

theorem asInterface_lit {T a : Nat} (w : World) (hT : litT T = true) : Calls Tryz.prog 148 #[.iface T (ptr a)] w (Ret (Is (.pointer none) w)) := by
  simp only [litT, Bool.or_eq_true] at hT
  rcases hT with ((((((h | h) | h) | h) | h) | h) | h) | h <;> (have := Nat.eq_of_beq_eq_true h; subst this; clear h)
  all_goals
    (refine calls_enter Tryz.func148 Tryz.ntmps148 rfl rfl ?_)
    (repeat (first | (refine cL ?_; first | (refine cL_call ?_; first | refine L_callI (unalias_any _ _ _ rfl) rfl rfl ?_ | refine L_invokeI rfl (under_basic a w) rfl rfl ?_ | refine L_invokeI rfl (under_pointer a w) rfl rfl ?_ | refine L_invokeI rfl (under_slice a w) rfl rfl ?_ | refine L_invokeI rfl (under_array a w) rfl rfl ?_ | refine L_invokeI rfl (under_map a w) rfl rfl ?_ | refine L_invokeI rfl (under_chan a w) rfl rfl ?_ | refine L_invokeI rfl (under_struct a w) rfl rfl ?_ | refine L_invokeI rfl (under_signature a w) rfl rfl ?_)) | refine r131 ?_))
    (refine G_retF rfl ?_)
    exact ⟨_, rfl, rfl, rfl⟩

/-- none of our types is an interface -/
theorem asInterface_any {E : Env} {H : Hp} {k n c : Int} {b : Bool} {nms : List ByteArray} {vs : List Value} {v : Value} (hS : Sh E H k n c b nms vs v) (hk : k ≠ 2) (w : World) (hA : Agree H w) : Calls Tryz.prog 148 #[v] w (Ret (Is (.pointer none) w)) := by
  cases hS with
  | param => exact absurd rfl hk
  | named hn h0 ho h hu => exact asInterface_named w hA h hu
  | inst hn h0 h hi ht hs hu => exact asInterface_named w hA h hu
  | _ => exact asInterface_lit w rfl
end Go.Proofs.YtjilnjifegeceaaGreatDoor

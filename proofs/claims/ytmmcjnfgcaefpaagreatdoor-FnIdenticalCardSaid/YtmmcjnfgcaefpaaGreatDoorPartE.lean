/-
  A part of the proof that laws.FnIdentical returns true at every input: the walk's own rules and the contracts of functions, in build order.
  Its conditions are those of the statement: see the last text.
-/
import Derived.Deep.OwnRows
import Derived.Test.YtmmcjnfgcaefpaaGreatDoorPartD

/-
  Defined types and their instances: what the package lays.
-/
namespace Go.Proofs.YtmmcjnfgcaefpaaGreatDoor
set_option maxRecDepth 100000
set_option maxHeartbeats 4000000
attribute [local irreducible] Calls execOp

def ObjC (n : Int) (pk : Option Addr) (s : ByteArray) (t : Value) : List Value := [.int .i64 n, .pointer pk, .string s, t]

def NamedRaw (o : Nat) (n : Int) (pk : Option Addr) (s : ByteArray) (cs : List Value) (w : World) (r : Value) (w' : World) : Prop :=
  ∃ a, r = ptr a ∧ w'.heap[a]? = some (Ob cs 124) ∧ w'.heap[o]? = some (Ob (ObjC n pk s (.iface 63 (ptr a))) 196) ∧ Ext (fun k => k = o) w w' ∧ w.heap.size ≤ a

theorem newNamedNil_any {o : Nat} {n : Int} {pk : Option Addr} {s : ByteArray} (w : World) (ho : w.heap[o]? = some (Ob (ObjC n pk s .nilIface) 196)) :
    Calls Tryz.prog 46 #[.pointer none, ptr o, .nilIface, .slice none 0 0] w (Ret (NamedRaw o n pk s (rawCells o false (.pointer none) (.int .u32 0) .nilIface .nilIface (.bool false) (.slice none 0 0) 0 0) w)) := by
  unfold ObjC at ho
  (refine calls_enter Tryz.func46 Tryz.ntmps46 rfl rfl ?_)
  (repeat (first | (refine cL ?_; first | (refine cL_move ?_; refine L_val R_move rfl rfl rfl ?_) | (refine cL_load ?_; first | refine L_val (R_loadB rfl (by assumption) (by rfl)) rfl rfl rfl ?_ | refine L_val (R_loadH (by assumption) rfl (by assumption) (by rfl)) rfl rfl rfl ?_) | (refine cL_fieldAddr ?_; refine L_val (R_fa rfl) rfl rfl rfl ?_) | (refine cL_nilCheck ?_; refine L_val (R_nil rfl) rfl rfl rfl ?_) | (refine cL_assign ?_; refine L_val R_assign rfl rfl rfl ?_) | (refine cL_eql ?_; first | refine L_val (R_eqPN rfl rfl) rfl rfl rfl ?_ | refine L_val (R_eqI rfl rfl) rfl rfl rfl ?_ | refine L_val (R_eqB rfl rfl) rfl rfl rfl ?_ | refine L_val (R_eqIfN rfl rfl) rfl rfl rfl ?_ | refine L_val (R_eqIfNN rfl) rfl rfl rfl ?_) | (refine cL_makeInterface ?_; refine L_val R_mkI rfl rfl rfl ?_) | (refine cL_build ?_; refine L_val (R_build (cs := rawCells o false (.pointer none) (.int .u32 0) .nilIface .nilIface (.bool false) (.slice none 0 0) 0 0) rfl) rfl rfl rfl ?_) | refine L_nil ?_) | refine G_seq ?_ | refine G_region ?_ | refine G_skip ?_ | refine G_block ?_ | refine G_end ?_ | refine G_true rfl ?_ | refine G_false rfl ?_))
  refine L_box rfl rfl rfl fun a w1 hn => ?_
  have ho1 := hn.ext.heap (fun h => h) ho
  have hao : a ≠ o := by have := lt_of_heap ho; have := hn.fresh; omega
  (repeat (first | (refine cL ?_; first | (refine cL_move ?_; refine L_val R_move rfl rfl rfl ?_) | (refine cL_load ?_; first | refine L_val (R_loadB rfl (by assumption) (by rfl)) rfl rfl rfl ?_ | refine L_val (R_loadH (by assumption) rfl (by assumption) (by rfl)) rfl rfl rfl ?_) | (refine cL_fieldAddr ?_; refine L_val (R_fa rfl) rfl rfl rfl ?_) | (refine cL_nilCheck ?_; refine L_val (R_nil rfl) rfl rfl rfl ?_) | (refine cL_assign ?_; refine L_val R_assign rfl rfl rfl ?_) | (refine cL_eql ?_; first | refine L_val (R_eqPN rfl rfl) rfl rfl rfl ?_ | refine L_val (R_eqI rfl rfl) rfl rfl rfl ?_ | refine L_val (R_eqB rfl rfl) rfl rfl rfl ?_ | refine L_val (R_eqIfN rfl rfl) rfl rfl rfl ?_ | refine L_val (R_eqIfNN rfl) rfl rfl rfl ?_) | (refine cL_makeInterface ?_; refine L_val R_mkI rfl rfl rfl ?_) | refine L_nil ?_) | refine G_seq ?_ | refine G_region ?_ | refine G_skip ?_ | refine G_block ?_ | refine G_end ?_ | refine G_true rfl ?_ | refine G_false rfl ?_))
  refine L_store rfl ho1 rfl rfl rfl fun w2 h2 e2 s2 => ?_
  (repeat (first | (refine cL ?_; first | (refine cL_move ?_; refine L_val R_move rfl rfl rfl ?_) | (refine cL_load ?_; first | refine L_val (R_loadB rfl (by assumption) (by rfl)) rfl rfl rfl ?_ | refine L_val (R_loadH (by assumption) rfl (by assumption) (by rfl)) rfl rfl rfl ?_) | (refine cL_fieldAddr ?_; refine L_val (R_fa rfl) rfl rfl rfl ?_) | (refine cL_nilCheck ?_; refine L_val (R_nil rfl) rfl rfl rfl ?_) | (refine cL_assign ?_; refine L_val R_assign rfl rfl rfl ?_) | (refine cL_eql ?_; first | refine L_val (R_eqPN rfl rfl) rfl rfl rfl ?_ | refine L_val (R_eqI rfl rfl) rfl rfl rfl ?_ | refine L_val (R_eqB rfl rfl) rfl rfl rfl ?_ | refine L_val (R_eqIfN rfl rfl) rfl rfl rfl ?_ | refine L_val (R_eqIfNN rfl) rfl rfl rfl ?_) | (refine cL_makeInterface ?_; refine L_val R_mkI rfl rfl rfl ?_) | refine L_nil ?_) | refine G_seq ?_ | refine G_region ?_ | refine G_skip ?_ | refine G_block ?_ | refine G_end ?_ | refine G_true rfl ?_ | refine G_false rfl ?_))
  (refine G_retF rfl ?_)
  refine ⟨_, rfl, a, rfl, e2.heap (fun h => hao h) hn.here, h2, hn.ext.of_no.trans e2, ?_⟩
  rw [hn.fresh]
  exact Nat.le_refl _

theorem newNamedLit_any {o : Nat} {n : Int} {pk : Option Addr} {s : ByteArray} {T b : Nat} (w : World) (ho : w.heap[o]? = some (Ob (ObjC n pk s .nilIface) 196)) :
    Calls Tryz.prog 46 #[.pointer none, ptr o, .iface T (ptr b), .slice none 0 0] w (Ret (NamedRaw o n pk s (rawCells o false (.pointer none) (.int .u32 0) (.iface T (ptr b)) .nilIface (.bool false) (.slice none 0 0) 0 0) w)) := by
  unfold ObjC at ho
  (refine calls_enter Tryz.func46 Tryz.ntmps46 rfl rfl ?_)
  (repeat (first | (refine cL ?_; first | (refine cL_move ?_; refine L_val R_move rfl rfl rfl ?_) | (refine cL_load ?_; first | refine L_val (R_loadB rfl (by assumption) (by rfl)) rfl rfl rfl ?_ | refine L_val (R_loadH (by assumption) rfl (by assumption) (by rfl)) rfl rfl rfl ?_) | (refine cL_fieldAddr ?_; refine L_val (R_fa rfl) rfl rfl rfl ?_) | (refine cL_nilCheck ?_; refine L_val (R_nil rfl) rfl rfl rfl ?_) | (refine cL_assign ?_; refine L_val R_assign rfl rfl rfl ?_) | (refine cL_eql ?_; first | refine L_val (R_eqPN rfl rfl) rfl rfl rfl ?_ | refine L_val (R_eqI rfl rfl) rfl rfl rfl ?_ | refine L_val (R_eqB rfl rfl) rfl rfl rfl ?_ | refine L_val (R_eqIfN rfl rfl) rfl rfl rfl ?_ | refine L_val (R_eqIfNN rfl) rfl rfl rfl ?_) | (refine cL_makeInterface ?_; refine L_val R_mkI rfl rfl rfl ?_) | (refine cL_build ?_; refine L_val (R_build (cs := rawCells o false (.pointer none) (.int .u32 0) (.iface T (ptr b)) .nilIface (.bool false) (.slice none 0 0) 0 0) rfl) rfl rfl rfl ?_) | refine L_nil ?_) | refine G_seq ?_ | refine G_region ?_ | refine G_skip ?_ | refine G_block ?_ | refine G_end ?_ | refine G_true rfl ?_ | refine G_false rfl ?_))
  refine L_box rfl rfl rfl fun a w1 hn => ?_
  have ho1 := hn.ext.heap (fun h => h) ho
  have hao : a ≠ o := by have := lt_of_heap ho; have := hn.fresh; omega
  (repeat (first | (refine cL ?_; first | (refine cL_move ?_; refine L_val R_move rfl rfl rfl ?_) | (refine cL_load ?_; first | refine L_val (R_loadB rfl (by assumption) (by rfl)) rfl rfl rfl ?_ | refine L_val (R_loadH (by assumption) rfl (by assumption) (by rfl)) rfl rfl rfl ?_) | (refine cL_fieldAddr ?_; refine L_val (R_fa rfl) rfl rfl rfl ?_) | (refine cL_nilCheck ?_; refine L_val (R_nil rfl) rfl rfl rfl ?_) | (refine cL_assign ?_; refine L_val R_assign rfl rfl rfl ?_) | (refine cL_eql ?_; first | refine L_val (R_eqPN rfl rfl) rfl rfl rfl ?_ | refine L_val (R_eqI rfl rfl) rfl rfl rfl ?_ | refine L_val (R_eqB rfl rfl) rfl rfl rfl ?_ | refine L_val (R_eqIfN rfl rfl) rfl rfl rfl ?_ | refine L_val (R_eqIfNN rfl) rfl rfl rfl ?_) | (refine cL_makeInterface ?_; refine L_val R_mkI rfl rfl rfl ?_) | refine L_nil ?_) | refine G_seq ?_ | refine G_region ?_ | refine G_skip ?_ | refine G_block ?_ | refine G_end ?_ | refine G_true rfl ?_ | refine G_false rfl ?_))
  refine L_store rfl ho1 rfl rfl rfl fun w2 h2 e2 s2 => ?_
  (repeat (first | (refine cL ?_; first | (refine cL_move ?_; refine L_val R_move rfl rfl rfl ?_) | (refine cL_load ?_; first | refine L_val (R_loadB rfl (by assumption) (by rfl)) rfl rfl rfl ?_ | refine L_val (R_loadH (by assumption) rfl (by assumption) (by rfl)) rfl rfl rfl ?_) | (refine cL_fieldAddr ?_; refine L_val (R_fa rfl) rfl rfl rfl ?_) | (refine cL_nilCheck ?_; refine L_val (R_nil rfl) rfl rfl rfl ?_) | (refine cL_assign ?_; refine L_val R_assign rfl rfl rfl ?_) | (refine cL_eql ?_; first | refine L_val (R_eqPN rfl rfl) rfl rfl rfl ?_ | refine L_val (R_eqI rfl rfl) rfl rfl rfl ?_ | refine L_val (R_eqB rfl rfl) rfl rfl rfl ?_ | refine L_val (R_eqIfN rfl rfl) rfl rfl rfl ?_ | refine L_val (R_eqIfNN rfl) rfl rfl rfl ?_) | (refine cL_makeInterface ?_; refine L_val R_mkI rfl rfl rfl ?_) | refine L_nil ?_) | refine G_seq ?_ | refine G_region ?_ | refine G_skip ?_ | refine G_block ?_ | refine G_end ?_ | refine G_true rfl ?_ | refine G_false rfl ?_))
  (refine G_retF rfl ?_)
  refine ⟨_, rfl, a, rfl, e2.heap (fun h => hao h) hn.here, h2, hn.ext.of_no.trans e2, ?_⟩
  rw [hn.fresh]
  exact Nat.le_refl _

/-- a generic declaration -/
theorem newNamedG_any {o : Nat} {n : Int} {pk : Option Addr} {s : ByteArray} (w : World) (ho : w.heap[o]? = some (Ob (ObjC n pk s .nilIface) 196)) :
    Calls Tryz.prog 23 #[ptr o, .nilIface, .slice none 0 0] w (Ret (NamedRaw o n pk s (rawCells o true (.pointer none) (.int .u32 0) .nilIface .nilIface (.bool false) (.slice none 0 0) 0 0) w)) := by
  (refine calls_enter Tryz.func23 Tryz.ntmps23 rfl rfl ?_)
  (repeat (first | (refine cL ?_; first | (refine cL_move ?_; refine L_val R_move rfl rfl rfl ?_) | (refine cL_fieldAddr ?_; refine L_val (R_fa rfl) rfl rfl rfl ?_) | (refine cL_nilCheck ?_; refine L_val (R_nil rfl) rfl rfl rfl ?_) | (refine cL_assign ?_; refine L_val R_assign rfl rfl rfl ?_) | (refine cL_call ?_; refine L_callI (asNamed_nil _) rfl rfl ?_) | (refine cL_eql ?_; first | refine L_val (R_eqPN rfl rfl) rfl rfl rfl ?_ | refine L_val (R_eqI rfl rfl) rfl rfl rfl ?_ | refine L_val (R_eqB rfl rfl) rfl rfl rfl ?_ | refine L_val (R_eqIfN rfl rfl) rfl rfl rfl ?_ | refine L_val (R_eqIfNN rfl) rfl rfl rfl ?_) | (refine cL_neq ?_; first | refine L_val (R_nePN rfl rfl) rfl rfl rfl ?_ | refine L_val (R_neI rfl rfl) rfl rfl rfl ?_ | refine L_val (R_neB rfl rfl) rfl rfl rfl ?_ | refine L_val (R_neIfN rfl rfl) rfl rfl rfl ?_ | refine L_val (R_neIfNN rfl) rfl rfl rfl ?_) | (refine cL_makeInterface ?_; refine L_val R_mkI rfl rfl rfl ?_) | refine L_nil ?_) | refine G_seq ?_ | refine G_region ?_ | refine G_skip ?_ | refine G_block ?_ | refine G_end ?_ | refine G_true rfl ?_ | refine G_false rfl ?_))
  refine L_callR (newNamedNil_any w ho) rfl rfl fun v w1 ⟨a, hv, h1, ho1, x1, f1⟩ => ?_
  subst hv
  have hoa : o ≠ a := by have := lt_of_heap ho; omega
  unfold rawCells at h1
  (repeat (first | (refine cL ?_; first | (refine cL_move ?_; refine L_val R_move rfl rfl rfl ?_) | (refine cL_fieldAddr ?_; refine L_val (R_fa rfl) rfl rfl rfl ?_) | (refine cL_nilCheck ?_; refine L_val (R_nil rfl) rfl rfl rfl ?_) | (refine cL_assign ?_; refine L_val R_assign rfl rfl rfl ?_) | (refine cL_eql ?_; first | refine L_val (R_eqPN rfl rfl) rfl rfl rfl ?_ | refine L_val (R_eqI rfl rfl) rfl rfl rfl ?_ | refine L_val (R_eqB rfl rfl) rfl rfl rfl ?_ | refine L_val (R_eqIfN rfl rfl) rfl rfl rfl ?_ | refine L_val (R_eqIfNN rfl) rfl rfl rfl ?_) | (refine cL_neq ?_; first | refine L_val (R_nePN rfl rfl) rfl rfl rfl ?_ | refine L_val (R_neI rfl rfl) rfl rfl rfl ?_ | refine L_val (R_neB rfl rfl) rfl rfl rfl ?_ | refine L_val (R_neIfN rfl rfl) rfl rfl rfl ?_ | refine L_val (R_neIfNN rfl) rfl rfl rfl ?_) | (refine cL_makeInterface ?_; refine L_val R_mkI rfl rfl rfl ?_) | refine L_nil ?_) | refine G_seq ?_ | refine G_region ?_ | refine G_skip ?_ | refine G_block ?_ | refine G_end ?_ | refine G_true rfl ?_ | refine G_false rfl ?_))
  refine L_store rfl h1 rfl rfl rfl fun w2 h2 e2 s2 => ?_
  (repeat (first | (refine cL ?_; first | (refine cL_move ?_; refine L_val R_move rfl rfl rfl ?_) | (refine cL_fieldAddr ?_; refine L_val (R_fa rfl) rfl rfl rfl ?_) | (refine cL_nilCheck ?_; refine L_val (R_nil rfl) rfl rfl rfl ?_) | (refine cL_assign ?_; refine L_val R_assign rfl rfl rfl ?_) | (refine cL_eql ?_; first | refine L_val (R_eqPN rfl rfl) rfl rfl rfl ?_ | refine L_val (R_eqI rfl rfl) rfl rfl rfl ?_ | refine L_val (R_eqB rfl rfl) rfl rfl rfl ?_ | refine L_val (R_eqIfN rfl rfl) rfl rfl rfl ?_ | refine L_val (R_eqIfNN rfl) rfl rfl rfl ?_) | (refine cL_neq ?_; first | refine L_val (R_nePN rfl rfl) rfl rfl rfl ?_ | refine L_val (R_neI rfl rfl) rfl rfl rfl ?_ | refine L_val (R_neB rfl rfl) rfl rfl rfl ?_ | refine L_val (R_neIfN rfl rfl) rfl rfl rfl ?_ | refine L_val (R_neIfNN rfl) rfl rfl rfl ?_) | (refine cL_makeInterface ?_; refine L_val R_mkI rfl rfl rfl ?_) | refine L_nil ?_) | refine G_seq ?_ | refine G_region ?_ | refine G_skip ?_ | refine G_block ?_ | refine G_end ?_ | refine G_true rfl ?_ | refine G_false rfl ?_))
  (refine G_retF rfl ?_)
  exact ⟨_, rfl, a, rfl, h2, e2.heap (fun h => hoa h) ho1, x1.trans_new e2 (fun i hi hm => by omega), f1⟩

/-- a declaration with its type -/
theorem newNamedD_any {o : Nat} {n : Int} {pk : Option Addr} {s : ByteArray} {T b : Nat} (w : World) (ho : w.heap[o]? = some (Ob (ObjC n pk s .nilIface) 196)) (hT : litT T = true) :
    Calls Tryz.prog 23 #[ptr o, .iface T (ptr b), .slice none 0 0] w (Ret (NamedRaw o n pk s (rawCells o false (.pointer none) (.int .u32 0) (.iface T (ptr b)) (.iface T (ptr b)) (.bool false) (.slice none 0 0) 0 15) w)) := by
  obtain ⟨hA, hN⟩ := lit_notNamed hT
  (refine calls_enter Tryz.func23 Tryz.ntmps23 rfl rfl ?_)
  (repeat (first | (refine cL ?_; first | (refine cL_move ?_; refine L_val R_move rfl rfl rfl ?_) | (refine cL_fieldAddr ?_; refine L_val (R_fa rfl) rfl rfl rfl ?_) | (refine cL_nilCheck ?_; refine L_val (R_nil rfl) rfl rfl rfl ?_) | (refine cL_assign ?_; refine L_val R_assign rfl rfl rfl ?_) | (refine cL_call ?_; refine L_callI (asNamed_no _ _ _ hA hN) rfl rfl ?_) | (refine cL_eql ?_; first | refine L_val (R_eqPN rfl rfl) rfl rfl rfl ?_ | refine L_val (R_eqI rfl rfl) rfl rfl rfl ?_ | refine L_val (R_eqB rfl rfl) rfl rfl rfl ?_ | refine L_val (R_eqIfN rfl rfl) rfl rfl rfl ?_ | refine L_val (R_eqIfNN rfl) rfl rfl rfl ?_) | (refine cL_neq ?_; first | refine L_val (R_nePN rfl rfl) rfl rfl rfl ?_ | refine L_val (R_neI rfl rfl) rfl rfl rfl ?_ | refine L_val (R_neB rfl rfl) rfl rfl rfl ?_ | refine L_val (R_neIfN rfl rfl) rfl rfl rfl ?_ | refine L_val (R_neIfNN rfl) rfl rfl rfl ?_) | (refine cL_makeInterface ?_; refine L_val R_mkI rfl rfl rfl ?_) | refine L_nil ?_) | refine G_seq ?_ | refine G_region ?_ | refine G_skip ?_ | refine G_block ?_ | refine G_end ?_ | refine G_true rfl ?_ | refine G_false rfl ?_))
  refine L_callR (newNamedLit_any w ho) rfl rfl fun v w1 ⟨a, hv, h1, ho1, x1, f1⟩ => ?_
  subst hv
  have hoa : o ≠ a := by have := lt_of_heap ho; omega
  (repeat (first | (refine cL ?_; first | (refine cL_move ?_; refine L_val R_move rfl rfl rfl ?_) | (refine cL_fieldAddr ?_; refine L_val (R_fa rfl) rfl rfl rfl ?_) | (refine cL_nilCheck ?_; refine L_val (R_nil rfl) rfl rfl rfl ?_) | (refine cL_assign ?_; refine L_val R_assign rfl rfl rfl ?_) | (refine cL_eql ?_; first | refine L_val (R_eqPN rfl rfl) rfl rfl rfl ?_ | refine L_val (R_eqI rfl rfl) rfl rfl rfl ?_ | refine L_val (R_eqB rfl rfl) rfl rfl rfl ?_ | refine L_val (R_eqIfN rfl rfl) rfl rfl rfl ?_ | refine L_val (R_eqIfNN rfl) rfl rfl rfl ?_) | (refine cL_neq ?_; first | refine L_val (R_nePN rfl rfl) rfl rfl rfl ?_ | refine L_val (R_neI rfl rfl) rfl rfl rfl ?_ | refine L_val (R_neB rfl rfl) rfl rfl rfl ?_ | refine L_val (R_neIfN rfl rfl) rfl rfl rfl ?_ | refine L_val (R_neIfNN rfl) rfl rfl rfl ?_) | (refine cL_makeInterface ?_; refine L_val R_mkI rfl rfl rfl ?_) | refine L_nil ?_) | refine G_seq ?_ | refine G_region ?_ | refine G_skip ?_ | refine G_block ?_ | refine G_end ?_ | refine G_true rfl ?_ | refine G_false rfl ?_))
  refine L_callR (setUnderlying_any w1 h1 hT) rfl rfl fun v w2 ⟨hv, h2, e2, s2⟩ => ?_
  subst hv
  (repeat (first | (refine cL ?_; first | (refine cL_move ?_; refine L_val R_move rfl rfl rfl ?_) | (refine cL_fieldAddr ?_; refine L_val (R_fa rfl) rfl rfl rfl ?_) | (refine cL_nilCheck ?_; refine L_val (R_nil rfl) rfl rfl rfl ?_) | (refine cL_assign ?_; refine L_val R_assign rfl rfl rfl ?_) | (refine cL_eql ?_; first | refine L_val (R_eqPN rfl rfl) rfl rfl rfl ?_ | refine L_val (R_eqI rfl rfl) rfl rfl rfl ?_ | refine L_val (R_eqB rfl rfl) rfl rfl rfl ?_ | refine L_val (R_eqIfN rfl rfl) rfl rfl rfl ?_ | refine L_val (R_eqIfNN rfl) rfl rfl rfl ?_) | (refine cL_neq ?_; first | refine L_val (R_nePN rfl rfl) rfl rfl rfl ?_ | refine L_val (R_neI rfl rfl) rfl rfl rfl ?_ | refine L_val (R_neB rfl rfl) rfl rfl rfl ?_ | refine L_val (R_neIfN rfl rfl) rfl rfl rfl ?_ | refine L_val (R_neIfNN rfl) rfl rfl rfl ?_) | (refine cL_makeInterface ?_; refine L_val R_mkI rfl rfl rfl ?_) | refine L_nil ?_) | refine G_seq ?_ | refine G_region ?_ | refine G_skip ?_ | refine G_block ?_ | refine G_end ?_ | refine G_true rfl ?_ | refine G_false rfl ?_))
  (refine G_retF rfl ?_)
  exact ⟨_, rfl, a, rfl, h2, e2.heap (fun h => hoa h) ho1, x1.trans_new e2 (fun i hi hm => by omega), f1⟩

/-- an instance -/
theorem newInstance_any {H : Hp} {d o : Nat} {c : Value} {r : List Value} {n : Int} {pk : Option Addr} {s : ByteArray} {t : Value} {p : Option Addr} {len cap T b : Nat} (w : World) (hA : Agree H w) (hd : H d = some (Ob (c :: ptr o :: r) 124)) (ho : H o = some (Ob (ObjC n pk s t) 196))
    (hl : 0 < len) (hT : litT T = true) :
    Calls Tryz.prog 37 #[ptr d, .slice p len cap, .iface T (ptr b)] w (Ret fun r w' => ∃ a i tl o2 H', r = ptr a ∧ Grow H w H' w' ∧ H' a = some (Ob (rawCells o2 false (ptr i) (.int .u32 0) (.iface T (ptr b)) (.iface T (ptr b)) (.bool false) (.slice none 0 0) 0 15) 124) ∧
      H' i = some (Ob [ptr d, ptr tl] 199) ∧ H' tl = some (Ob [.slice p len cap] 230)) := by
  unfold ObjC at ho
  have hAg : ∀ w', Ext No w w' → Agree H w' := fun _ he => hA.ext0 he
  (refine calls_enter Tryz.func37 Tryz.ntmps37 rfl rfl ?_)
  (repeat (first | (refine cL ?_; first | (refine cL_move ?_; refine L_val R_move rfl rfl rfl ?_) | (refine cL_load ?_; first | refine L_val (R_loadB rfl (by assumption) (by rfl)) rfl rfl rfl ?_ | refine L_val (R_loadH (by assumption) rfl (by assumption) (by rfl)) rfl rfl rfl ?_) | (refine cL_fieldAddr ?_; refine L_val (R_fa rfl) rfl rfl rfl ?_) | (refine cL_nilCheck ?_; refine L_val (R_nil rfl) rfl rfl rfl ?_) | (refine cL_assign ?_; refine L_val R_assign rfl rfl rfl ?_) | (refine cL_makeInterface ?_; refine L_val R_mkI rfl rfl rfl ?_) | refine L_nil ?_) | refine G_seq ?_ | refine G_region ?_ | refine G_skip ?_ | refine G_block ?_ | refine G_end ?_ | refine G_true rfl ?_ | refine G_false rfl ?_))
  (refine G_draw No (0 :: 1 :: 2 :: 3 :: 4 :: 5 :: 6 :: 7 :: 8 :: 9 :: 10 :: 11 :: 12 :: 13 :: 14 :: 15 :: 16 :: 17 :: 18 :: 19 :: 20 :: 21 :: 22 :: 23 :: 24 :: 25 :: []) [24] follows (by kernel_rfl) rfl ?_)
  (repeat (first | (refine cD_move ?_; refine D_val0 (fun _ _ => R_move) rfl rfl ?_) | (refine cD_load ?_; refine D_val0 (fun w he => R_loadH (hAg w he) rfl (by assumption) (by rfl)) rfl rfl ?_) | (refine cD_fieldAddr ?_; refine D_val0 (fun _ _ => R_fa rfl) rfl rfl ?_) | (refine cD_nilCheck ?_; refine D_val0 (fun _ _ => R_nil rfl) rfl rfl ?_) | (refine cD_assign ?_; refine D_val0 (fun _ _ => R_assign) rfl rfl ?_) | (refine cD_makeInterface ?_; refine D_val0 (fun _ _ => R_mkI) rfl rfl ?_)))
  refine D_callRR (fun w he => newTypeName_any n pk s w) rfl fun w0 v w1 he0 ⟨o2, hv, hn1⟩ => ⟨hn1.ext, ?_⟩
  subst hv
  have hA1 := (hAg w0 he0).ext0 hn1.ext
  have hAg1 : ∀ w', Ext No w1 w' → Agree H w' := fun _ he => hA1.ext0 he
  (repeat (first | (refine cD_move ?_; refine D_val0 (fun _ _ => R_move) rfl rfl ?_) | (refine cD_load ?_; refine D_val0 (fun w he => R_loadH (hAg1 w he) rfl (by assumption) (by rfl)) rfl rfl ?_) | (refine cD_fieldAddr ?_; refine D_val0 (fun _ _ => R_fa rfl) rfl rfl ?_) | (refine cD_nilCheck ?_; refine D_val0 (fun _ _ => R_nil rfl) rfl rfl ?_) | (refine cD_assign ?_; refine D_val0 (fun _ _ => R_assign) rfl rfl ?_) | (refine cD_makeInterface ?_; refine D_val0 (fun _ _ => R_mkI) rfl rfl ?_)))
  refine D_nil fun w2 he2 => ?_
  have ho2 := he2.heap (fun h => h) hn1.here
  have x2 : Ext No w w2 := he0.trans (hn1.ext.trans he2)
  have f2 : w.heap.size ≤ o2 := by have := hn1.fresh; have := he0.size; omega
  (repeat (first | (refine cL ?_; first | (refine cL_move ?_; refine L_val R_move rfl rfl rfl ?_) | (refine cL_load ?_; first | refine L_val (R_loadB rfl (by assumption) (by rfl)) rfl rfl rfl ?_ | refine L_val (R_loadH (by assumption) rfl (by assumption) (by rfl)) rfl rfl rfl ?_) | (refine cL_fieldAddr ?_; refine L_val (R_fa rfl) rfl rfl rfl ?_) | (refine cL_nilCheck ?_; refine L_val (R_nil rfl) rfl rfl rfl ?_) | (refine cL_assign ?_; refine L_val R_assign rfl rfl rfl ?_) | (refine cL_makeInterface ?_; refine L_val R_mkI rfl rfl rfl ?_) | refine L_nil ?_) | refine G_seq ?_ | refine G_region ?_ | refine G_skip ?_ | refine G_block ?_ | refine G_end ?_ | refine G_true rfl ?_ | refine G_false rfl ?_))
  refine L_callR (newTypeList_some p len cap w2 hl) rfl rfl fun v w3 ⟨tl, hv, hn3⟩ => ?_
  subst hv
  (repeat (first | (refine cL ?_; first | (refine cL_move ?_; refine L_val R_move rfl rfl rfl ?_) | (refine cL_load ?_; first | refine L_val (R_loadB rfl (by assumption) (by rfl)) rfl rfl rfl ?_ | refine L_val (R_loadH (by assumption) rfl (by assumption) (by rfl)) rfl rfl rfl ?_) | (refine cL_fieldAddr ?_; refine L_val (R_fa rfl) rfl rfl rfl ?_) | (refine cL_nilCheck ?_; refine L_val (R_nil rfl) rfl rfl rfl ?_) | (refine cL_assign ?_; refine L_val R_assign rfl rfl rfl ?_) | (refine cL_makeInterface ?_; refine L_val R_mkI rfl rfl rfl ?_) | (refine cL_build ?_; refine L_val (R_build (cs := [ptr d, ptr tl]) rfl) rfl rfl rfl ?_) | refine L_nil ?_) | refine G_seq ?_ | refine G_region ?_ | refine G_skip ?_ | refine G_block ?_ | refine G_end ?_ | refine G_true rfl ?_ | refine G_false rfl ?_))
  refine L_box rfl rfl rfl fun i w4 hn4 => ?_
  (repeat (first | (refine cL ?_; first | (refine cL_move ?_; refine L_val R_move rfl rfl rfl ?_) | (refine cL_load ?_; first | refine L_val (R_loadB rfl (by assumption) (by rfl)) rfl rfl rfl ?_ | refine L_val (R_loadH (by assumption) rfl (by assumption) (by rfl)) rfl rfl rfl ?_) | (refine cL_fieldAddr ?_; refine L_val (R_fa rfl) rfl rfl rfl ?_) | (refine cL_nilCheck ?_; refine L_val (R_nil rfl) rfl rfl rfl ?_) | (refine cL_assign ?_; refine L_val R_assign rfl rfl rfl ?_) | (refine cL_makeInterface ?_; refine L_val R_mkI rfl rfl rfl ?_) | (refine cL_build ?_; refine L_val (R_build (cs := rawCells o2 false (ptr i) (.int .u32 0) .nilIface .nilIface (.bool false) (.slice none 0 0) 0 0) rfl) rfl rfl rfl ?_) | refine L_nil ?_) | refine G_seq ?_ | refine G_region ?_ | refine G_skip ?_ | refine G_block ?_ | refine G_end ?_ | refine G_true rfl ?_ | refine G_false rfl ?_))
  refine L_box rfl rfl rfl fun a w5 hn5 => ?_
  have ho5 := hn5.ext.heap (fun h => h) (hn4.ext.heap (fun h => h) (hn3.ext.heap (fun h => h) ho2))
  have lo2 := lt_of_heap ho2
  have f3 := hn3.fresh
  have f4 := hn4.fresh
  have f5 := hn5.fresh
  have z3 := hn3.size
  have z4 := hn4.size
  (repeat (first | (refine cL ?_; first | (refine cL_move ?_; refine L_val R_move rfl rfl rfl ?_) | (refine cL_load ?_; first | refine L_val (R_loadB rfl (by assumption) (by rfl)) rfl rfl rfl ?_ | refine L_val (R_loadH (by assumption) rfl (by assumption) (by rfl)) rfl rfl rfl ?_) | (refine cL_fieldAddr ?_; refine L_val (R_fa rfl) rfl rfl rfl ?_) | (refine cL_nilCheck ?_; refine L_val (R_nil rfl) rfl rfl rfl ?_) | (refine cL_assign ?_; refine L_val R_assign rfl rfl rfl ?_) | (refine cL_makeInterface ?_; refine L_val R_mkI rfl rfl rfl ?_) | refine L_nil ?_) | refine G_seq ?_ | refine G_region ?_ | refine G_skip ?_ | refine G_block ?_ | refine G_end ?_ | refine G_true rfl ?_ | refine G_false rfl ?_))
  refine L_store rfl ho5 rfl rfl rfl fun w6 h6 e6 s6 => ?_
  have ha6 := e6.heap (fun h => by omega) hn5.here
  (repeat (first | (refine cL ?_; first | (refine cL_move ?_; refine L_val R_move rfl rfl rfl ?_) | (refine cL_load ?_; first | refine L_val (R_loadB rfl (by assumption) (by rfl)) rfl rfl rfl ?_ | refine L_val (R_loadH (by assumption) rfl (by assumption) (by rfl)) rfl rfl rfl ?_) | (refine cL_fieldAddr ?_; refine L_val (R_fa rfl) rfl rfl rfl ?_) | (refine cL_nilCheck ?_; refine L_val (R_nil rfl) rfl rfl rfl ?_) | (refine cL_assign ?_; refine L_val R_assign rfl rfl rfl ?_) | (refine cL_makeInterface ?_; refine L_val R_mkI rfl rfl rfl ?_) | refine L_nil ?_) | refine G_seq ?_ | refine G_region ?_ | refine G_skip ?_ | refine G_block ?_ | refine G_end ?_ | refine G_true rfl ?_ | refine G_false rfl ?_))
  refine L_callR (setUnderlying_any w6 ha6 hT) rfl rfl fun v w7 ⟨hv, h7, e7, s7⟩ => ?_
  subst hv
  (repeat (first | (refine cL ?_; first | (refine cL_move ?_; refine L_val R_move rfl rfl rfl ?_) | (refine cL_load ?_; first | refine L_val (R_loadB rfl (by assumption) (by rfl)) rfl rfl rfl ?_ | refine L_val (R_loadH (by assumption) rfl (by assumption) (by rfl)) rfl rfl rfl ?_) | (refine cL_fieldAddr ?_; refine L_val (R_fa rfl) rfl rfl rfl ?_) | (refine cL_nilCheck ?_; refine L_val (R_nil rfl) rfl rfl rfl ?_) | (refine cL_assign ?_; refine L_val R_assign rfl rfl rfl ?_) | (refine cL_makeInterface ?_; refine L_val R_mkI rfl rfl rfl ?_) | refine L_nil ?_) | refine G_seq ?_ | refine G_region ?_ | refine G_skip ?_ | refine G_block ?_ | refine G_end ?_ | refine G_true rfl ?_ | refine G_false rfl ?_))
  (refine G_retF rfl ?_)
  have hi7 := e7.heap (fun h => by omega) (e6.heap (fun h => by omega) (hn5.ext.heap (fun h => h) hn4.here))
  have htl7 := e7.heap (fun h => by omega) (e6.heap (fun h => by omega) (hn5.ext.heap (fun h => h) (hn4.ext.heap (fun h => h) hn3.here)))
  have x5 : Ext No w w5 := x2.trans (hn3.ext.trans (hn4.ext.trans hn5.ext))
  have x7 : Ext No w w7 := (x5.trans_new e6 (fun k hk hm => by omega)).trans_new e7 (fun k hk hm => by have := x2.size; omega)
  have hx2 := x2.size
  obtain ⟨Ha, ga, -, hHa⟩ := (Grow.quiet hA x7).add h7 (by omega)
  obtain ⟨Hi, gi, lei, hHi⟩ := ga.add hi7 (by omega)
  obtain ⟨Ht, gt, let_, hHt⟩ := gi.add htl7 (by omega)
  exact ⟨_, rfl, a, i, tl, o2, Ht, rfl, gt, let_ _ _ (lei _ _ hHa), let_ _ _ hHi, hHt⟩
end Go.Proofs.YtmmcjnfgcaefpaaGreatDoor

/-
  The walk's own rules, tenth part: maps keyed by strings that grow by new keys alone; nil slices, nil maps.
-/
namespace Go.Proofs.YtmmcjnfgcaefpaaGreatDoor

class MapT (P : Program) (t : Nat) (kt et : outParam Nat) (z : outParam Value) : Prop where
  h : P.underlying t = some (.map kt et)
  hk : P.underlying kt = some .string
  hz : (P.info? et).map (·.zero) = some (some z)
class SliceE (P : Program) (t : Nat) : Prop where
  h : (match P.underlying t with | some (.slice _) => true | _ => false) = true
class MapE (P : Program) (t : Nat) : Prop where
  h : (match P.underlying t with | some (.map _ _) => true | _ => false) = true

/-- a map with these keys -/
def MapIs (w : World) (r : Nat) (ks : List ByteArray) : Prop := ∃ (es : Array MapEntry) (clock : Nat), w.heap[r]? = some (.map es clock) ∧ es.toList.map (·.key) = ks.map Value.string

theorem findNow_none {s : ByteArray} : ∀ {es : List MapEntry} {ks : List ByteArray} {i : Nat}, es.map (·.key) = ks.map Value.string → (∀ k ∈ ks, (s == k) = false) → Instr.findNow .string (.string s) es i = some none
  | [], ks, i, _, _ => rfl
  | e :: es, [], i, h, _ => by simp at h
  | e :: es, k :: ks, i, h, hs => by
    simp only [List.map_cons, List.cons.injEq] at h
    unfold Instr.findNow
    rw [h.1]
    simp only [Instr.sameNow, hs k List.mem_cons_self]
    exact findNow_none h.2 fun k hk => hs k (List.mem_cons_of_mem _ hk)

theorem run_getObjM {P : Program} {w : World} {r : Nat} {es : Array MapEntry} {c : Nat} (h : w.heap[r]? = some (.map es c)) : (getObj r).run P w = .ok (.map es c) w := by
  simp [getObj, Sem.run, h]
theorem run_setObjM {P : Program} {w : World} {r : Nat} {es : Array MapEntry} {c : Nat} (h : w.heap[r]? = some (.map es c)) (o : Obj) : (setObj r o).run P w = .ok () (World.setBlk w r o) := by
  simp [setObj, Sem.run, h, World.setBlk]
theorem run_checkKey {P : Program} {b : Bool} {n kt : Nat} {s : ByteArray} {w : World} (h : P.underlying kt = some .string) : (Instr.checkKey b (n + 1) kt (.string s)).run P w = .ok () w := by
  simp [Instr.checkKey, run_underlying h]
theorem run_findKeyS {P : Program} {kt : Nat} {s : ByteArray} {es : List MapEntry} {w : World} (h : P.underlying kt = some .string) (hf : Instr.findNow .string (.string s) es 0 = some none) : (Instr.findKey kt (.string s) es).run P w = .ok none w := by
  simp [Instr.findKey, run_underlying h, hf]

section
variable {P : Program} {f : Fm} {w : World}
variable {dst : Option Nat} {ty : TypeId} {pos : String} {aft : Array Edge} {g : Option (Nat × Bool)}

theorem R_lookupN {t kt et : Nat} {z : Value} [hm : MapT P t kt et z] {x y : Operand} {s : ByteArray} (hx : ev f x = .map none) (hy : ev f y = .string s) :
    (execOp (ev f) ⟨dst, .lookup t x y false, ty, pos, aft, g⟩).run P w = .ok (.value z) w := by
  have hz := run_zero (w := w) hm.hz
  simp only [execOp, hx, hy]
  have hck := fun b => run_checkKey (P := P) (b := b) (n := 9999) (s := s) (w := w) hm.hk
  have hfk := run_findKeyS (P := P) (w := w) (s := s) (es := []) hm.hk rfl
  simp only [Nat.reduceAdd] at hck
  simp [Instr.lookup, run_underlying hm.h, hck, hfk, hz]

theorem R_lookupA {t kt et : Nat} {z : Value} [hm : MapT P t kt et z] {x y : Operand} {s : ByteArray} {r : Nat} {ks : List ByteArray} (hx : ev f x = .map (some r)) (hy : ev f y = .string s) (hr : MapIs w r ks) (hs : ∀ k ∈ ks, (s == k) = false) :
    (execOp (ev f) ⟨dst, .lookup t x y false, ty, pos, aft, g⟩).run P w = .ok (.value z) w := by
  obtain ⟨es, clock, h1, h2⟩ := hr
  have hz := run_zero (w := w) hm.hz
  have hf := findNow_none (i := 0) h2 hs
  have hfk := run_findKeyS (P := P) (w := w) hm.hk hf
  have hck := fun b => run_checkKey (P := P) (b := b) (n := 9999) (s := s) (w := w) hm.hk
  simp only [Nat.reduceAdd] at hck
  simp only [execOp, hx, hy]
  simp [Instr.lookup, run_underlying hm.h, hck, hfk, hz, run_getObjM h1]

theorem R_makeMap {t : Nat} : (execOp (ev f) ⟨dst, .makeMap t none, ty, pos, aft, g⟩).run P w = .ok (.value (.map (some w.heap.size))) (w.alloc (.map #[] 0)) := by
  simp only [execOp]
  rfl

theorem R_mapUpdate {t kt et : Nat} {z : Value} [hm : MapT P t kt et z] {x y v : Operand} {s : ByteArray} {r : Nat} {ks : List ByteArray} (hx : ev f x = .map (some r)) (hy : ev f y = .string s) (hr : MapIs w r ks) (hs : ∀ k ∈ ks, (s == k) = false) :
    ∃ w', (execOp (ev f) ⟨dst, .mapUpdate t x y v, ty, pos, aft, g⟩).run P w = .ok .skip w' ∧ MapIs w' r (ks ++ [s]) ∧ Ext (fun b => b = r) w w' ∧ w'.heap.size = w.heap.size := by
  obtain ⟨es, clock, h1, h2⟩ := hr
  have hf := findNow_none (i := 0) h2 hs
  have hfk := run_findKeyS (P := P) (w := w) hm.hk hf
  have hck := fun b => run_checkKey (P := P) (b := b) (n := 9999) (s := s) (w := w) hm.hk
  simp only [Nat.reduceAdd] at hck
  have hlt := lt_of_heap h1
  refine ⟨World.setBlk w r (.map (es.push { key := .string s, val := ev f v, born := clock }) (clock + 1)), ?_, ⟨_, _, heap_setBlk hlt, ?_⟩, Ext.setBlk w r _ rfl, by simp [World.setBlk]⟩
  · simp only [execOp, hx, hy]
    simp [Instr.mapUpdate, run_underlying hm.h, hck, hfk, run_getObjM h1, run_setObjM h1]
  · simp [h2]

theorem L_mapUpdate {n : Nat} {ops rest : List Oper} {K : LK} {ds : List Deferred} {t kt et : Nat} {z : Value} [hm : MapT P t kt et z] {x y v : Operand} {s : ByteArray} {r : Nat} {ks : List ByteArray} (hx : ev f x = .map (some r)) (hy : ev f y = .string s) (hr : MapIs w r ks) (hs : ∀ k ∈ ks, (s == k) = false)
    (hw : wantd ops f ⟨none, .mapUpdate t x y v, ty, pos, aft, g⟩ = true) (h : ∀ w', MapIs w' r (ks ++ [s]) → Ext (fun b => b = r) w w' → w'.heap.size = w.heap.size → L P n ops K rest f ds w') : L P n ops K (⟨none, .mapUpdate t x y v, ty, pos, aft, g⟩ :: rest) f ds w := by
  obtain ⟨w', h1, h2, h3, h4⟩ := R_mapUpdate (P := P) (dst := none) (ty := ty) (pos := pos) (aft := aft) (g := g) (t := t) (v := v) hx hy hr hs
  exact L_skip h1 hw rfl (h w' h2 h3 h4)

theorem R_eqSlN {xt yt : TypeId} {x y : Operand} {p : Option Addr} {n c : Nat} [hs : SliceE P xt] (hx : ev f x = .slice p n c) (hy : ev f y = .slice none 0 0) :
    (execOp (ev f) ⟨dst, .binOp .eql xt x y yt, ty, pos, aft, g⟩).run P w = .ok (.value (.bool p.isNone)) w := by
  have h := hs.h
  cases hu : P.underlying xt with
  | none => rw [hu] at h; cases h
  | some d =>
    rw [hu] at h
    cases d <;> simp at h
    exact R_eqG hx hy (eqGuard_at_slice ..) rfl fun d => by cases p <;> simp [Op.equalIn, run_underlying hu]
theorem R_eqMpN {xt yt : TypeId} {x y : Operand} {p : Option Nat} [hs : MapE P xt] (hx : ev f x = .map p) (hy : ev f y = .map none) :
    (execOp (ev f) ⟨dst, .binOp .eql xt x y yt, ty, pos, aft, g⟩).run P w = .ok (.value (.bool p.isNone)) w := by
  have h := hs.h
  cases hu : P.underlying xt with
  | none => rw [hu] at h; cases h
  | some d =>
    rw [hu] at h
    cases d <;> simp at h
    exact R_eqG hx hy (eqGuard_at_map ..) rfl fun d => by cases p <;> simp [Op.equalIn, run_underlying hu]
end
end Go.Proofs.YtmmcjnfgcaefpaaGreatDoor

/-
  The walk's own rules for a range over a function: the statement, the call of yield, and the code of a round in its own frame.
-/
namespace Go.Proofs.YtmmcjnfgcaefpaaGreatDoor

/-! ### code in a round's frame -/

abbrev FR (l : Nat) : Fence := Fence.wide.inRound l

def WCR (P : Program) (l n : Nat) (c : Code) (Q : Post) (f : Fm) (ds : List Deferred) (w : World) : Prop :=
  ∀ a, Rp n f ds a → c.wpIn (FR l) 0 P (lift n Q) a w

def HR (P : Program) (l n : Nat) : List It → Post → Post
  | [], Q, e => Q e
  | .code c :: k, Q, .normal => WCR P l n c (HR P l n k Q)
  | .code _ :: k, Q, e => HR P l n k Q e
  | .blk id :: k, Q, .exit id' => if id' = id then HR P l n k Q .normal else HR P l n k Q (.exit id')
  | .blk _ :: k, Q, e => HR P l n k Q e
  | .inv J :: _, _, .normal => J
  | .inv _ :: k, Q, e => HR P l n k Q e

def GR (P : Program) (l n : Nat) (k : List It) (Q : Post) (f : Fm) (ds : List Deferred) (w : World) : Prop := HR P l n k Q .normal f ds w

section
variable {P : Program} {l n : Nat} {k : List It} {Q : Post} {f : Fm} {ds : List Deferred} {w : World}

theorem HR_ret : ∀ (k : List It), HR P l n k Q .ret = Q .ret
  | [] => rfl
  | .code _ :: k => HR_ret k
  | .blk _ :: k => HR_ret k
  | .inv _ :: k => HR_ret k

theorem GR_nil (h : Q .normal f ds w) : GR P l n [] Q f ds w := h

theorem GR_seq {x y : Code} (h : GR P l n (.code x :: .code y :: k) Q f ds w) : GR P l n (.code (.seq x y) :: k) Q f ds w := by
  intro a ha
  refine wpIn_seq (Go.wpIn_mono (h a ha) ?_)
  rintro e a w ⟨f', ds', hr, hq⟩
  cases e with
  | normal => exact hq a hr
  | exit id => exact ⟨f', ds', hr, hq⟩
  | goto l => exact ⟨f', ds', hr, hq⟩
  | ret => exact ⟨f', ds', hr, hq⟩
  | panic ch => exact ⟨f', ds', hr, hq⟩
  | outgrown => exact ⟨f', ds', hr, hq⟩

theorem GR_block {id : Nat} {c : Code} (h : GR P l n (.code c :: .blk id :: k) Q f ds w) : GR P l n (.code (.block id c) :: k) Q f ds w := by
  intro a ha
  refine wpIn_block (Go.wpIn_mono (h a ha) ?_)
  rintro e a w ⟨f', ds', hr, hq⟩
  cases e with
  | normal => exact ⟨f', ds', hr, hq⟩
  | exit id' =>
    simp only [Exit.inBlock]
    simp only [HR] at hq
    split
    · rename_i he; rw [if_pos he] at hq; exact ⟨f', ds', hr, hq⟩
    · rename_i he; rw [if_neg he] at hq; exact ⟨f', ds', hr, hq⟩
  | goto l => exact ⟨f', ds', hr, hq⟩
  | ret => exact ⟨f', ds', hr, hq⟩
  | panic ch => exact ⟨f', ds', hr, hq⟩
  | outgrown => exact ⟨f', ds', hr, hq⟩

theorem GR_end {id : Nat} (h : GR P l n k Q f ds w) : GR P l n (.blk id :: k) Q f ds w := h

theorem GR_skip (h : GR P l n k Q f ds w) : GR P l n (.code .skip :: k) Q f ds w :=
  fun _ ha => wpIn_skip ⟨f, ds, ha, h⟩

theorem HR_exit {id : Nat} {k' : List It} : ∀ {k : List It}, popTo id k = some k' → HR P l n k Q (.exit id) f ds w = GR P l n k' Q f ds w
  | [], h => by simp [popTo] at h
  | .code _ :: k, h => HR_exit (k := k) h
  | .inv _ :: k, h => HR_exit (k := k) h
  | .blk id' :: k, h => by
    unfold popTo at h
    simp only [HR]
    by_cases hid : id = id'
    · subst hid
      simp at h
      subst h
      rw [if_pos rfl]; rfl
    · have hb : Nat.beq id id' = false := by
        cases hb : Nat.beq id id' with
        | false => rfl
        | true => exact absurd (Nat.eq_of_beq_eq_true hb) hid
      rw [hb] at h
      rw [if_neg hid]
      exact HR_exit (k := k) h

theorem GR_exit {id : Nat} {k' : List It} (hk : popTo id k = some k') (h : GR P l n k' Q f ds w) : GR P l n (.code (.exit id) :: k) Q f ds w :=
  fun _ ha => wpIn_exit ⟨f, ds, ha, by rw [HR_exit hk]; exact h⟩

theorem GR_true {c : Operand} {x y : Code} (hc : ev f c = .bool true) (h : GR P l n (.code x :: k) Q f ds w) : GR P l n (.code (.cond c x y) :: k) Q f ds w :=
  fun a ha => wpIn_cond_true (by rw [ha.eval]; exact hc) (h a ha)
theorem GR_false {c : Operand} {x y : Code} (hc : ev f c = .bool false) (h : GR P l n (.code y :: k) Q f ds w) : GR P l n (.code (.cond c x y) :: k) Q f ds w :=
  fun a ha => wpIn_cond_false (by rw [ha.eval]; exact hc) (h a ha)

theorem GR_region {id : Nat} {ops : List Oper} (hd : ops.all notDefer = true) (h : L P n ops (GR P l n k Q) ops f ds w) : GR P l n (.code (.region id ops.toArray false) :: k) Q f ds w := by
  intro a ha
  refine wpIn_region_lit ?_
  unfold L at h
  exact listIn_mono (ro := some l) (fun a w ⟨_, f, ds, hr, hq⟩ => ⟨f, ds, hr, hq⟩) ops a w (.inr hd) (h a ha)
end
attribute [irreducible] GR

/-! ### the call of yield -/

/-- the frame of a round: the loop's temporaries, yield's arguments in the parameters -/
def roundFm (f : Fm) : List Nat → List Value → Fm
  | p :: ps, v :: vs => roundFm (upd f p v) ps vs
  | _, _ => f

theorem rp_round {n : Nat} {ds : List Deferred} : ∀ (ps : List Nat) (vs : List Value) (f : Fm) (t : Array Value), (ps.all fun p => Nat.blt p n) = true → Rp n f ds { tmps := t, defers := ds } →
    Rp n (roundFm f ps vs) ds { tmps := (ps.zip vs).foldl (fun t (p, a) => t.setIfInBounds p a) t, defers := ds }
  | [], vs, f, t, _, h => by simpa [roundFm] using h
  | p :: ps, [], f, t, _, h => by simpa [roundFm] using h
  | p :: ps, v :: vs, f, t, hp, h => by
    simp only [List.all_cons, Bool.and_eq_true] at hp
    have h1 := h.put hp.1 v
    exact rp_round ps vs (upd f p v) _ hp.2 h1

/-- the record of a loop, entered -/
def loopRec (fn : FuncId) (tm : Array Value) (ps : List Nat) (asg body : Code) (D : Nat) (st : LoopState) (pend : Option Code) : Loop :=
  { state := st, pending := pend, fn := fn, tmps := tm, params := ps.toArray, assign := asg, body := body, defers := D }

theorem Ext.putObj {w : World} {b : Nat} (o : Obj) : Ext (fun k => k = b) w (w.putObj b o) :=
  ⟨rfl, rfl, rfl, by simp, fun k _ hn => World.putObj_heap_other hn⟩

/-- one call of yield: the round's code goes through and ends behind its last statement; what is asked of the world there -/
theorem round_of {P : Program} {l n : Nat} {fn : FuncId} {tm : Array Value} {ps : List Nat} {asg body : Code} {D : Nat} {f : Fm} {vs : List Value} {w : World} {R : World → Prop}
    (hp : (ps.all fun p => Nat.blt p n) = true) (hr : Rp n f [] { tmps := tm, defers := [] })
    (h : GR P l n [.code asg] (fun e f1 ds1 w1 => e = .normal ∧ w1.heap[l]? = some (.loop (loopRec fn tm ps asg body D .ready none)) ∧
      ∀ w2 o, w2.heap[l]? = some o → Ext (fun k => k = l) w1 w2 →
        GR P l n [.code body] (fun e2 _ _ w3 => e2 = .normal ∧ w3.heap[l]? = some o ∧ ∀ w4, w4.heap[l]? = w1.heap[l]? → Ext (fun k => k = l) w3 w4 → R w4) f1 ds1 w2) (roundFm f ps vs) [] w) :
    RoundIn Fence.wide 0 P l fn ((ps.zip vs).foldl (fun t (p, a) => t.setIfInBounds p a) tm) asg body w (fun e w' => e = .returned (.bool true) ∧ R w') := by
  refine roundIn_of_wpIn (F := Fence.wide) trivial ?_
  unfold GR at h
  have h1 := h _ (rp_round (ds := []) ps vs f tm hp hr)
  refine Go.wpIn_mono h1 ?_
  rintro e a1 w1 ⟨f1, ds1, hr1, hh⟩
  simp only [HR] at hh
  obtain ⟨rfl, hl1, h2⟩ := hh
  refine ⟨_, run_beginRound hl1 rfl, ?_⟩
  have hput := World.putObj_heap_same (o := .loop (loopRec fn tm ps asg body D .busy none)) (lt_of_heap hl1)
  have h3 := h2 (w1.putObj l (.loop (loopRec fn tm ps asg body D .busy none))) _ hput (Ext.putObj _)
  unfold GR at h3
  refine Go.wpIn_mono (h3 a1 hr1) ?_
  rintro e a2 w3 ⟨f2, ds2, hr2, hh⟩
  obtain ⟨rfl, hl3, h4⟩ := hh
  refine ⟨_, _, run_endRound none hl3, rfl, h4 _ ?_ (Ext.putObj _)⟩
  rw [hl1]
  exact World.putObj_heap_same (lt_of_heap hl3)

section
variable {P : Program} {n : Nat} {ops rest : List Oper} {K : LK} {f : Fm} {ds : List Deferred} {w w' : World}
variable {dst : Option Nat} {ty : TypeId} {pos : String} {aft : Array Edge} {g : Option (Nat × Bool)}

theorem R_yield {x : Operand} {xs : List Operand} {ts : Array TypeId} {l : Nat} {fn : FuncId} {tm : Array Value} {ps : List Nat} {asg body : Code} {D : Nat} (hx : ev f x = .func (.yield l) #[] #[]) (hl : w.heap[l]? = some (.loop (loopRec fn tm ps asg body D .ready none))) (hs : xs.length = ps.length) :
    (execOp (ev f) ⟨dst, .call ⟨.value x, xs.toArray, ts⟩, ty, pos, aft, g⟩).run P w = .ok (.round l fn ((ps.zip (xs.map (ev f))).foldl (fun t (p, a) => t.setIfInBounds p a) tm) asg body) w := by
  have hy := run_yield (P := P) (args := (xs.map (ev f)).toArray) hl (by simpa [loopRec] using hs)
  simp only [execOp, resolve, hx, Deferred.ofValue, Sem.run_bind, Sem.run_pure, Result.andThen_ok, invoke]
  simp [loopRec] at hy
  simpa using hy

theorem L_yield {d : Nat} {x : Operand} {xs : List Operand} {ts : Array TypeId} {l : Nat} {fn : FuncId} {tm : Array Value} {ps : List Nat} {asg body : Code} {D : Nat} {R : World → Prop} (hx : ev f x = .func (.yield l) #[] #[]) (hl : w.heap[l]? = some (.loop (loopRec fn tm ps asg body D .ready none))) (hs : xs.length = ps.length)
    (hc : RoundIn Fence.wide 0 P l fn ((ps.zip (xs.map (ev f))).foldl (fun t (p, a) => t.setIfInBounds p a) tm) asg body w (fun e w' => e = .returned (.bool true) ∧ R w'))
    (hw : wantd ops f ⟨some d, .call ⟨.value x, xs.toArray, ts⟩, ty, pos, aft, g⟩ = true) (hn : Nat.blt d n = true)
    (h : ∀ w', R w' → L P n ops K rest (upd f d (.bool true)) ds w') : L P n ops K (⟨some d, .call ⟨.value x, xs.toArray, ts⟩, ty, pos, aft, g⟩ :: rest) f ds w :=
  L_stepI hw fun a ha => by
    refine ⟨fun _ _ => trivial, ?_⟩
    have e : (Oper.semAt (Fence.wide).round a.eval ⟨some d, .call ⟨.value x, xs.toArray, ts⟩, ty, pos, aft, g⟩) = execOp (ev f) ⟨some d, .call ⟨.value x, xs.toArray, ts⟩, ty, pos, aft, g⟩ := by rw [ha.eval]; rfl
    rw [e, R_yield hx hl hs, Oper.uponIn_round]
    refine ⟨fun hh => by simp [Fence.wide] at hh, hc.mono fun e w1 ⟨he, hR⟩ => ?_⟩
    subst he
    have := h w1 hR
    unfold L at this
    exact this _ (ha.put hn _)

/-- a function value with what it has captured -/
theorem R_makeFunc {gf : Nat} {xs : List Operand} : (execOp (ev f) ⟨dst, .makeFunc (.func gf) #[] xs.toArray, ty, pos, aft, g⟩).run P w = .ok (.value (.func (.func gf) #[] (xs.map (ev f)).toArray)) w := by
  simp [execOp, Instr.makeFunc]
end

/-! ### the statement -/
section
variable {P : Program} {n : Nat} {k : List It} {Q : Post} {f : Fm} {ds : List Deferred} {w : World}

theorem G_range {x : Operand} {ps : List Nat} {asg body : Code} {gf : Nat} {lb : List Value} [hct : CallT P gf] (hg : ev f x = .func (.func gf) #[] lb.toArray)
    (h : ∀ fn tm, Rp n f [] { tmps := tm, defers := [] } → ∀ w1, w1 = (w.alloc (.deferred (some []))).alloc (.loop (loopRec fn tm ps asg body w.heap.size .ready none)) →
      Calls P gf (.func (.yield (w.heap.size + 1)) #[] #[] :: lb).toArray w1 (fun e w3 => (∃ v, e = .returned v) ∧ w3.heap[w.heap.size + 1]? = some (.loop (loopRec fn tm ps asg body w.heap.size .ready none)) ∧
        ∀ w4, Ext (fun k => k = w.heap.size + 1) w3 w4 → G P n k Q f ({ target := .collected w.heap.size, args := #[] } :: ds) w4)) :
    G P n (.code (.rangeFunc x ps.toArray asg body) :: k) Q f ds w := by
  refine G_code fun a ha => ?_
  refine (wpIn_wide (n := 0)).1 (wpIn_rangeFunc fun fn _ => ?_)
  have hrp : Rp n f [] { tmps := a.tmps, defers := [] } := ⟨ha.size, ha.get, rfl⟩
  obtain ⟨W, hW⟩ : ∃ W, (w.alloc (.deferred (some []))).alloc (.loop (loopRec fn a.tmps ps asg body w.heap.size .ready none)) = W := ⟨_, rfl⟩
  have henter := run_enterLoop_outer (P := P) (w := w) fn a.tmps ps.toArray asg body
  have hc := h fn a.tmps hrp _ hW.symm
  refine ⟨w.heap.size + 1, [{ target := .collected w.heap.size, args := #[] }], W, { target := .fn (.func gf) lb.toArray, args := #[.func (.yield (w.heap.size + 1)) #[] #[]] }, W, gf, (.func (.yield (w.heap.size + 1)) #[] #[] :: lb).toArray, W,
    henter.trans (by rw [← hW]; rfl), ?_, fun _ _ => trivial, ?_, (fun hh => absurd hh (by simp [Fence.wide])), (callsIn_wide.2 hc).mono ?_⟩
  · simp only [resolve, rangeCall, ha.eval, hg, Deferred.ofValue]
    simp [ev]
  · simp only [invoke]
    have := hct.h (#[.func (.yield (w.heap.size + 1)) #[] #[]] ++ lb.toArray)
    simp at this
    simp [this]
  · rintro e w3 ⟨⟨v, rfl⟩, hl, hG⟩
    refine ⟨none, _, run_endLoop hl (by simp [loopRec]), ?_⟩
    refine ⟨f, _, ⟨ha.size, ha.get, ?_⟩, by rw [← G_def]; exact hG _ (Ext.putObj _)⟩
    simp [ha.defers]

/-- a function that leaves with marks of such loops among its deferred calls -/
def QM (P : Program) (fn : Func) (R : Ending → World → Prop) : Post
  | .normal, f, ds, w | .ret, f, ds, w => ∀ tmps : Array Value, (∀ t, tmps.getD t undef = f t) → LeavesInM Fence.wide 0 P fn tmps R ds .returning w
  | _, _, _, _ => False

theorem calls_enter_m {g : FuncId} {fn : Func} {c : Code} {args : List Value} {R : Ending → World → Prop}
    (hf : P.funcs[g]? = some fn) (hn : fn.ntmps = n) (hb : fn.body = some c) (hs : Nat.ble args.length n = true)
    (h : G P n [.code c] (QM P fn R) (argF args) [] w) : Calls P g args.toArray w R := by
  refine (callsIn_wide (n := 0)).1 (callsIn_of_wp_marks hf hb trivial ?_)
  rw [hn]
  rw [G_def] at h
  simp only [H] at h
  unfold WC at h
  refine (wpIn_wide (n := 0)).2 (wp_mono (h _ (rp_enter args n hs)) ?_)
  rintro e a w' ⟨f, ds, hr, hq⟩
  cases e <;> simp only [H, QM] at hq
  · show LeavesInM _ _ _ _ _ _ _ _ _
    rw [hr.defers]; exact hq _ hr.get
  · show LeavesInM _ _ _ _ _ _ _ _ _
    rw [hr.defers]; exact hq _ hr.get

theorem G_retM {fn : Func} {R : Ending → World → Prop} {t : Tmp} (hr : fn.results = #[.tmp t]) (h : R (.returned (f t)) w) : G P n (.code .ret :: k) (QM P fn R) f [] w :=
  G_ret fun tmps ht => ⟨_, ResV.tmp hr f w tmps ht, h⟩
theorem G_retM1 {fn : Func} {R : Ending → World → Prop} {t D : Nat} (hr : fn.results = #[.tmp t]) (hK : w.heap[D]? = some (.deferred (some []))) (h : R (.returned (f t)) (w.putObj D (.deferred none))) :
    G P n (.code .ret :: k) (QM P fn R) f [{ target := .collected D, args := #[] }] w :=
  G_ret fun tmps ht => ⟨by simp, .inl ⟨D, _, rfl, run_takeDeferred hK, _, ResV.tmp hr f _ tmps ht, h⟩⟩
end

/-- an append onto a slice of one's own, where the order is drawn -/
theorem X_push {P : Program} {M : Nat → Prop} {ops : List Oper} {K : DK} {rest : DT} {f : Fm} {wb : World} {ty : TypeId} {pos : String} {aft : Array Edge} {g : Option (Nat × Bool)} {d t e by_ : Nat} {x y : Operand} [ha : AppT P t e by_] {v : Value} {xs : List Value} {b c : Nat} {u : Value} {T : TypeId}
    (hv : ev f x = v) (hown : ∀ w, Ext No wb w → OwnS w e v xs) (hy : ev f y = .slice (some ⟨b, 0, none⟩) 1 c) (hb : ∀ w, Ext No wb w → w.heap[b]? = some (Ob [u] T)) (h1 : u.oneCell' = true)
    (hbd : (xs.length + 1) * by_ ≤ 140737488355328) (hl : xs.length + 1 ≤ maxLen) (hw : wantd ops f ⟨some d, .call ⟨.builtin .append, #[x, y], #[t, t]⟩, ty, pos, aft, g⟩ = true)
    (h : ∀ w v' w', Ext No wb w → Pushed w w' e v v' (xs ++ [u]) → X P M ops K rest (upd f d v') w') : X P M ops K (.op ⟨some d, .call ⟨.builtin .append, #[x, y], #[t, t]⟩, ty, pos, aft, g⟩ 2 rest) f wb :=
  X_wild hw rfl fun w he => by
    obtain ⟨v', w', h2, h3⟩ := R_push (P := P) (dst := some d) (ty := ty) (pos := pos) (aft := aft) (g := g) (t := t) hv (hown w he) hy (hb w he) h1 hbd hl
    exact ⟨v', w', h2, h w v' w' he h3⟩
end Go.Proofs.YtmmcjnfgcaefpaaGreatDoor

/-
  Struct types: the set of field names.
-/
namespace Go.Proofs.YtmmcjnfgcaefpaaGreatDoor
set_option maxRecDepth 100000
set_option maxHeartbeats 4000000
attribute [local irreducible] Calls execOp

instance : InvT Tryz.prog 84 "Id" 57 := ⟨fun a w => by kernel_rfl⟩
instance : CallT Tryz.prog 57 := call_of Tryz.func57 (by kernel_rfl) (by kernel_rfl)
instance : MapT Tryz.prog 184 9 186 .nilIface := ⟨by kernel_rfl, by kernel_rfl, by kernel_rfl⟩
instance : MapE Tryz.prog 184 := ⟨by kernel_rfl⟩

theorem pkgId_any {H : Hp} {s : ByteArray} {pk : Value} (w : World) (hA : Agree H w) (hp : Props H) (hs : capital s) : Calls Tryz.prog 89 #[pk, .string s] w (Ret (Is (.string s) w)) := by
  (refine calls_enter Tryz.func89 Tryz.ntmps89 rfl rfl ?_)
  (repeat (first | (refine cL ?_; first | (refine cL_guard ?_; refine L_unwanted rfl rfl rfl ?_) | (refine cL_move ?_; refine L_val R_move rfl rfl rfl ?_) | (refine cL_load ?_; first | refine L_val (R_loadB rfl (by assumption) (by rfl)) rfl rfl rfl ?_ | refine L_val (R_loadH (by assumption) rfl (by assumption) (by rfl)) rfl rfl rfl ?_) | (refine cL_fieldAddr ?_; refine L_val (R_fa rfl) rfl rfl rfl ?_) | (refine cL_nilCheck ?_; refine L_val (R_nil rfl) rfl rfl rfl ?_) | (refine cL_assign ?_; refine L_val R_assign rfl rfl rfl ?_) | (refine cL_call ?_; refine L_callI (isExported_cap w hA hp hs) rfl rfl ?_) | (refine cL_pick ?_; first | refine L_val (R_pickT rfl) rfl rfl rfl ?_ | refine L_val (R_pickF rfl) rfl rfl rfl ?_) | (refine cL_neq ?_; first | refine L_val (R_nePN rfl rfl) rfl rfl rfl ?_ | refine L_val (R_neI rfl rfl) rfl rfl rfl ?_ | refine L_val (R_neB rfl rfl) rfl rfl rfl ?_ | refine L_val (R_neIfN rfl rfl) rfl rfl rfl ?_ | refine L_val (R_neIfNN rfl) rfl rfl rfl ?_) | (refine cL_add ?_; refine L_val (R_addI rfl rfl) rfl rfl rfl ?_) | refine L_nil ?_) | refine G_seq ?_ | refine G_region ?_ | refine G_skip ?_ | refine G_block ?_ | refine G_end ?_ | refine G_true rfl ?_ | refine G_false rfl ?_))
  (refine G_retF rfl ?_)
  exact ⟨_, rfl, rfl, rfl⟩

theorem objId_any {H : Hp} {a : Nat} {s : ByteArray} {q pk : Value} {r : List Value} {T : Nat} (w : World) (hA : Agree H w) (hp : Props H) (hs : capital s) (h : H a = some (Ob (q :: pk :: .string s :: r) T)) :
    Calls Tryz.prog 57 #[ptr a] w (Ret (Qt (.string s) w)) := by
  have hAg : ∀ w', Ext No w w' → Agree H w' := fun _ he => hA.ext0 he
  (refine calls_enter Tryz.func57 Tryz.ntmps57 rfl rfl ?_)
  (repeat (first | (refine cL ?_; first | (refine cL_move ?_; refine L_val R_move rfl rfl rfl ?_) | (refine cL_load ?_; first | refine L_val (R_loadB rfl (by assumption) (by rfl)) rfl rfl rfl ?_ | refine L_val (R_loadH (by assumption) rfl (by assumption) (by rfl)) rfl rfl rfl ?_) | (refine cL_fieldAddr ?_; refine L_val (R_fa rfl) rfl rfl rfl ?_) | (refine cL_nilCheck ?_; refine L_val (R_nil rfl) rfl rfl rfl ?_) | (refine cL_assign ?_; refine L_val R_assign rfl rfl rfl ?_) | refine L_nil ?_) | refine G_seq ?_ | refine G_region ?_ | refine G_skip ?_ | refine G_block ?_ | refine G_end ?_ | refine G_true rfl ?_ | refine G_false rfl ?_))
  (refine G_draw No (0 :: 1 :: 2 :: 3 :: 4 :: 5 :: 6 :: 7 :: 8 :: 9 :: []) [] follows (by kernel_rfl) rfl ?_)
  (repeat (first | (refine cD_move ?_; refine D_val0 (fun _ _ => R_move) rfl rfl ?_) | (refine cD_load ?_; refine D_val0 (fun w he => R_loadH (hAg w he) rfl (by assumption) (by rfl)) rfl rfl ?_) | (refine cD_fieldAddr ?_; refine D_val0 (fun _ _ => R_fa rfl) rfl rfl ?_) | (refine cD_nilCheck ?_; refine D_val0 (fun _ _ => R_nil rfl) rfl rfl ?_) | (refine cD_assign ?_; refine D_val0 (fun _ _ => R_assign) rfl rfl ?_) | (refine cD_call ?_; refine D_callQ (fun w he => Is.qt (pkgId_any w (hAg w he) hp hs)) rfl ?_)))
  refine D_nil fun w1 hw1 => ?_
  (repeat (first | (refine cL ?_; first | (refine cL_move ?_; refine L_val R_move rfl rfl rfl ?_) | (refine cL_load ?_; first | refine L_val (R_loadB rfl (by assumption) (by rfl)) rfl rfl rfl ?_ | refine L_val (R_loadH (by assumption) rfl (by assumption) (by rfl)) rfl rfl rfl ?_) | (refine cL_fieldAddr ?_; refine L_val (R_fa rfl) rfl rfl rfl ?_) | (refine cL_nilCheck ?_; refine L_val (R_nil rfl) rfl rfl rfl ?_) | (refine cL_assign ?_; refine L_val R_assign rfl rfl rfl ?_) | refine L_nil ?_) | refine G_seq ?_ | refine G_region ?_ | refine G_skip ?_ | refine G_block ?_ | refine G_end ?_ | refine G_true rfl ?_ | refine G_false rfl ?_))
  (refine G_retF rfl ?_)
  exact ⟨_, rfl, rfl, hw1⟩

/-- a set of names, its block m and its map new since B -/
def SetIs (w : World) (B m : Nat) (ks : List ByteArray) : Prop :=
  B ≤ m ∧ ∃ mp, w.heap[m]? = some (Ob [.map mp] 184) ∧ ((mp = none ∧ ks = []) ∨ ∃ r, mp = some r ∧ B ≤ r ∧ r ≠ m ∧ MapIs w r ks)

theorem MapIs.ext {M : Nat → Prop} {w w' : World} {r : Nat} {ks : List ByteArray} (h : MapIs w r ks) (he : Ext M w w') (hm : ¬ M r) : MapIs w' r ks :=
  let ⟨es, c, h1, h2⟩ := h
  ⟨es, c, he.heap hm h1, h2⟩
theorem MapIs.lt {w : World} {r : Nat} {ks : List ByteArray} (h : MapIs w r ks) : r < w.heap.size := let ⟨_, _, h1, _⟩ := h; lt_of_heap h1

theorem insert_any {H : Hp} {B m a : Nat} {s : ByteArray} {q pk : Value} {r : List Value} {T : Nat} {ks : List ByteArray} (w : World) (hA : Agree H w) (hp : Props H) (hs : capital s) (h : H a = some (Ob (q :: pk :: .string s :: r) T)) (hset : SetIs w B m ks) (hB : B ≤ w.heap.size) (hn : ∀ k ∈ ks, (s == k) = false) :
    Calls Tryz.prog 62 #[ptr m, .iface 84 (ptr a)] w (Ret fun r w' => r = .nilIface ∧ SetIs w' B m (ks ++ [s]) ∧ Ext (fun k => B ≤ k) w w') := by
  obtain ⟨hBm, mp, hm, hc⟩ := hset
  (refine calls_enter Tryz.func62 Tryz.ntmps62 rfl rfl ?_)
  (repeat (first | (refine cL ?_; first | (refine cL_move ?_; refine L_val R_move rfl rfl rfl ?_) | (refine cL_load ?_; first | refine L_val (R_loadB rfl (by assumption) (by rfl)) rfl rfl rfl ?_ | refine L_val (R_loadH (by assumption) rfl (by assumption) (by rfl)) rfl rfl rfl ?_) | (refine cL_nilCheck ?_; refine L_val (R_nil rfl) rfl rfl rfl ?_) | (refine cL_assign ?_; refine L_val R_assign rfl rfl rfl ?_) | (refine cL_eql ?_; first | refine L_val (R_eqPN rfl rfl) rfl rfl rfl ?_ | refine L_val (R_eqI rfl rfl) rfl rfl rfl ?_ | refine L_val (R_eqB rfl rfl) rfl rfl rfl ?_ | refine L_val (R_eqIfN rfl rfl) rfl rfl rfl ?_ | refine L_val (R_eqIfNN rfl) rfl rfl rfl ?_) | (refine cL_neq ?_; first | refine L_val (R_nePN rfl rfl) rfl rfl rfl ?_ | refine L_val (R_neI rfl rfl) rfl rfl rfl ?_ | refine L_val (R_neB rfl rfl) rfl rfl rfl ?_ | refine L_val (R_neIfN rfl rfl) rfl rfl rfl ?_ | refine L_val (R_neIfNN rfl) rfl rfl rfl ?_) | refine L_nil ?_) | refine G_seq ?_ | refine G_region ?_ | refine G_skip ?_ | refine G_block ?_ | refine G_end ?_ | refine G_true rfl ?_ | refine G_false rfl ?_))
  refine L_invokeR rfl (objId_any w hA hp hs h) rfl rfl fun v w1 ⟨hv, x1⟩ => ?_
  subst hv
  have hm1 := x1.heap (fun h => h) hm
  rcases hc with ⟨rfl, rfl⟩ | ⟨rr, rfl, hBr, hrm, hmap⟩
  · (repeat (first | (refine cL ?_; first | refine L_val (R_lookupN rfl rfl) rfl rfl rfl ?_ | (refine cL_move ?_; refine L_val R_move rfl rfl rfl ?_) | (refine cL_load ?_; first | refine L_val (R_loadB rfl (by assumption) (by rfl)) rfl rfl rfl ?_ | refine L_val (R_loadH (by assumption) rfl (by assumption) (by rfl)) rfl rfl rfl ?_) | (refine cL_nilCheck ?_; refine L_val (R_nil rfl) rfl rfl rfl ?_) | (refine cL_assign ?_; refine L_val R_assign rfl rfl rfl ?_) | (refine cL_eql ?_; first | refine L_val (R_eqMpN rfl rfl) rfl rfl rfl ?_ | refine L_val (R_eqPN rfl rfl) rfl rfl rfl ?_ | refine L_val (R_eqI rfl rfl) rfl rfl rfl ?_ | refine L_val (R_eqB rfl rfl) rfl rfl rfl ?_ | refine L_val (R_eqIfN rfl rfl) rfl rfl rfl ?_ | refine L_val (R_eqIfNN rfl) rfl rfl rfl ?_) | (refine cL_neq ?_; first | refine L_val (R_nePN rfl rfl) rfl rfl rfl ?_ | refine L_val (R_neI rfl rfl) rfl rfl rfl ?_ | refine L_val (R_neB rfl rfl) rfl rfl rfl ?_ | refine L_val (R_neIfN rfl rfl) rfl rfl rfl ?_ | refine L_val (R_neIfNN rfl) rfl rfl rfl ?_) | refine L_nil ?_) | refine G_seq ?_ | refine G_region ?_ | refine G_skip ?_ | refine G_block ?_ | refine G_end ?_ | refine G_true rfl ?_ | refine G_false rfl ?_))
    refine L_val R_makeMap rfl rfl rfl ?_
    have hnew := newB_alloc w1 (.map #[] 0)
    have hm2 := hnew.ext.heap (fun h => h) hm1
    have hlm := lt_of_heap hm1
    (repeat (first | (refine cL ?_; first | (refine cL_move ?_; refine L_val R_move rfl rfl rfl ?_) | (refine cL_load ?_; first | refine L_val (R_loadB rfl (by assumption) (by rfl)) rfl rfl rfl ?_ | refine L_val (R_loadH (by assumption) rfl (by assumption) (by rfl)) rfl rfl rfl ?_) | (refine cL_nilCheck ?_; refine L_val (R_nil rfl) rfl rfl rfl ?_) | (refine cL_assign ?_; refine L_val R_assign rfl rfl rfl ?_) | (refine cL_eql ?_; first | refine L_val (R_eqPN rfl rfl) rfl rfl rfl ?_ | refine L_val (R_eqI rfl rfl) rfl rfl rfl ?_ | refine L_val (R_eqB rfl rfl) rfl rfl rfl ?_ | refine L_val (R_eqIfN rfl rfl) rfl rfl rfl ?_ | refine L_val (R_eqIfNN rfl) rfl rfl rfl ?_) | (refine cL_neq ?_; first | refine L_val (R_nePN rfl rfl) rfl rfl rfl ?_ | refine L_val (R_neI rfl rfl) rfl rfl rfl ?_ | refine L_val (R_neB rfl rfl) rfl rfl rfl ?_ | refine L_val (R_neIfN rfl rfl) rfl rfl rfl ?_ | refine L_val (R_neIfNN rfl) rfl rfl rfl ?_) | refine L_nil ?_) | refine G_seq ?_ | refine G_region ?_ | refine G_skip ?_ | refine G_block ?_ | refine G_end ?_ | refine G_true rfl ?_ | refine G_false rfl ?_))
    refine L_store rfl hm2 rfl rfl rfl fun w3 h3 e3 s3 => ?_
    have hmp3 : MapIs w3 w1.heap.size [] := ⟨#[], 0, e3.heap (fun h => by omega) hnew.here, rfl⟩
    have h3' : w3.heap[m]? = some (Ob [.map (some w1.heap.size)] 184) := h3
    (repeat (first | (refine cL ?_; first | (refine cL_move ?_; refine L_val R_move rfl rfl rfl ?_) | (refine cL_load ?_; first | refine L_val (R_loadB rfl (by assumption) (by rfl)) rfl rfl rfl ?_ | refine L_val (R_loadH (by assumption) rfl (by assumption) (by rfl)) rfl rfl rfl ?_) | (refine cL_nilCheck ?_; refine L_val (R_nil rfl) rfl rfl rfl ?_) | (refine cL_assign ?_; refine L_val R_assign rfl rfl rfl ?_) | (refine cL_eql ?_; first | refine L_val (R_eqPN rfl rfl) rfl rfl rfl ?_ | refine L_val (R_eqI rfl rfl) rfl rfl rfl ?_ | refine L_val (R_eqB rfl rfl) rfl rfl rfl ?_ | refine L_val (R_eqIfN rfl rfl) rfl rfl rfl ?_ | refine L_val (R_eqIfNN rfl) rfl rfl rfl ?_) | (refine cL_neq ?_; first | refine L_val (R_nePN rfl rfl) rfl rfl rfl ?_ | refine L_val (R_neI rfl rfl) rfl rfl rfl ?_ | refine L_val (R_neB rfl rfl) rfl rfl rfl ?_ | refine L_val (R_neIfN rfl rfl) rfl rfl rfl ?_ | refine L_val (R_neIfNN rfl) rfl rfl rfl ?_) | refine L_nil ?_) | refine G_seq ?_ | refine G_region ?_ | refine G_skip ?_ | refine G_block ?_ | refine G_end ?_ | refine G_true rfl ?_ | refine G_false rfl ?_))
    refine L_mapUpdate rfl rfl hmp3 hn rfl fun w4 hm4 e4 s4 => ?_
    (repeat (first | (refine cL ?_; first | (refine cL_move ?_; refine L_val R_move rfl rfl rfl ?_) | (refine cL_load ?_; first | refine L_val (R_loadB rfl (by assumption) (by rfl)) rfl rfl rfl ?_ | refine L_val (R_loadH (by assumption) rfl (by assumption) (by rfl)) rfl rfl rfl ?_) | (refine cL_nilCheck ?_; refine L_val (R_nil rfl) rfl rfl rfl ?_) | (refine cL_assign ?_; refine L_val R_assign rfl rfl rfl ?_) | (refine cL_eql ?_; first | refine L_val (R_eqPN rfl rfl) rfl rfl rfl ?_ | refine L_val (R_eqI rfl rfl) rfl rfl rfl ?_ | refine L_val (R_eqB rfl rfl) rfl rfl rfl ?_ | refine L_val (R_eqIfN rfl rfl) rfl rfl rfl ?_ | refine L_val (R_eqIfNN rfl) rfl rfl rfl ?_) | (refine cL_neq ?_; first | refine L_val (R_nePN rfl rfl) rfl rfl rfl ?_ | refine L_val (R_neI rfl rfl) rfl rfl rfl ?_ | refine L_val (R_neB rfl rfl) rfl rfl rfl ?_ | refine L_val (R_neIfN rfl rfl) rfl rfl rfl ?_ | refine L_val (R_neIfNN rfl) rfl rfl rfl ?_) | refine L_nil ?_) | refine G_seq ?_ | refine G_region ?_ | refine G_skip ?_ | refine G_block ?_ | refine G_end ?_ | refine G_true rfl ?_ | refine G_false rfl ?_))
    (refine G_retF rfl ?_)
    have hx1 := x1.size
    have hBx : ∀ (k : Nat), k < w.heap.size → k = w1.heap.size → B ≤ k := fun k _ hk => by omega
    refine ⟨_, rfl, rfl, ⟨hBm, _, e4.heap (fun h => by omega) h3', .inr ⟨_, rfl, by omega, by omega, hm4⟩⟩, ?_⟩
    have y1 : Ext (fun k => B ≤ k) w w3 := ((x1.trans hnew.ext).of_no).trans (e3.mono fun k _ hk => by omega)
    exact y1.trans (e4.mono fun k _ hk => by omega)
  · have hmap1 := hmap.ext x1 (fun h => h)
    (repeat (first | (refine cL ?_; first | refine L_val (R_lookupA rfl rfl hmap1 hn) rfl rfl rfl ?_ | (refine cL_move ?_; refine L_val R_move rfl rfl rfl ?_) | (refine cL_load ?_; first | refine L_val (R_loadB rfl (by assumption) (by rfl)) rfl rfl rfl ?_ | refine L_val (R_loadH (by assumption) rfl (by assumption) (by rfl)) rfl rfl rfl ?_) | (refine cL_nilCheck ?_; refine L_val (R_nil rfl) rfl rfl rfl ?_) | (refine cL_assign ?_; refine L_val R_assign rfl rfl rfl ?_) | (refine cL_eql ?_; first | refine L_val (R_eqMpN rfl rfl) rfl rfl rfl ?_ | refine L_val (R_eqPN rfl rfl) rfl rfl rfl ?_ | refine L_val (R_eqI rfl rfl) rfl rfl rfl ?_ | refine L_val (R_eqB rfl rfl) rfl rfl rfl ?_ | refine L_val (R_eqIfN rfl rfl) rfl rfl rfl ?_ | refine L_val (R_eqIfNN rfl) rfl rfl rfl ?_) | (refine cL_neq ?_; first | refine L_val (R_nePN rfl rfl) rfl rfl rfl ?_ | refine L_val (R_neI rfl rfl) rfl rfl rfl ?_ | refine L_val (R_neB rfl rfl) rfl rfl rfl ?_ | refine L_val (R_neIfN rfl rfl) rfl rfl rfl ?_ | refine L_val (R_neIfNN rfl) rfl rfl rfl ?_) | refine L_nil ?_) | refine G_seq ?_ | refine G_region ?_ | refine G_skip ?_ | refine G_block ?_ | refine G_end ?_ | refine G_true rfl ?_ | refine G_false rfl ?_))
    refine L_mapUpdate rfl rfl hmap1 hn rfl fun w4 hm4 e4 s4 => ?_
    (repeat (first | (refine cL ?_; first | (refine cL_move ?_; refine L_val R_move rfl rfl rfl ?_) | (refine cL_load ?_; first | refine L_val (R_loadB rfl (by assumption) (by rfl)) rfl rfl rfl ?_ | refine L_val (R_loadH (by assumption) rfl (by assumption) (by rfl)) rfl rfl rfl ?_) | (refine cL_nilCheck ?_; refine L_val (R_nil rfl) rfl rfl rfl ?_) | (refine cL_assign ?_; refine L_val R_assign rfl rfl rfl ?_) | (refine cL_eql ?_; first | refine L_val (R_eqPN rfl rfl) rfl rfl rfl ?_ | refine L_val (R_eqI rfl rfl) rfl rfl rfl ?_ | refine L_val (R_eqB rfl rfl) rfl rfl rfl ?_ | refine L_val (R_eqIfN rfl rfl) rfl rfl rfl ?_ | refine L_val (R_eqIfNN rfl) rfl rfl rfl ?_) | (refine cL_neq ?_; first | refine L_val (R_nePN rfl rfl) rfl rfl rfl ?_ | refine L_val (R_neI rfl rfl) rfl rfl rfl ?_ | refine L_val (R_neB rfl rfl) rfl rfl rfl ?_ | refine L_val (R_neIfN rfl rfl) rfl rfl rfl ?_ | refine L_val (R_neIfNN rfl) rfl rfl rfl ?_) | refine L_nil ?_) | refine G_seq ?_ | refine G_region ?_ | refine G_skip ?_ | refine G_block ?_ | refine G_end ?_ | refine G_true rfl ?_ | refine G_false rfl ?_))
    (refine G_retF rfl ?_)
    refine ⟨_, rfl, rfl, ⟨hBm, _, e4.heap (fun h => hrm h.symm) hm1, .inr ⟨_, rfl, hBr, hrm, hm4⟩⟩, ?_⟩
    exact x1.of_no.trans (e4.mono fun k _ hk => by omega)
end Go.Proofs.YtmmcjnfgcaefpaaGreatDoor

/-
  Struct types: what the package lays.
-/
namespace Go.Proofs.YtmmcjnfgcaefpaaGreatDoor
set_option maxRecDepth 100000
set_option maxHeartbeats 4000000

instance app_vars : AppT Tryz.prog 83 84 8 := ⟨by kernel_rfl, by kernel_rfl⟩
instance : SliceE Tryz.prog 83 := ⟨by kernel_rfl⟩

theorem R_makeNoVars {f : Fm} {dst : Option Nat} {ty : TypeId} {pos : String} {aft : Array Edge} {g : Option (Nat × Bool)} {w : World} :
    (execOp (ev f) ⟨dst, .makeSlice 83 (.const (.int .i64 0)) (.const (.int .i64 0)), ty, pos, aft, g⟩).run Tryz.prog w = .ok (.value (.slice (some ⟨w.heap.size, 0, none⟩) 0 0)) (w.alloc (Ob [] 84)) := by
  have h := run_make_row' (P := Tryz.prog) 83 84 (.pointer none) 8 (by kernel_rfl) (by kernel_rfl) rfl .i64 .i64 0 (by decide) (by decide) w
  simp only [execOp, ev]
  have e : madeCells #[Value.pointer none] 0 = #[] := by simp [madeCells]
  rw [e] at h
  have h0 : (.int .i64 ((0 : Nat) : Int) : Value) = .int .i64 0 := rfl
  rw [h0] at h
  simp only [Sem.run_bind, h, Result.andThen_ok, Sem.run_pure]
  rfl

attribute [local irreducible] Calls execOp

theorem markComplete_some {b : Nat} {a : Addr} {len cap : Nat} {tg : Value} (w : World) (hb : w.heap[b]? = some (Ob [.slice (some a) len cap, tg] 146)) :
    Calls Tryz.prog 63 #[ptr b] w (Ret (Is (.tuple #[]) w)) := by
  (refine calls_enter Tryz.func63 Tryz.ntmps63 rfl rfl ?_)
  (repeat (first | (refine cL ?_; first | (refine cL_move ?_; refine L_val R_move rfl rfl rfl ?_) | (refine cL_load ?_; first | refine L_val (R_loadB rfl (by assumption) (by rfl)) rfl rfl rfl ?_ | refine L_val (R_loadH (by assumption) rfl (by assumption) (by rfl)) rfl rfl rfl ?_) | (refine cL_fieldAddr ?_; refine L_val (R_fa rfl) rfl rfl rfl ?_) | (refine cL_nilCheck ?_; refine L_val (R_nil rfl) rfl rfl rfl ?_) | (refine cL_eql ?_; first | refine L_val (R_eqSlN rfl rfl) rfl rfl rfl ?_ | refine L_val (R_eqPN rfl rfl) rfl rfl rfl ?_ | refine L_val (R_eqI rfl rfl) rfl rfl rfl ?_ | refine L_val (R_eqB rfl rfl) rfl rfl rfl ?_ | refine L_val (R_eqIfN rfl rfl) rfl rfl rfl ?_ | refine L_val (R_eqIfNN rfl) rfl rfl rfl ?_) | refine L_nil ?_) | refine G_seq ?_ | refine G_region ?_ | refine G_skip ?_ | refine G_block ?_ | refine G_end ?_ | refine G_true rfl ?_ | refine G_false rfl ?_))
  refine G_end0 rfl ?_
  exact ⟨_, rfl, rfl, rfl⟩

theorem markComplete_nil {b : Nat} {tg : Value} (w : World) (hb : w.heap[b]? = some (Ob [.slice none 0 0, tg] 146)) :
    Calls Tryz.prog 63 #[ptr b] w (Ret fun r w' => r = .tuple #[] ∧ ∃ e, w.heap.size ≤ e ∧ w'.heap[e]? = some (Ob [] 84) ∧ w'.heap[b]? = some (Ob [.slice (some ⟨e, 0, none⟩) 0 0, tg] 146) ∧ Ext (fun k => k = b) w w') := by
  (refine calls_enter Tryz.func63 Tryz.ntmps63 rfl rfl ?_)
  (repeat (first | (refine cL ?_; first | (refine cL_move ?_; refine L_val R_move rfl rfl rfl ?_) | (refine cL_load ?_; first | refine L_val (R_loadB rfl (by assumption) (by rfl)) rfl rfl rfl ?_ | refine L_val (R_loadH (by assumption) rfl (by assumption) (by rfl)) rfl rfl rfl ?_) | (refine cL_fieldAddr ?_; refine L_val (R_fa rfl) rfl rfl rfl ?_) | (refine cL_nilCheck ?_; refine L_val (R_nil rfl) rfl rfl rfl ?_) | (refine cL_eql ?_; first | refine L_val (R_eqSlN rfl rfl) rfl rfl rfl ?_ | refine L_val (R_eqPN rfl rfl) rfl rfl rfl ?_ | refine L_val (R_eqI rfl rfl) rfl rfl rfl ?_ | refine L_val (R_eqB rfl rfl) rfl rfl rfl ?_ | refine L_val (R_eqIfN rfl rfl) rfl rfl rfl ?_ | refine L_val (R_eqIfNN rfl) rfl rfl rfl ?_) | refine L_nil ?_) | refine G_seq ?_ | refine G_region ?_ | refine G_skip ?_ | refine G_block ?_ | refine G_end ?_ | refine G_true rfl ?_ | refine G_false rfl ?_))
  refine L_val R_makeNoVars rfl rfl rfl ?_
  have hnew := newB_alloc w (Ob [] 84)
  have hb1 := hnew.ext.heap (fun h => h) hb
  have hlt := lt_of_heap hb
  (repeat (first | (refine cL ?_; first | (refine cL_move ?_; refine L_val R_move rfl rfl rfl ?_) | (refine cL_load ?_; first | refine L_val (R_loadB rfl (by assumption) (by rfl)) rfl rfl rfl ?_ | refine L_val (R_loadH (by assumption) rfl (by assumption) (by rfl)) rfl rfl rfl ?_) | (refine cL_fieldAddr ?_; refine L_val (R_fa rfl) rfl rfl rfl ?_) | (refine cL_nilCheck ?_; refine L_val (R_nil rfl) rfl rfl rfl ?_) | (refine cL_eql ?_; first | refine L_val (R_eqPN rfl rfl) rfl rfl rfl ?_ | refine L_val (R_eqI rfl rfl) rfl rfl rfl ?_ | refine L_val (R_eqB rfl rfl) rfl rfl rfl ?_ | refine L_val (R_eqIfN rfl rfl) rfl rfl rfl ?_ | refine L_val (R_eqIfNN rfl) rfl rfl rfl ?_) | refine L_nil ?_) | refine G_seq ?_ | refine G_region ?_ | refine G_skip ?_ | refine G_block ?_ | refine G_end ?_ | refine G_true rfl ?_ | refine G_false rfl ?_))
  refine L_store rfl hb1 rfl rfl rfl fun w2 h2 e2 s2 => ?_
  (repeat (first | (refine cL ?_; first | (refine cL_move ?_; refine L_val R_move rfl rfl rfl ?_) | (refine cL_load ?_; first | refine L_val (R_loadB rfl (by assumption) (by rfl)) rfl rfl rfl ?_ | refine L_val (R_loadH (by assumption) rfl (by assumption) (by rfl)) rfl rfl rfl ?_) | (refine cL_fieldAddr ?_; refine L_val (R_fa rfl) rfl rfl rfl ?_) | (refine cL_nilCheck ?_; refine L_val (R_nil rfl) rfl rfl rfl ?_) | (refine cL_eql ?_; first | refine L_val (R_eqPN rfl rfl) rfl rfl rfl ?_ | refine L_val (R_eqI rfl rfl) rfl rfl rfl ?_ | refine L_val (R_eqB rfl rfl) rfl rfl rfl ?_ | refine L_val (R_eqIfN rfl rfl) rfl rfl rfl ?_ | refine L_val (R_eqIfNN rfl) rfl rfl rfl ?_) | refine L_nil ?_) | refine G_seq ?_ | refine G_region ?_ | refine G_skip ?_ | refine G_block ?_ | refine G_end ?_ | refine G_true rfl ?_ | refine G_false rfl ?_))
  refine G_end0 rfl ?_
  exact ⟨_, rfl, rfl, w.heap.size, Nat.le_refl _, e2.heap (fun h => by omega) hnew.here, h2, hnew.ext.of_no.trans e2⟩
end Go.Proofs.YtmmcjnfgcaefpaaGreatDoor

/-
  Struct types: NewStruct.
-/
namespace Go.Proofs.YtmmcjnfgcaefpaaGreatDoor
set_option maxRecDepth 100000
set_option maxHeartbeats 4000000
attribute [local irreducible] Calls execOp

theorem notUnder {s : ByteArray} (h : capital s) : (!(s.toList == (⟨#[95]⟩ : ByteArray).toList)) = true := by
  obtain ⟨u, h1, h2, h3⟩ := h
  rw [h1, ByteArray.toList_eq]
  have : u ≠ 95 := fun h => by rw [h] at h3; exact absurd h3 (by decide)
  simp [this]

theorem ne_of_beqB {a b : ByteArray} (h : beqB a b = false) : (a == b) = false := by
  cases hh : (a == b) with
  | false => rfl
  | true =>
    have e : a = b := by
      cases a with
      | mk x =>
        cases b with
        | mk y =>
          have hxy : (x == y) = true := hh
          rw [eq_of_beq hxy]
    subst e
    simp [beqB] at h

def FieldSl (H : Hp) (nms : List ByteArray) (vs : List Value) (p : Option Addr) (cap : Nat) : Prop := (p = none ∧ cap = 0 ∧ nms = [] ∧ vs = []) ∨ VarSl H nms vs (.slice p vs.length cap)

theorem newStruct_any {H : Hp} {nms : List ByteArray} {vs : List Value} {p : Option Addr} {cap : Nat} (w : World) (hA : Agree H w) (hp : Props H) (hsl : FieldSl H nms vs p cap) (hlen : nms.length = vs.length) (hcap : ∀ s ∈ nms, capital s)
    (hdis : ∀ (i j : Nat) (a b : ByteArray), i < j → nms[i]? = some a → nms[j]? = some b → beqB b a = false) (hbd : vs.length < 9223372036854775808) :
    Calls Tryz.prog 34 #[.slice p vs.length cap, .slice none 0 0] w (Ret fun r w' => ∃ b H' sl', r = ptr b ∧ Grow H w H' w' ∧ H' b = some (Ob [sl', .slice none 0 0] 146) ∧ VarSl H' nms vs sl') := by
  have hgt : decide (((0 : Nat) : Int) > (vs.length : Int)) = false := decide_eq_false (by omega)
  (refine calls_enter Tryz.func34 Tryz.ntmps34 rfl rfl ?_)
  (repeat (first | (refine cL ?_; first | (refine cL_guard ?_; refine L_unwanted rfl rfl rfl ?_) | (refine cL_move ?_; refine L_val R_move rfl rfl rfl ?_) | (refine cL_load ?_; first | refine L_val (R_loadB rfl (by assumption) (by rfl)) rfl rfl rfl ?_ | refine L_val (R_loadH (by assumption) rfl (by assumption) (by rfl)) rfl rfl rfl ?_) | (refine cL_fieldAddr ?_; refine L_val (R_fa rfl) rfl rfl rfl ?_) | (refine cL_nilCheck ?_; refine L_val (R_nil rfl) rfl rfl rfl ?_) | (refine cL_assign ?_; refine L_val R_assign rfl rfl rfl ?_) | (refine cL_call ?_; refine L_val (R_len rfl) rfl rfl rfl ?_) | (refine cL_pick ?_; first | refine L_val (R_pickT rfl) rfl rfl rfl ?_ | refine L_val (R_pickF rfl) rfl rfl rfl ?_) | (refine cL_neq ?_; first | refine L_val (R_nePN rfl rfl) rfl rfl rfl ?_ | refine L_val (R_neI rfl rfl) rfl rfl rfl ?_ | refine L_val (R_neB rfl rfl) rfl rfl rfl ?_ | refine L_val (R_neIfN rfl rfl) rfl rfl rfl ?_ | refine L_val (R_neIfNN rfl) rfl rfl rfl ?_) | (refine cL_lss ?_; refine L_val (R_ltI rfl rfl) rfl rfl rfl ?_) | (refine cL_makeInterface ?_; refine L_val R_mkI rfl rfl rfl ?_) | (refine cL_add ?_; refine L_val (R_addI rfl rfl) rfl rfl rfl ?_) | (refine cL_gtr ?_; refine L_val (R_gtI rfl rfl) rfl rfl rfl ?_) | refine L_nil ?_) | refine G_seq ?_ | refine G_region ?_ | refine G_skip ?_ | refine G_block ?_ | refine G_end ?_ | refine G_true rfl ?_ | refine G_false rfl ?_))
  refine L_allocZ (cs := [.map none]) rfl rfl rfl fun m w1 hn1 => ?_
  (repeat (first | (refine cL ?_; first | (refine cL_guard ?_; refine L_unwanted rfl rfl rfl ?_) | (refine cL_move ?_; refine L_val R_move rfl rfl rfl ?_) | (refine cL_load ?_; first | refine L_val (R_loadB rfl (by assumption) (by rfl)) rfl rfl rfl ?_ | refine L_val (R_loadH (by assumption) rfl (by assumption) (by rfl)) rfl rfl rfl ?_) | (refine cL_fieldAddr ?_; refine L_val (R_fa rfl) rfl rfl rfl ?_) | (refine cL_nilCheck ?_; refine L_val (R_nil rfl) rfl rfl rfl ?_) | (refine cL_assign ?_; refine L_val R_assign rfl rfl rfl ?_) | (refine cL_call ?_; refine L_val (R_len rfl) rfl rfl rfl ?_) | (refine cL_pick ?_; first | refine L_val (R_pickT rfl) rfl rfl rfl ?_ | refine L_val (R_pickF rfl) rfl rfl rfl ?_) | (refine cL_neq ?_; first | refine L_val (R_nePN rfl rfl) rfl rfl rfl ?_ | refine L_val (R_neI rfl rfl) rfl rfl rfl ?_ | refine L_val (R_neB rfl rfl) rfl rfl rfl ?_ | refine L_val (R_neIfN rfl rfl) rfl rfl rfl ?_ | refine L_val (R_neIfNN rfl) rfl rfl rfl ?_) | (refine cL_lss ?_; refine L_val (R_ltI rfl rfl) rfl rfl rfl ?_) | (refine cL_makeInterface ?_; refine L_val R_mkI rfl rfl rfl ?_) | (refine cL_add ?_; refine L_val (R_addI rfl rfl) rfl rfl rfl ?_) | (refine cL_gtr ?_; refine L_val (R_gtI rfl rfl) rfl rfl rfl ?_) | refine L_nil ?_) | refine G_seq ?_ | refine G_region ?_ | refine G_skip ?_ | refine G_block ?_ | refine G_end ?_ | refine G_true rfl ?_ | refine G_false rfl ?_))
  refine G_loop (fun f ds0 w0 => ds0 = [] ∧ ∃ (f0 : Fm) (i : Nat), f = with_ [(11, .int .i64 (i : Int)), (10, .int .i64 (vs.length : Int)), (9, .slice p vs.length cap), (5, ptr m), (0, .slice p vs.length cap), (1, .slice none 0 0)] f0 ∧ i ≤ vs.length ∧ Ext (fun k => w.heap.size ≤ k) w w0 ∧ SetIs w0 w.heap.size m (nms.take i)) (fun f _ _ => countM 11 10 f)
    ⟨rfl, _, 0, with_self ⟨rfl, rfl, rfl, rfl, rfl, rfl, trivial⟩, Nat.zero_le _, hn1.ext.of_no, by rw [hn1.fresh]; exact Nat.le_refl _, none, hn1.here, .inl ⟨rfl, rfl⟩⟩ ?_
  rintro f ds wr ⟨rfl, f0, i, rfl, hi, hext, hset⟩
  have hx0 : Ext No w wr := hext.mono fun k hk hm => by omega
  have hAr := hA.ext0 hx0
  by_cases h : i < vs.length
  · have hb : decide ((i : Int) < (vs.length : Int)) = true := decide_eq_true (by omega)
    obtain ⟨v, hv⟩ : ∃ v, vs[i]? = some v := ⟨_, List.getElem?_eq_getElem h⟩
    rcases hsl with ⟨_, _, _, rfl⟩ | ⟨b1, cap1, xs, hpe, h2, h3⟩
    · simp at h
    injection hpe with hpe _ _
    subst hpe
    obtain ⟨nm, av, pos, pkg, kd, n1, n2, n3⟩ := h3.get hv
    have hcn : capital nm := hcap _ (List.mem_of_getElem? n1)
    have hfresh : ∀ k ∈ nms.take i, (nm == k) = false := fun k hk => by
      obtain ⟨j, hj⟩ := List.mem_iff_getElem?.1 hk
      have hji : j < i := by
        have := (List.getElem?_eq_some_iff.1 hj).1
        rw [List.length_take] at this
        omega
      rw [List.getElem?_take, if_pos hji] at hj
      exact ne_of_beqB (hdis j i k nm hji hj n1)
    have hins := insert_any wr hAr hp hcn n3 hset hext.size hfresh
    (repeat (first | (refine cL ?_; first | (refine cL_guard ?_; refine L_unwanted rfl rfl rfl ?_) | (refine cL_move ?_; refine L_val R_move rfl rfl rfl ?_) | (refine cL_load ?_; first | refine L_val (R_loadH hAr rfl h2 n2) rfl rfl rfl ?_ | refine L_val (R_loadB rfl (by assumption) (by rfl)) rfl rfl rfl ?_ | refine L_val (R_loadH (by assumption) rfl (by assumption) (by rfl)) rfl rfl rfl ?_) | (refine cL_fieldAddr ?_; refine L_val (R_fa rfl) rfl rfl rfl ?_) | (refine cL_nilCheck ?_; refine L_val (R_nil rfl) rfl rfl rfl ?_) | (refine cL_assign ?_; refine L_val R_assign rfl rfl rfl ?_) | (refine cL_call ?_; refine L_val (R_len rfl) rfl rfl rfl ?_) | (refine cL_pick ?_; first | refine L_val (R_pickT rfl) rfl rfl rfl ?_ | refine L_val (R_pickF rfl) rfl rfl rfl ?_) | (refine cL_neq ?_; first | refine L_valB (R_neS rfl rfl) (notUnder hcn) rfl rfl rfl ?_ | refine L_val (R_nePN rfl rfl) rfl rfl rfl ?_ | refine L_val (R_neI rfl rfl) rfl rfl rfl ?_ | refine L_val (R_neB rfl rfl) rfl rfl rfl ?_ | refine L_val (R_neIfN rfl rfl) rfl rfl rfl ?_ | refine L_val (R_neIfNN rfl) rfl rfl rfl ?_) | (refine cL_lss ?_; first | refine L_valB (R_ltI rfl rfl) hb rfl rfl rfl ?_ | refine L_val (R_ltI rfl rfl) rfl rfl rfl ?_) | (refine cL_indexAddr ?_; refine L_valE (R_ia rfl rfl (by omega) (by omega)) (ia0 _ _) rfl rfl rfl ?_) | (refine cL_makeInterface ?_; refine L_val R_mkI rfl rfl rfl ?_) | (refine cL_add ?_; refine L_val (R_addI rfl rfl) rfl rfl rfl ?_) | (refine cL_gtr ?_; refine L_val (R_gtI rfl rfl) rfl rfl rfl ?_) | refine L_nil ?_) | refine G_seq ?_ | refine G_region ?_ | refine G_skip ?_ | refine G_block ?_ | refine G_end ?_ | refine G_true rfl ?_ | refine G_false rfl ?_))
    refine L_callR hins rfl rfl fun v2 w2 ⟨hv2, hset2, x2⟩ => ?_
    subst hv2
    have htk : nms.take i ++ [nm] = nms.take (i + 1) := by rw [List.take_add_one, n1]; rfl
    rw [htk] at hset2
    (repeat (first | (refine cL ?_; first | (refine cL_guard ?_; refine L_unwanted rfl rfl rfl ?_) | (refine cL_move ?_; refine L_val R_move rfl rfl rfl ?_) | (refine cL_load ?_; first | refine L_val (R_loadB rfl (by assumption) (by rfl)) rfl rfl rfl ?_ | refine L_val (R_loadH (by assumption) rfl (by assumption) (by rfl)) rfl rfl rfl ?_) | (refine cL_fieldAddr ?_; refine L_val (R_fa rfl) rfl rfl rfl ?_) | (refine cL_nilCheck ?_; refine L_val (R_nil rfl) rfl rfl rfl ?_) | (refine cL_assign ?_; refine L_val R_assign rfl rfl rfl ?_) | (refine cL_call ?_; refine L_val (R_len rfl) rfl rfl rfl ?_) | (refine cL_pick ?_; first | refine L_val (R_pickT rfl) rfl rfl rfl ?_ | refine L_val (R_pickF rfl) rfl rfl rfl ?_) | (refine cL_neq ?_; first | refine L_val (R_nePN rfl rfl) rfl rfl rfl ?_ | refine L_val (R_neI rfl rfl) rfl rfl rfl ?_ | refine L_val (R_neB rfl rfl) rfl rfl rfl ?_ | refine L_val (R_neIfN rfl rfl) rfl rfl rfl ?_ | refine L_val (R_neIfNN rfl) rfl rfl rfl ?_) | (refine cL_lss ?_; refine L_val (R_ltI rfl rfl) rfl rfl rfl ?_) | (refine cL_makeInterface ?_; refine L_val R_mkI rfl rfl rfl ?_) | (refine cL_add ?_; first | refine L_valE (R_addI rfl rfl) (succ_i64 h hbd) rfl rfl rfl ?_ | refine L_val (R_addI rfl rfl) rfl rfl rfl ?_) | (refine cL_gtr ?_; refine L_val (R_gtI rfl rfl) rfl rfl rfl ?_) | refine L_nil ?_) | refine G_seq ?_ | refine G_region ?_ | refine G_skip ?_ | refine G_block ?_ | refine G_end ?_ | refine G_true rfl ?_ | refine G_false rfl ?_))
    refine G_inv ⟨⟨rfl, _, i + 1, with_self ⟨rfl, rfl, rfl, rfl, rfl, rfl, trivial⟩, h, hext.trans x2, hset2⟩, ?_⟩
    show ((vs.length : Int) - ((i + 1 : Nat) : Int)).toNat < ((vs.length : Int) - (i : Int)).toNat
    omega
  · have hb : decide ((i : Int) < (vs.length : Int)) = false := decide_eq_false (by omega)
    clear hset hext
    (repeat (first | (refine cL ?_; first | (refine cL_guard ?_; refine L_unwanted rfl rfl rfl ?_) | (refine cL_move ?_; refine L_val R_move rfl rfl rfl ?_) | (refine cL_load ?_; first | refine L_val (R_loadB rfl (by assumption) (by rfl)) rfl rfl rfl ?_ | refine L_val (R_loadH (by assumption) rfl (by assumption) (by rfl)) rfl rfl rfl ?_) | (refine cL_fieldAddr ?_; refine L_val (R_fa rfl) rfl rfl rfl ?_) | (refine cL_nilCheck ?_; refine L_val (R_nil rfl) rfl rfl rfl ?_) | (refine cL_assign ?_; refine L_val R_assign rfl rfl rfl ?_) | (refine cL_call ?_; refine L_val (R_len rfl) rfl rfl rfl ?_) | (refine cL_pick ?_; first | refine L_val (R_pickT rfl) rfl rfl rfl ?_ | refine L_val (R_pickF rfl) rfl rfl rfl ?_) | (refine cL_neq ?_; first | refine L_val (R_nePN rfl rfl) rfl rfl rfl ?_ | refine L_val (R_neI rfl rfl) rfl rfl rfl ?_ | refine L_val (R_neB rfl rfl) rfl rfl rfl ?_ | refine L_val (R_neIfN rfl rfl) rfl rfl rfl ?_ | refine L_val (R_neIfNN rfl) rfl rfl rfl ?_) | (refine cL_lss ?_; first | refine L_valB (R_ltI rfl rfl) hb rfl rfl rfl ?_ | refine L_val (R_ltI rfl rfl) rfl rfl rfl ?_) | (refine cL_makeInterface ?_; refine L_val R_mkI rfl rfl rfl ?_) | (refine cL_add ?_; refine L_val (R_addI rfl rfl) rfl rfl rfl ?_) | (refine cL_gtr ?_; first | refine L_valB (R_gtI rfl rfl) hgt rfl rfl rfl ?_ | refine L_val (R_gtI rfl rfl) rfl rfl rfl ?_) | (refine cL_build ?_; refine L_val (R_build (cs := [.slice p vs.length cap, .slice none 0 0]) rfl) rfl rfl rfl ?_) | refine L_nil ?_) | refine G_exit rfl ?_ | refine G_seq ?_ | refine G_region ?_ | refine G_skip ?_ | refine G_block ?_ | refine G_end ?_ | refine G_true rfl ?_ | refine G_false rfl ?_))
    refine L_box rfl rfl rfl fun b w2 hn2 => ?_
    rcases hsl with ⟨rfl, rfl, rfl, rfl⟩ | ⟨b1, cap1, xs, hpe, h2, h3⟩
    · (repeat (first | (refine cL ?_; first | (refine cL_guard ?_; refine L_unwanted rfl rfl rfl ?_) | (refine cL_move ?_; refine L_val R_move rfl rfl rfl ?_) | (refine cL_load ?_; first | refine L_val (R_loadB rfl (by assumption) (by rfl)) rfl rfl rfl ?_ | refine L_val (R_loadH (by assumption) rfl (by assumption) (by rfl)) rfl rfl rfl ?_) | (refine cL_fieldAddr ?_; refine L_val (R_fa rfl) rfl rfl rfl ?_) | (refine cL_nilCheck ?_; refine L_val (R_nil rfl) rfl rfl rfl ?_) | (refine cL_assign ?_; refine L_val R_assign rfl rfl rfl ?_) | (refine cL_call ?_; refine L_val (R_len rfl) rfl rfl rfl ?_) | (refine cL_pick ?_; first | refine L_val (R_pickT rfl) rfl rfl rfl ?_ | refine L_val (R_pickF rfl) rfl rfl rfl ?_) | (refine cL_neq ?_; first | refine L_val (R_nePN rfl rfl) rfl rfl rfl ?_ | refine L_val (R_neI rfl rfl) rfl rfl rfl ?_ | refine L_val (R_neB rfl rfl) rfl rfl rfl ?_ | refine L_val (R_neIfN rfl rfl) rfl rfl rfl ?_ | refine L_val (R_neIfNN rfl) rfl rfl rfl ?_) | (refine cL_lss ?_; refine L_val (R_ltI rfl rfl) rfl rfl rfl ?_) | (refine cL_makeInterface ?_; refine L_val R_mkI rfl rfl rfl ?_) | (refine cL_add ?_; refine L_val (R_addI rfl rfl) rfl rfl rfl ?_) | (refine cL_gtr ?_; refine L_val (R_gtI rfl rfl) rfl rfl rfl ?_) | refine L_nil ?_) | refine G_seq ?_ | refine G_region ?_ | refine G_skip ?_ | refine G_block ?_ | refine G_end ?_ | refine G_true rfl ?_ | refine G_false rfl ?_))
      refine L_callR (markComplete_nil w2 hn2.here) rfl rfl fun v3 w3 ⟨hv3, e, he, hee, hbb, x3⟩ => ?_
      subst hv3
      (repeat (first | (refine cL ?_; first | (refine cL_guard ?_; refine L_unwanted rfl rfl rfl ?_) | (refine cL_move ?_; refine L_val R_move rfl rfl rfl ?_) | (refine cL_load ?_; first | refine L_val (R_loadB rfl (by assumption) (by rfl)) rfl rfl rfl ?_ | refine L_val (R_loadH (by assumption) rfl (by assumption) (by rfl)) rfl rfl rfl ?_) | (refine cL_fieldAddr ?_; refine L_val (R_fa rfl) rfl rfl rfl ?_) | (refine cL_nilCheck ?_; refine L_val (R_nil rfl) rfl rfl rfl ?_) | (refine cL_assign ?_; refine L_val R_assign rfl rfl rfl ?_) | (refine cL_call ?_; refine L_val (R_len rfl) rfl rfl rfl ?_) | (refine cL_pick ?_; first | refine L_val (R_pickT rfl) rfl rfl rfl ?_ | refine L_val (R_pickF rfl) rfl rfl rfl ?_) | (refine cL_neq ?_; first | refine L_val (R_nePN rfl rfl) rfl rfl rfl ?_ | refine L_val (R_neI rfl rfl) rfl rfl rfl ?_ | refine L_val (R_neB rfl rfl) rfl rfl rfl ?_ | refine L_val (R_neIfN rfl rfl) rfl rfl rfl ?_ | refine L_val (R_neIfNN rfl) rfl rfl rfl ?_) | (refine cL_lss ?_; refine L_val (R_ltI rfl rfl) rfl rfl rfl ?_) | (refine cL_makeInterface ?_; refine L_val R_mkI rfl rfl rfl ?_) | (refine cL_add ?_; refine L_val (R_addI rfl rfl) rfl rfl rfl ?_) | (refine cL_gtr ?_; refine L_val (R_gtI rfl rfl) rfl rfl rfl ?_) | refine L_nil ?_) | refine G_seq ?_ | refine G_region ?_ | refine G_skip ?_ | refine G_block ?_ | refine G_end ?_ | refine G_true rfl ?_ | refine G_false rfl ?_))
      (refine G_retF rfl ?_)
      have hf2 := hn2.fresh
      have hs0 := hx0.size
      have xx : Ext No w w3 := (hx0.trans hn2.ext).trans_new x3 fun k hk hm => by omega
      have := hn2.ext.size
      obtain ⟨He, ge, -, hHe⟩ := (Grow.quiet hA xx).add hee (by omega)
      obtain ⟨Hb, gb, leb, hHb⟩ := ge.add hbb (by omega)
      exact ⟨_, rfl, b, Hb, _, rfl, gb, hHb, e, 0, [], rfl, leb _ _ hHe, trivial⟩
    · injection hpe with hpe _ hcp
      subst hpe
      (repeat (first | (refine cL ?_; first | (refine cL_guard ?_; refine L_unwanted rfl rfl rfl ?_) | (refine cL_move ?_; refine L_val R_move rfl rfl rfl ?_) | (refine cL_load ?_; first | refine L_val (R_loadB rfl (by assumption) (by rfl)) rfl rfl rfl ?_ | refine L_val (R_loadH (by assumption) rfl (by assumption) (by rfl)) rfl rfl rfl ?_) | (refine cL_fieldAddr ?_; refine L_val (R_fa rfl) rfl rfl rfl ?_) | (refine cL_nilCheck ?_; refine L_val (R_nil rfl) rfl rfl rfl ?_) | (refine cL_assign ?_; refine L_val R_assign rfl rfl rfl ?_) | (refine cL_call ?_; refine L_val (R_len rfl) rfl rfl rfl ?_) | (refine cL_pick ?_; first | refine L_val (R_pickT rfl) rfl rfl rfl ?_ | refine L_val (R_pickF rfl) rfl rfl rfl ?_) | (refine cL_neq ?_; first | refine L_val (R_nePN rfl rfl) rfl rfl rfl ?_ | refine L_val (R_neI rfl rfl) rfl rfl rfl ?_ | refine L_val (R_neB rfl rfl) rfl rfl rfl ?_ | refine L_val (R_neIfN rfl rfl) rfl rfl rfl ?_ | refine L_val (R_neIfNN rfl) rfl rfl rfl ?_) | (refine cL_lss ?_; refine L_val (R_ltI rfl rfl) rfl rfl rfl ?_) | (refine cL_makeInterface ?_; refine L_val R_mkI rfl rfl rfl ?_) | (refine cL_add ?_; refine L_val (R_addI rfl rfl) rfl rfl rfl ?_) | (refine cL_gtr ?_; refine L_val (R_gtI rfl rfl) rfl rfl rfl ?_) | refine L_nil ?_) | refine G_seq ?_ | refine G_region ?_ | refine G_skip ?_ | refine G_block ?_ | refine G_end ?_ | refine G_true rfl ?_ | refine G_false rfl ?_))
      refine L_callR (markComplete_some w2 hn2.here) rfl rfl fun v3 w3 ⟨hv3, hw3⟩ => ?_
      subst hv3
      subst hw3
      (repeat (first | (refine cL ?_; first | (refine cL_guard ?_; refine L_unwanted rfl rfl rfl ?_) | (refine cL_move ?_; refine L_val R_move rfl rfl rfl ?_) | (refine cL_load ?_; first | refine L_val (R_loadB rfl (by assumption) (by rfl)) rfl rfl rfl ?_ | refine L_val (R_loadH (by assumption) rfl (by assumption) (by rfl)) rfl rfl rfl ?_) | (refine cL_fieldAddr ?_; refine L_val (R_fa rfl) rfl rfl rfl ?_) | (refine cL_nilCheck ?_; refine L_val (R_nil rfl) rfl rfl rfl ?_) | (refine cL_assign ?_; refine L_val R_assign rfl rfl rfl ?_) | (refine cL_call ?_; refine L_val (R_len rfl) rfl rfl rfl ?_) | (refine cL_pick ?_; first | refine L_val (R_pickT rfl) rfl rfl rfl ?_ | refine L_val (R_pickF rfl) rfl rfl rfl ?_) | (refine cL_neq ?_; first | refine L_val (R_nePN rfl rfl) rfl rfl rfl ?_ | refine L_val (R_neI rfl rfl) rfl rfl rfl ?_ | refine L_val (R_neB rfl rfl) rfl rfl rfl ?_ | refine L_val (R_neIfN rfl rfl) rfl rfl rfl ?_ | refine L_val (R_neIfNN rfl) rfl rfl rfl ?_) | (refine cL_lss ?_; refine L_val (R_ltI rfl rfl) rfl rfl rfl ?_) | (refine cL_makeInterface ?_; refine L_val R_mkI rfl rfl rfl ?_) | (refine cL_add ?_; refine L_val (R_addI rfl rfl) rfl rfl rfl ?_) | (refine cL_gtr ?_; refine L_val (R_gtI rfl rfl) rfl rfl rfl ?_) | refine L_nil ?_) | refine G_seq ?_ | refine G_region ?_ | refine G_skip ?_ | refine G_block ?_ | refine G_end ?_ | refine G_true rfl ?_ | refine G_false rfl ?_))
      (refine G_retF rfl ?_)
      have hf2 := hn2.fresh
      have hs0 := hx0.size
      obtain ⟨Hb, gb, leb, hHb⟩ := (Grow.quiet hA (hx0.trans hn2.ext)).add hn2.here (by omega)
      exact ⟨_, rfl, b, Hb, _, rfl, gb, hHb, b1, cap, xs, rfl, leb _ _ h2, h3.mono leb⟩
end Go.Proofs.YtmmcjnfgcaefpaaGreatDoor

/-
  Lists of parameters: the thin package's 'tuple'.
-/
namespace Go.Proofs.YtmmcjnfgcaefpaaGreatDoor
set_option maxRecDepth 100000
set_option maxHeartbeats 4000000
attribute [local irreducible] Calls execOp

/-- a slice of types: each value lies where the slice says -/
def SlAt (H : Hp) (vs : List Value) (p : Option Addr) : Prop := ∀ (i : Nat) (v : Value), vs[i]? = some v → (∃ T x, v = .iface T x) ∧ ∃ g off cs T, p = some ⟨g, off, none⟩ ∧ H g = some (Ob cs T) ∧ lget cs (off + i) = some v

theorem VarsIs.snoc {H : Hp} {nm : ByteArray} {v x : Value} (hv : VarIs H nm v x) : ∀ {nms : List ByteArray} {vs xs : List Value}, VarsIs H nms vs xs → nms.length = vs.length → xs.length = vs.length → VarsIs H (nms ++ [nm]) (vs ++ [v]) (xs ++ [x])
  | [], [], [], _, _, _ => ⟨hv, trivial⟩
  | n :: nms, v' :: vs, x' :: xs, ⟨h1, h2⟩, hn, hx => ⟨h1, VarsIs.snoc hv h2 (by simpa using hn) (by simpa using hx)⟩
  | [], _ :: _, _, _, hn, _ => by simp at hn
  | _ :: _, [], _, _, hn, _ => by simp at hn
  | [], [], _ :: _, _, _, hx => by simp at hx
  | _ :: _, _ :: _, [], _, _, hx => by simp at hx
theorem VarsIs.more {H : Hp} {r : List Value} : ∀ {nms : List ByteArray} {vs xs : List Value}, VarsIs H nms vs xs → VarsIs H nms vs (xs ++ r)
  | nms, [], xs, _ => by cases nms <;> cases xs <;> cases r <;> trivial
  | [], _ :: _, xs, h => by cases xs <;> exact h.elim
  | _ :: _, _ :: _, [], h => h.elim
  | n :: nms, v :: vs, x :: xs, ⟨h1, h2⟩ => ⟨h1, VarsIs.more h2⟩

theorem iaO (b off i : Nat) : (Value.pointer (some ⟨b, off + ((i : Nat) : Int).toNat * 1, none⟩)) = .pointer (some ⟨b, off + i, none⟩) := by simp

theorem tuple_any {H : Hp} {vs : List Value} {p : Option Addr} {cap bB : Nat} {vd v2 v3 : Value} {pk : Option Addr} (w : World) (hA : Agree H w) (hb : w.heap[bB]? = some (Ob [vd, .pointer pk, v2, v3] 54)) (hsl : SlAt H vs p) (hbd : vs.length * 8 ≤ 140737488351232) :
    Calls Tryz.prog 36 #[ptr bB, .slice p vs.length cap] w (Ret fun r w' => ∃ H', Grow H w H' w' ∧ TupIs H' vs r) := by
  (refine calls_enter Tryz.func36 Tryz.ntmps36 rfl rfl ?_)
  (repeat (first | (refine cL ?_; first | (refine cL_move ?_; refine L_val R_move rfl rfl rfl ?_) | (refine cL_load ?_; first | refine L_val (R_loadB rfl (by assumption) (by rfl)) rfl rfl rfl ?_ | refine L_val (R_loadH (by assumption) rfl (by assumption) (by rfl)) rfl rfl rfl ?_) | (refine cL_fieldAddr ?_; refine L_val (R_fa rfl) rfl rfl rfl ?_) | (refine cL_nilCheck ?_; refine L_val (R_nil rfl) rfl rfl rfl ?_) | (refine cL_assign ?_; refine L_val R_assign rfl rfl rfl ?_) | (refine cL_call ?_; refine L_val (R_len rfl) rfl rfl rfl ?_) | (refine cL_lss ?_; refine L_val (R_ltI rfl rfl) rfl rfl rfl ?_) | (refine cL_add ?_; refine L_val (R_addI rfl rfl) rfl rfl rfl ?_) | refine L_nil ?_) | refine G_seq ?_ | refine G_region ?_ | refine G_skip ?_ | refine G_block ?_ | refine G_end ?_ | refine G_true rfl ?_ | refine G_false rfl ?_))
  refine G_loop (fun f ds0 w0 => ds0 = [] ∧ ∃ (f0 : Fm) (i : Nat) (va : Value) (xs : List Value) (Hi : Hp), f = with_ [(10, .int .i64 (i : Int)), (9, .int .i64 (vs.length : Int)), (8, .slice p vs.length cap), (0, ptr bB), (5, va)] f0 ∧ i ≤ vs.length ∧ Grow H w Hi w0 ∧ OwnS w0 84 va xs ∧
      (∀ g, va.ownBlock = some g → Hi g = none ∧ w.heap.size ≤ g) ∧ xs.length = i ∧ VarsIs Hi (noNames (vs.take i)) (vs.take i) xs ∧ (i = 0 → va = .slice none 0 0)) (fun f _ _ => countM 10 9 f)
    ⟨rfl, _, 0, .slice none 0 0, [], H, with_self ⟨rfl, rfl, rfl, rfl, rfl, trivial⟩, Nat.zero_le _, Grow.refl hA, .inl ⟨rfl, rfl⟩, (fun g hg => by cases hg), rfl, trivial, fun _ => rfl⟩ ?_
  rintro f ds wr ⟨rfl, f0, i, va, xs, Hi, rfl, hi, gr, hown, hob, hxl, hvars, hnil⟩
  by_cases h : i < vs.length
  · have hbt : decide ((i : Int) < (vs.length : Int)) = true := decide_eq_true (by omega)
    obtain ⟨v, hv⟩ : ∃ v, vs[i]? = some v := ⟨_, List.getElem?_eq_getElem h⟩
    obtain ⟨⟨T, x, rfl⟩, g, off, cs, T', rfl, hg, hgv⟩ := hsl i v hv
    have hAr := gr.ag
    have hg' := gr.le _ _ hg
    have hbr := gr.ext.heap (fun h => h) hb
    (repeat (first | (refine cL ?_; first | (refine cL_move ?_; refine L_val R_move rfl rfl rfl ?_) | (refine cL_load ?_; first | refine L_val (R_loadH hAr rfl hg' hgv) rfl rfl rfl ?_ | refine L_val (R_loadB rfl (by assumption) (by rfl)) rfl rfl rfl ?_ | refine L_val (R_loadH (by assumption) rfl (by assumption) (by rfl)) rfl rfl rfl ?_) | (refine cL_fieldAddr ?_; refine L_val (R_fa rfl) rfl rfl rfl ?_) | (refine cL_nilCheck ?_; refine L_val (R_nil rfl) rfl rfl rfl ?_) | (refine cL_assign ?_; refine L_val R_assign rfl rfl rfl ?_) | (refine cL_call ?_; refine L_val (R_len rfl) rfl rfl rfl ?_) | (refine cL_lss ?_; first | refine L_valB (R_ltI rfl rfl) hbt rfl rfl rfl ?_ | refine L_val (R_ltI rfl rfl) rfl rfl rfl ?_) | (refine cL_indexAddr ?_; refine L_valE (R_ia rfl rfl (by omega) (by omega)) (iaO _ _ _) rfl rfl rfl ?_) | (refine cL_add ?_; refine L_val (R_addI rfl rfl) rfl rfl rfl ?_) | refine L_nil ?_) | refine G_seq ?_ | refine G_region ?_ | refine G_skip ?_ | refine G_block ?_ | refine G_end ?_ | refine G_true rfl ?_ | refine G_false rfl ?_))
    refine L_callR (newParam_any 0 pk ⟨#[]⟩ T x wr) rfl rfl fun v4 w4 ⟨av, hv4, hn4⟩ => ?_
    subst hv4
    refine L_buildSlice (vs := [ptr av]) rfl rfl rfl rfl rfl rfl fun b5 w5 hn5 => ?_
    have hown5 := (hown.ext hn4.ext (fun _ _ h => h)).ext hn5.ext (fun _ _ h => h)
    refine L_push (v := va) (u := ptr av) rfl hown5 rfl hn5.here rfl (by omega) (by simp only [maxLen]; omega) rfl rfl fun va' w6 hpu => ?_
    (repeat (first | (refine cL ?_; first | (refine cL_move ?_; refine L_val R_move rfl rfl rfl ?_) | (refine cL_load ?_; first | refine L_val (R_loadB rfl (by assumption) (by rfl)) rfl rfl rfl ?_ | refine L_val (R_loadH (by assumption) rfl (by assumption) (by rfl)) rfl rfl rfl ?_) | (refine cL_fieldAddr ?_; refine L_val (R_fa rfl) rfl rfl rfl ?_) | (refine cL_nilCheck ?_; refine L_val (R_nil rfl) rfl rfl rfl ?_) | (refine cL_assign ?_; refine L_val R_assign rfl rfl rfl ?_) | (refine cL_call ?_; refine L_val (R_len rfl) rfl rfl rfl ?_) | (refine cL_lss ?_; refine L_val (R_ltI rfl rfl) rfl rfl rfl ?_) | (refine cL_add ?_; first | refine L_valE (R_addI rfl rfl) (succ_i64 h (by omega)) rfl rfl rfl ?_ | refine L_val (R_addI rfl rfl) rfl rfl rfl ?_) | refine L_nil ?_) | refine G_seq ?_ | refine G_region ?_ | refine G_skip ?_ | refine G_block ?_ | refine G_end ?_ | refine G_true rfl ?_ | refine G_false rfl ?_))
    obtain ⟨H4, g4, hav⟩ := Grow.ofNew hAr hn4
    have hlt4 : ∀ b o, va.ownBlock = some b → H4 b = some o → False := fun b o hvb hb4 => by
      have h1 := hown.lt b hvb
      rcases g4.new b o hb4 with h2 | h2
      · rw [(hob b hvb).1] at h2; cases h2
      · omega
    have gA := gr.trans g4
    have hA5 : Agree H4 w5 := gA.ag.ext0 hn5.ext
    have hA6 : Agree H4 w6 := hA5.ext hpu.ext fun b o hb hm => hlt4 b o hm.symm hb
    have hx5 : Ext No w w5 := gA.ext.trans hn5.ext
    have gB : Grow H w H4 w6 := ⟨gA.le, hA6, gA.new, hx5.trans_new hpu.ext fun k hk hm => by have := (hob k hm.symm).2; omega⟩
    have hob6 : ∀ g, va'.ownBlock = some g → H4 g = none ∧ w.heap.size ≤ g := fun g hg6 => by
      rcases hpu.blk with hbk | hbk
      · rw [hbk] at hg6
        refine ⟨?_, (hob g hg6).2⟩
        cases hh : H4 g with
        | none => rfl
        | some o => exact (hlt4 g o hg6 hh).elim
      · rw [hbk] at hg6
        injection hg6 with hg6
        have := hx5.size
        refine ⟨?_, by omega⟩
        cases hh : H4 g with
        | none => rfl
        | some o => have := hA5.lt hh; omega
    have htk : vs.take (i + 1) = vs.take i ++ [.iface T x] := by rw [List.take_add_one, hv]; rfl
    have hl1 : (vs.take i).length = i := by rw [List.length_take]; omega
    have hvars6 : VarsIs H4 (noNames (vs.take (i + 1))) (vs.take (i + 1)) (xs ++ [ptr av]) := by
      rw [htk]
      have hm : noNames (vs.take i ++ [.iface T x]) = noNames (vs.take i) ++ [⟨#[]⟩] := by simp [noNames]
      rw [hm]
      exact VarsIs.snoc ⟨av, _, _, _, rfl, hav⟩ (hvars.mono g4.le) (by simp [noNames]) (by rw [hl1]; exact hxl)
    refine G_inv ⟨⟨rfl, _, i + 1, va', xs ++ [ptr av], H4, with_self ⟨rfl, rfl, rfl, rfl, rfl, trivial⟩, h, gB, hpu.own, hob6, by simp [hxl], hvars6, fun h0 => by omega⟩, ?_⟩
    show ((vs.length : Int) - ((i + 1 : Nat) : Int)).toNat < ((vs.length : Int) - (i : Int)).toNat
    omega
  · have hbt : decide ((i : Int) < (vs.length : Int)) = false := decide_eq_false (by omega)
    have hil : i = vs.length := by omega
    have htk : vs.take i = vs := by rw [hil]; exact List.take_length
    rw [htk] at hvars
    (repeat (first | (refine cL ?_; first | (refine cL_move ?_; refine L_val R_move rfl rfl rfl ?_) | (refine cL_load ?_; first | refine L_val (R_loadB rfl (by assumption) (by rfl)) rfl rfl rfl ?_ | refine L_val (R_loadH (by assumption) rfl (by assumption) (by rfl)) rfl rfl rfl ?_) | (refine cL_fieldAddr ?_; refine L_val (R_fa rfl) rfl rfl rfl ?_) | (refine cL_nilCheck ?_; refine L_val (R_nil rfl) rfl rfl rfl ?_) | (refine cL_assign ?_; refine L_val R_assign rfl rfl rfl ?_) | (refine cL_call ?_; refine L_val (R_len rfl) rfl rfl rfl ?_) | (refine cL_lss ?_; first | refine L_valB (R_ltI rfl rfl) hbt rfl rfl rfl ?_ | refine L_val (R_ltI rfl rfl) rfl rfl rfl ?_) | (refine cL_add ?_; refine L_val (R_addI rfl rfl) rfl rfl rfl ?_) | refine L_nil ?_) | refine G_exit rfl ?_ | refine G_seq ?_ | refine G_region ?_ | refine G_skip ?_ | refine G_block ?_ | refine G_end ?_ | refine G_true rfl ?_ | refine G_false rfl ?_))
    by_cases h0 : i = 0
    · have hva := hnil h0
      subst hva
      refine L_callI (newTuple_nil wr) rfl rfl ?_
      (repeat (first | (refine cL ?_; first | (refine cL_move ?_; refine L_val R_move rfl rfl rfl ?_) | (refine cL_load ?_; first | refine L_val (R_loadB rfl (by assumption) (by rfl)) rfl rfl rfl ?_ | refine L_val (R_loadH (by assumption) rfl (by assumption) (by rfl)) rfl rfl rfl ?_) | (refine cL_fieldAddr ?_; refine L_val (R_fa rfl) rfl rfl rfl ?_) | (refine cL_nilCheck ?_; refine L_val (R_nil rfl) rfl rfl rfl ?_) | (refine cL_assign ?_; refine L_val R_assign rfl rfl rfl ?_) | (refine cL_call ?_; refine L_val (R_len rfl) rfl rfl rfl ?_) | (refine cL_lss ?_; refine L_val (R_ltI rfl rfl) rfl rfl rfl ?_) | (refine cL_add ?_; refine L_val (R_addI rfl rfl) rfl rfl rfl ?_) | refine L_nil ?_) | refine G_seq ?_ | refine G_region ?_ | refine G_skip ?_ | refine G_block ?_ | refine G_end ?_ | refine G_true rfl ?_ | refine G_false rfl ?_))
      (refine G_retF rfl ?_)
      refine ⟨_, rfl, Hi, gr, .inl ⟨rfl, ?_⟩⟩
      exact List.length_eq_zero_iff.1 (by omega)
    · rcases hown with ⟨_, rfl⟩ | ⟨g, c, r, rfl, hg, hgl⟩
      · simp at hxl; omega
      · refine L_callR (newTuple_some (some ⟨g, 0, none⟩) xs.length c wr (by omega)) rfl rfl fun v5 w5 ⟨b, hv5, hn5⟩ => ?_
        subst hv5
        (repeat (first | (refine cL ?_; first | (refine cL_move ?_; refine L_val R_move rfl rfl rfl ?_) | (refine cL_load ?_; first | refine L_val (R_loadB rfl (by assumption) (by rfl)) rfl rfl rfl ?_ | refine L_val (R_loadH (by assumption) rfl (by assumption) (by rfl)) rfl rfl rfl ?_) | (refine cL_fieldAddr ?_; refine L_val (R_fa rfl) rfl rfl rfl ?_) | (refine cL_nilCheck ?_; refine L_val (R_nil rfl) rfl rfl rfl ?_) | (refine cL_assign ?_; refine L_val R_assign rfl rfl rfl ?_) | (refine cL_call ?_; refine L_val (R_len rfl) rfl rfl rfl ?_) | (refine cL_lss ?_; refine L_val (R_ltI rfl rfl) rfl rfl rfl ?_) | (refine cL_add ?_; refine L_val (R_addI rfl rfl) rfl rfl rfl ?_) | refine L_nil ?_) | refine G_seq ?_ | refine G_region ?_ | refine G_skip ?_ | refine G_block ?_ | refine G_end ?_ | refine G_true rfl ?_ | refine G_false rfl ?_))
        (refine G_retF rfl ?_)
        have hg5 := hn5.ext.heap (fun h => h) hg
        have gq : Grow H w Hi w5 := gr.trans (Grow.quiet gr.ag hn5.ext)
        obtain ⟨Hg, gg, leg, hHg⟩ := gq.add hg5 (hob g rfl).2
        have hf5 := hn5.fresh
        have hs5 := gr.ext.size
        obtain ⟨Hb, gb, leb, hHb⟩ := gg.add hn5.here (by omega)
        refine ⟨_, rfl, Hb, gb, .inr ⟨b, _, rfl, hHb, ⟨g, c, xs ++ r, by rw [hxl, hil], leb _ _ hHg, (hvars.mono (Hp.le_trans leg leb)).more⟩, ?_⟩⟩
        intro hvs
        rw [hvs] at hil
        exact h0 hil
end Go.Proofs.YtmmcjnfgcaefpaaGreatDoor

/-
  Function types without a variadic parameter.
-/
namespace Go.Proofs.YtmmcjnfgcaefpaaGreatDoor
set_option maxRecDepth 100000
set_option maxHeartbeats 4000000
attribute [local irreducible] Calls execOp

theorem newSig_plain (px py : Option Addr) (w : World) : Calls Tryz.prog 35 #[.pointer none, .slice none 0 0, .slice none 0 0, .pointer px, .pointer py, .bool false] w (Ret (NewP [.pointer none, .pointer none, .pointer px, .pointer py, .bool false] 110 w)) := by
  (refine calls_enter Tryz.func35 Tryz.ntmps35 rfl rfl ?_)
  (repeat (first | (refine cL ?_; first | (refine cL_guard ?_; refine L_unwanted rfl rfl rfl ?_) | (refine cL_move ?_; refine L_val R_move rfl rfl rfl ?_) | (refine cL_load ?_; first | refine L_val (R_loadB rfl (by assumption) (by rfl)) rfl rfl rfl ?_ | refine L_val (R_loadH (by assumption) rfl (by assumption) (by rfl)) rfl rfl rfl ?_) | (refine cL_fieldAddr ?_; refine L_val (R_fa rfl) rfl rfl rfl ?_) | (refine cL_nilCheck ?_; refine L_val (R_nil rfl) rfl rfl rfl ?_) | (refine cL_assign ?_; refine L_val R_assign rfl rfl rfl ?_) | (refine cL_extract ?_; refine L_val (R_extract rfl rfl) rfl rfl rfl ?_) | (refine cL_typeAssert ?_; first | refine L_val (R_taY rfl) rfl rfl rfl ?_ | refine L_val (R_taN rfl rfl) rfl rfl rfl ?_ | refine L_val (R_taNil rfl) rfl rfl rfl ?_) | (refine cL_pick ?_; first | refine L_val (R_pickT rfl) rfl rfl rfl ?_ | refine L_val (R_pickF rfl) rfl rfl rfl ?_) | (refine cL_eql ?_; first | refine L_val (R_eqPN rfl rfl) rfl rfl rfl ?_ | refine L_val (R_eqI rfl rfl) rfl rfl rfl ?_ | refine L_val (R_eqB rfl rfl) rfl rfl rfl ?_ | refine L_val (R_eqIfN rfl rfl) rfl rfl rfl ?_ | refine L_val (R_eqIfNN rfl) rfl rfl rfl ?_) | (refine cL_makeInterface ?_; refine L_val R_mkI rfl rfl rfl ?_) | (refine cL_not ?_; refine L_val (R_not rfl) rfl rfl rfl ?_) | (refine cL_sub ?_; refine L_val (R_subI rfl rfl) rfl rfl rfl ?_) | (refine cL_build ?_; refine L_val (R_build (cs := [.pointer none, .pointer none, .pointer px, .pointer py, .bool false]) rfl) rfl rfl rfl ?_) | refine L_nil ?_) | refine G_seq ?_ | refine G_region ?_ | refine G_skip ?_ | refine G_block ?_ | refine G_end ?_ | refine G_true rfl ?_ | refine G_false rfl ?_))
  refine L_box rfl rfl rfl fun b w1 hn => ?_
  (repeat (first | (refine cL ?_; first | (refine cL_guard ?_; refine L_unwanted rfl rfl rfl ?_) | (refine cL_move ?_; refine L_val R_move rfl rfl rfl ?_) | (refine cL_load ?_; first | refine L_val (R_loadB rfl (by assumption) (by rfl)) rfl rfl rfl ?_ | refine L_val (R_loadH (by assumption) rfl (by assumption) (by rfl)) rfl rfl rfl ?_) | (refine cL_fieldAddr ?_; refine L_val (R_fa rfl) rfl rfl rfl ?_) | (refine cL_nilCheck ?_; refine L_val (R_nil rfl) rfl rfl rfl ?_) | (refine cL_assign ?_; refine L_val R_assign rfl rfl rfl ?_) | (refine cL_extract ?_; refine L_val (R_extract rfl rfl) rfl rfl rfl ?_) | (refine cL_typeAssert ?_; first | refine L_val (R_taY rfl) rfl rfl rfl ?_ | refine L_val (R_taN rfl rfl) rfl rfl rfl ?_ | refine L_val (R_taNil rfl) rfl rfl rfl ?_) | (refine cL_pick ?_; first | refine L_val (R_pickT rfl) rfl rfl rfl ?_ | refine L_val (R_pickF rfl) rfl rfl rfl ?_) | (refine cL_eql ?_; first | refine L_val (R_eqPN rfl rfl) rfl rfl rfl ?_ | refine L_val (R_eqI rfl rfl) rfl rfl rfl ?_ | refine L_val (R_eqB rfl rfl) rfl rfl rfl ?_ | refine L_val (R_eqIfN rfl rfl) rfl rfl rfl ?_ | refine L_val (R_eqIfNN rfl) rfl rfl rfl ?_) | (refine cL_makeInterface ?_; refine L_val R_mkI rfl rfl rfl ?_) | (refine cL_not ?_; refine L_val (R_not rfl) rfl rfl rfl ?_) | (refine cL_sub ?_; refine L_val (R_subI rfl rfl) rfl rfl rfl ?_) | refine L_nil ?_) | refine G_seq ?_ | refine G_region ?_ | refine G_skip ?_ | refine G_block ?_ | refine G_end ?_ | refine G_true rfl ?_ | refine G_false rfl ?_))
  (refine G_retF rfl ?_)
  exact ⟨_, rfl, b, rfl, hn⟩

theorem isBasic_slice (a : Nat) (w : World) : Calls Tryz.prog 93 #[.iface 73 (ptr a), .int .i64 32] w (Ret (Is (.bool false) w)) := by
  (refine calls_enter Tryz.func93 Tryz.ntmps93 rfl rfl ?_)
  (repeat (first | (refine cL ?_; first | (refine cL_guard ?_; refine L_unwanted rfl rfl rfl ?_) | (refine cL_move ?_; refine L_val R_move rfl rfl rfl ?_) | (refine cL_load ?_; first | refine L_val (R_loadB rfl (by assumption) (by rfl)) rfl rfl rfl ?_ | refine L_val (R_loadH (by assumption) rfl (by assumption) (by rfl)) rfl rfl rfl ?_) | (refine cL_fieldAddr ?_; refine L_val (R_fa rfl) rfl rfl rfl ?_) | (refine cL_nilCheck ?_; refine L_val (R_nil rfl) rfl rfl rfl ?_) | (refine cL_assign ?_; refine L_val R_assign rfl rfl rfl ?_) | (refine cL_extract ?_; refine L_val (R_extract rfl rfl) rfl rfl rfl ?_) | (refine cL_typeAssert ?_; first | refine L_val (R_taY rfl) rfl rfl rfl ?_ | refine L_val (R_taN rfl rfl) rfl rfl rfl ?_ | refine L_val (R_taNil rfl) rfl rfl rfl ?_) | (refine cL_call ?_; refine L_invokeI rfl (under_slice a w) rfl rfl ?_) | (refine cL_pick ?_; first | refine L_val (R_pickT rfl) rfl rfl rfl ?_ | refine L_val (R_pickF rfl) rfl rfl rfl ?_) | (refine cL_neq ?_; first | refine L_val (R_nePN rfl rfl) rfl rfl rfl ?_ | refine L_val (R_neI rfl rfl) rfl rfl rfl ?_ | refine L_val (R_neB rfl rfl) rfl rfl rfl ?_ | refine L_val (R_neIfN rfl rfl) rfl rfl rfl ?_ | refine L_val (R_neIfNN rfl) rfl rfl rfl ?_) | refine L_nil ?_) | refine G_seq ?_ | refine G_region ?_ | refine G_skip ?_ | refine G_block ?_ | refine G_end ?_ | refine G_true rfl ?_ | refine G_false rfl ?_))
  (refine G_retF rfl ?_)
  exact ⟨_, rfl, rfl, rfl⟩
theorem isString_slice (a : Nat) (w : World) : Calls Tryz.prog 66 #[.iface 73 (ptr a)] w (Ret (Is (.bool false) w)) := by
  (refine calls_enter Tryz.func66 Tryz.ntmps66 rfl rfl ?_)
  (repeat (first | (refine cL ?_; first | (refine cL_move ?_; refine L_val R_move rfl rfl rfl ?_) | (refine cL_assign ?_; refine L_val R_assign rfl rfl rfl ?_) | (refine cL_call ?_; refine L_callI (isBasic_slice a w) rfl rfl ?_) | refine L_nil ?_) | refine G_seq ?_ | refine G_region ?_ | refine G_skip ?_ | refine G_block ?_ | refine G_end ?_ | refine G_true rfl ?_ | refine G_false rfl ?_))
  (refine G_retF rfl ?_)
  exact ⟨_, rfl, rfl, rfl⟩
theorem tupleAt_any {H : Hp} {a i : Nat} {b cap : Nat} {len : Nat} {xs : List Value} {x : Value} (w : World) (hA : Agree H w) (h : H a = some (Ob [.slice (some ⟨b, 0, none⟩) len cap] 156)) (hb : H b = some (Ob xs 84)) (hi : i < len) (hx : lget xs i = some x) :
    Calls Tryz.prog 64 #[ptr a, .int .i64 (i : Int)] w (Ret (Is x w)) := by
  (refine calls_enter Tryz.func64 Tryz.ntmps64 rfl rfl ?_)
  (repeat (first | (refine cL ?_; first | (refine cL_move ?_; refine L_val R_move rfl rfl rfl ?_) | (refine cL_load ?_; first | refine L_val (R_loadH hA rfl hb hx) rfl rfl rfl ?_ | refine L_val (R_loadB rfl (by assumption) (by rfl)) rfl rfl rfl ?_ | refine L_val (R_loadH (by assumption) rfl (by assumption) (by rfl)) rfl rfl rfl ?_) | (refine cL_fieldAddr ?_; refine L_val (R_fa rfl) rfl rfl rfl ?_) | (refine cL_nilCheck ?_; refine L_val (R_nil rfl) rfl rfl rfl ?_) | (refine cL_assign ?_; refine L_val R_assign rfl rfl rfl ?_) | (refine cL_indexAddr ?_; refine L_valE (R_ia rfl rfl (by omega) (by omega)) (ia0 _ _) rfl rfl rfl ?_) | refine L_nil ?_) | refine G_seq ?_ | refine G_region ?_ | refine G_skip ?_ | refine G_block ?_ | refine G_end ?_ | refine G_true rfl ?_ | refine G_false rfl ?_))
  (refine G_retF rfl ?_)
  exact ⟨_, rfl, rfl, rfl⟩
end Go.Proofs.YtmmcjnfgcaefpaaGreatDoor

/-
  Types in the place of a declaration's own type parameters. Plain Lean.
-/
namespace Go.Proofs.YtmmcjnfgcaefpaaGreatDoor

def Ty.setNm (t : Ty) (s : ByteArray) : Ty := match t with | .mk k n c b _ es => .mk k n c b s es

mutual
def substT (ts : List Ty) : Ty → Ty
  | .mk k n c b nm es => if k = 3 then ((ts[n.toNat]?).getD (.mk k n c b nm es)).setNm nm else .mk k n c b nm (substL ts es)
def substL (ts : List Ty) : List Ty → List Ty
  | [] => []
  | e :: es => substT ts e :: substL ts es
end

theorem setNm_nm (t : Ty) (s : ByteArray) : (t.setNm s).nm = s := by cases t; rfl
theorem substT_nm (ts : List Ty) (t : Ty) : (substT ts t).nm = t.nm := by
  cases t
  unfold substT
  split
  · rw [setNm_nm]; rfl
  · rfl
theorem substL_nm (ts : List Ty) : ∀ es : List Ty, (substL ts es).map Ty.nm = es.map Ty.nm
  | [] => rfl
  | e :: es => by simp only [substL, List.map_cons, substT_nm, substL_nm ts es]
theorem substL_len (ts : List Ty) : ∀ es : List Ty, (substL ts es).length = es.length
  | [] => rfl
  | e :: es => by simp only [substL, List.length_cons, substL_len ts es]
theorem rep_setNm {E : Env} {H : Hp} {t : Ty} {s : ByteArray} {v : Value} (h : Rep E H t v) : Rep E H (t.setNm s) v := by
  cases t
  simp only [Rep, Ty.setNm] at h ⊢
  exact h

theorem headB_noOwn {ds : List (Int × Ty)} {k n c : Int} {b : Bool} {es : List Ty} {params : Int} (h : headB ds k n c b es params 0 = true) : k ≠ 3 := by
  intro hk
  subst hk
  simp only [headB, Bool.and_eq_true, Bool.not_eq_true'] at h
  have h4 := h.2.1
  have hl : limitL ds.length 3 params 0 = 0 := by simp [limitL]
  rw [hl] at h4
  simp [head4] at h4
  omega

theorem substL_id {ts : List Ty} : ∀ {es : List Ty}, (∀ e ∈ es, substT ts e = e) → substL ts es = es
  | [], _ => rfl
  | e :: es, h => by
    simp only [substL]
    rw [h e List.mem_cons_self, substL_id fun x hx => h x (List.mem_cons_of_mem _ hx)]

theorem substT_closed {ds : List (Int × Ty)} {params : Int} {ts : List Ty} : ∀ t : Ty, shapedB ds params 0 t = true → substT ts t = t := by
  refine Ty.ind fun k n c b nm es ih h => ?_
  have hk : k ≠ 3 := headB_noOwn (shaped_head h)
  unfold substT
  rw [if_neg hk, substL_id fun e he => ih e he (shaped_part h he)]
end Go.Proofs.YtmmcjnfgcaefpaaGreatDoor

/-
  The law's guard on sizes.
-/
namespace Go.Proofs.YtmmcjnfgcaefpaaGreatDoor
set_option maxRecDepth 100000
set_option maxHeartbeats 4000000
attribute [local irreducible] Calls execOp

def fitsB (t : Ty) : Bool := !(decide ((t.es.length : Int) > 2147483647)) && !(decide ((t.nm.size : Int) > 2147483647))

theorem fits_any {H : Hp} {t : Ty} {cs : List Value} (w : World) (hA : Agree H w) (hx : DTy H t cs) : Calls Tryz.prog 4 #[.agg cs.toArray] w (Ret (Qt (.bool (fitsB t)) w)) := by
  obtain ⟨p, cap, rfl, -, -, -, hbd, hes⟩ := hx.cells
  unfold fitsB
  (refine calls_enter Tryz.func4 Tryz.ntmps4 rfl rfl ?_)
  (repeat (first | (refine cL ?_; first | (refine cL_load ?_; first | refine L_val (R_loadB rfl (by assumption) (by rfl)) rfl rfl rfl ?_ | refine L_val (R_loadH (by assumption) rfl (by assumption) (by rfl)) rfl rfl rfl ?_) | (refine cL_fieldAddr ?_; refine L_val (R_fa rfl) rfl rfl rfl ?_) | (refine cL_assign ?_; refine L_val R_assign rfl rfl rfl ?_) | (refine cL_call ?_; refine L_val (R_len rfl) rfl rfl rfl ?_) | (refine cL_gtr ?_; refine L_val (R_gtI rfl rfl) rfl rfl rfl ?_) | refine L_nil ?_) | refine G_seq ?_ | refine G_region ?_ | refine G_skip ?_ | refine G_block ?_ | refine G_end ?_ | refine G_true rfl ?_ | refine G_false rfl ?_))
  refine L_box rfl rfl rfl fun b1 w1 hn1 => ?_
  obtain ⟨H1, g1, hb1⟩ := Grow.ofNew hA hn1
  have hA1 := g1.ag
  cases c1 : decide ((t.es.length : Int) > 2147483647) with
  | true =>
    (repeat (first | (refine cL ?_; first | (refine cL_load ?_; first | refine L_val (R_loadB rfl (by assumption) (by rfl)) rfl rfl rfl ?_ | refine L_val (R_loadH (by assumption) rfl (by assumption) (by rfl)) rfl rfl rfl ?_) | (refine cL_fieldAddr ?_; refine L_val (R_fa rfl) rfl rfl rfl ?_) | (refine cL_assign ?_; refine L_val R_assign rfl rfl rfl ?_) | (refine cL_call ?_; refine L_val (R_len rfl) rfl rfl rfl ?_) | (refine cL_gtr ?_; first | refine L_valB (R_gtI rfl rfl) c1 rfl rfl rfl ?_ | refine L_val (R_gtI rfl rfl) rfl rfl rfl ?_) | refine L_nil ?_) | refine G_seq ?_ | refine G_region ?_ | refine G_skip ?_ | refine G_block ?_ | refine G_end ?_ | refine G_true rfl ?_ | refine G_false rfl ?_))
    (refine G_retF rfl ?_)
    exact ⟨_, rfl, rfl, hn1.ext⟩
  | false =>
    cases c2 : decide ((t.nm.size : Int) > 2147483647) with
    | true =>
      (repeat (first | (refine cL ?_; first | (refine cL_load ?_; first | refine L_val (R_loadB rfl (by assumption) (by rfl)) rfl rfl rfl ?_ | refine L_val (R_loadH (by assumption) rfl (by assumption) (by rfl)) rfl rfl rfl ?_) | (refine cL_fieldAddr ?_; refine L_val (R_fa rfl) rfl rfl rfl ?_) | (refine cL_assign ?_; refine L_val R_assign rfl rfl rfl ?_) | (refine cL_call ?_; first | refine L_val (R_lenS rfl) rfl rfl rfl ?_ | refine L_val (R_len rfl) rfl rfl rfl ?_) | (refine cL_gtr ?_; first | refine L_valB (R_gtI rfl rfl) c1 rfl rfl rfl ?_ | refine L_valB (R_gtI rfl rfl) c2 rfl rfl rfl ?_ | refine L_val (R_gtI rfl rfl) rfl rfl rfl ?_) | refine L_nil ?_) | refine G_seq ?_ | refine G_region ?_ | refine G_skip ?_ | refine G_block ?_ | refine G_end ?_ | refine G_true rfl ?_ | refine G_false rfl ?_))
      (refine G_retF rfl ?_)
      exact ⟨_, rfl, rfl, hn1.ext⟩
    | false =>
      (repeat (first | (refine cL ?_; first | (refine cL_load ?_; first | refine L_val (R_loadB rfl (by assumption) (by rfl)) rfl rfl rfl ?_ | refine L_val (R_loadH (by assumption) rfl (by assumption) (by rfl)) rfl rfl rfl ?_) | (refine cL_fieldAddr ?_; refine L_val (R_fa rfl) rfl rfl rfl ?_) | (refine cL_assign ?_; refine L_val R_assign rfl rfl rfl ?_) | (refine cL_call ?_; first | refine L_val (R_lenS rfl) rfl rfl rfl ?_ | refine L_val (R_len rfl) rfl rfl rfl ?_) | (refine cL_gtr ?_; first | refine L_valB (R_gtI rfl rfl) c1 rfl rfl rfl ?_ | refine L_valB (R_gtI rfl rfl) c2 rfl rfl rfl ?_ | refine L_val (R_gtI rfl rfl) rfl rfl rfl ?_) | refine L_nil ?_) | refine G_seq ?_ | refine G_region ?_ | refine G_skip ?_ | refine G_block ?_ | refine G_end ?_ | refine G_true rfl ?_ | refine G_false rfl ?_))
      (refine G_retF rfl ?_)
      exact ⟨_, rfl, rfl, hn1.ext⟩
end Go.Proofs.YtmmcjnfgcaefpaaGreatDoor

/-
  The law's own walk, over what the package answers.
-/
namespace Go.Proofs.YtmmcjnfgcaefpaaGreatDoor
set_option maxRecDepth 100000
set_option maxHeartbeats 4000000

theorem namesEq_refl : ∀ es : List Ty, namesEq es es = true
  | [] => rfl
  | e :: es => by simp [namesEq, beqB, namesEq_refl es]
theorem ident_refl : ∀ t : Ty, ident t t = true := by
  refine Ty.ind fun k n c b nm es ih => ?_
  have hl : ∀ l : List Ty, (∀ e ∈ l, ident e e = true) → identL l l = true := by
    intro l
    induction l with
    | nil => intro _; rfl
    | cons e l ihl =>
      intro h
      simp only [identL, h e List.mem_cons_self, Bool.true_and]
      exact ihl fun x hx => h x (List.mem_cons_of_mem _ hx)
  simp only [ident, hl es ih, Bool.and_true, alikeP, beq_self_eq_true, Bool.true_and]
  by_cases h9 : k = 9
  · rw [if_pos h9]; exact namesEq_refl es
  · rw [if_neg h9]
    by_cases h10 : k = 10
    · rw [if_pos h10]
    · rw [if_neg h10]
      by_cases h4 : k = 4 ∨ k = 5 ∨ k = 7
      · rw [if_pos h4]
      · rw [if_neg h4]
attribute [local irreducible] Calls execOp

/-- the thin package's answer, whatever the world -/
def ImplSays (H : Hp) (dv : Value) (params : Int) (x y : Ty) (cx cy : List Value) : Prop :=
  ∀ w, Agree H w → Calls Tryz.prog 6 #[dv, .int .i64 params, .agg cx.toArray, .agg cy.toArray] w (Ret (Qt (.bool (ident x y)) w))

theorem dsl_pair {H : Hp} {x y : Ty} {cx cy : List Value} {b : Nat} {T : Nat} (hx : DTy H x cx) (hy : DTy H y cy) (hb : H b = some (Ob (cx ++ cy) T)) : DSl H [x, y] (some ⟨b, 0, none⟩) := by
  obtain ⟨p, cap, rfl, -⟩ := hx.cells
  refine .inr ⟨b, 0, rfl, ⟨_, ?_, hx⟩, ⟨_, ?_, hy⟩, trivial⟩
  · intro j v hj
    refine ⟨_, _, _, hb, ?_⟩
    rw [lget_eq] at hj
    have hlt := (List.getElem?_eq_some_iff.1 hj).1
    simp only [Nat.zero_add, List.getElem?_toArray]
    rw [List.getElem?_append_left hlt]
    exact hj
  · have := hcells_ob (cs := cy) (tyCells x.k x.n x.c x.b (.slice p x.es.length cap) x.nm) hb
    exact this

theorem law_any {H : Hp} {ds : List (Int × Ty)} {p : Option Addr} {dcap : Nat} {params : Int} {x y : Ty} {cx cy : List Value} (w : World) (hA : Agree H w) (hd : DDl H ds p) (hx : DTy H x cx) (hy : DTy H y cy) (hdc : ds.length ≤ dcap) (hdl : ds.length < 9223372036854775808)
    (himpl : ValidD ds params [x, y] → ∀ H', Hp.le H H' → ImplSays H' (.slice p ds.length dcap) params x y cx cy ∧ ImplSays H' (.slice p ds.length dcap) params x x cx cx) :
    Calls Tryz.prog 3 #[.slice p ds.length dcap, .int .i64 params, .agg cx.toArray, .agg cy.toArray] w (Ret (Qt (.bool true) w)) := by
  obtain ⟨px, capx, hcx, -⟩ := hx.cells
  obtain ⟨py, capy, hcy, -⟩ := hy.cells
  subst hcx
  subst hcy
  (refine calls_enter Tryz.func3 Tryz.ntmps3 rfl rfl ?_)
  (repeat (first | (refine cL ?_; first | (refine cL_guard ?_; refine L_unwanted rfl rfl rfl ?_) | (refine cL_move ?_; refine L_val R_move rfl rfl rfl ?_) | (refine cL_load ?_; first | refine L_val (R_loadB rfl (by assumption) (by rfl)) rfl rfl rfl ?_ | refine L_val (R_loadH (by assumption) rfl (by assumption) (by rfl)) rfl rfl rfl ?_) | (refine cL_assign ?_; refine L_val R_assign rfl rfl rfl ?_) | (refine cL_call ?_; refine L_val (R_len rfl) rfl rfl rfl ?_) | (refine cL_pick ?_; first | refine L_val (R_pickT rfl) rfl rfl rfl ?_ | refine L_val (R_pickF rfl) rfl rfl rfl ?_) | (refine cL_eql ?_; first | refine L_val (R_eqPN rfl rfl) rfl rfl rfl ?_ | refine L_val (R_eqI rfl rfl) rfl rfl rfl ?_ | refine L_val (R_eqB rfl rfl) rfl rfl rfl ?_ | refine L_val (R_eqIfN rfl rfl) rfl rfl rfl ?_ | refine L_val (R_eqIfNN rfl) rfl rfl rfl ?_) | (refine cL_not ?_; refine L_val (R_not rfl) rfl rfl rfl ?_) | (refine cL_gtr ?_; refine L_val (R_gtI rfl rfl) rfl rfl rfl ?_) | refine L_nil ?_) | refine G_seq ?_ | refine G_region ?_ | refine G_skip ?_ | refine G_block ?_ | refine G_end ?_ | refine G_true rfl ?_ | refine G_false rfl ?_))
  refine L_box rfl rfl rfl fun b6 w1 hn1 => ?_
  refine L_box rfl rfl rfl fun b7 w2 hn2 => ?_
  obtain ⟨H1, g1, hb6⟩ := Grow.ofNew hA hn1
  obtain ⟨H2, g2, hb7⟩ := Grow.ofNew g1.ag hn2
  have hb6 := g2.le _ _ hb6
  have g := g1.trans g2
  have hA2 := g.ag
  have hx2 := DTy.mono g.le _ _ hx
  have hy2 := DTy.mono g.le _ _ hy
  cases c1 : decide ((ds.length : Int) > 2147483647) with
  | true =>
    (repeat (first | (refine cL ?_; first | (refine cL_guard ?_; refine L_unwanted rfl rfl rfl ?_) | (refine cL_move ?_; refine L_val R_move rfl rfl rfl ?_) | (refine cL_load ?_; first | refine L_val (R_loadB rfl (by assumption) (by rfl)) rfl rfl rfl ?_ | refine L_val (R_loadH (by assumption) rfl (by assumption) (by rfl)) rfl rfl rfl ?_) | (refine cL_assign ?_; refine L_val R_assign rfl rfl rfl ?_) | (refine cL_call ?_; refine L_val (R_len rfl) rfl rfl rfl ?_) | (refine cL_pick ?_; first | refine L_val (R_pickT rfl) rfl rfl rfl ?_ | refine L_val (R_pickF rfl) rfl rfl rfl ?_) | (refine cL_eql ?_; first | refine L_val (R_eqPN rfl rfl) rfl rfl rfl ?_ | refine L_val (R_eqI rfl rfl) rfl rfl rfl ?_ | refine L_val (R_eqB rfl rfl) rfl rfl rfl ?_ | refine L_val (R_eqIfN rfl rfl) rfl rfl rfl ?_ | refine L_val (R_eqIfNN rfl) rfl rfl rfl ?_) | (refine cL_not ?_; refine L_val (R_not rfl) rfl rfl rfl ?_) | (refine cL_gtr ?_; first | refine L_valB (R_gtI rfl rfl) c1 rfl rfl rfl ?_ | refine L_val (R_gtI rfl rfl) rfl rfl rfl ?_) | refine L_nil ?_) | refine G_seq ?_ | refine G_region ?_ | refine G_skip ?_ | refine G_block ?_ | refine G_end ?_ | refine G_true rfl ?_ | refine G_false rfl ?_))
    (refine G_retF rfl ?_)
    exact ⟨_, rfl, rfl, g.ext⟩
  | false =>
  have hf1 := fits_any w2 hA2 hx2
  cases c2 : fitsB x with
  | false =>
    rw [c2] at hf1
    (repeat (first | (refine cL ?_; first | (refine cL_guard ?_; refine L_unwanted rfl rfl rfl ?_) | (refine cL_move ?_; refine L_val R_move rfl rfl rfl ?_) | (refine cL_load ?_; first | refine L_val (R_loadAB rfl rfl (hA2 _ _ hb6)) rfl rfl rfl ?_ | refine L_val (R_loadB rfl (by assumption) (by rfl)) rfl rfl rfl ?_ | refine L_val (R_loadH (by assumption) rfl (by assumption) (by rfl)) rfl rfl rfl ?_) | (refine cL_assign ?_; refine L_val R_assign rfl rfl rfl ?_) | (refine cL_call ?_; refine L_val (R_len rfl) rfl rfl rfl ?_) | (refine cL_pick ?_; first | refine L_val (R_pickT rfl) rfl rfl rfl ?_ | refine L_val (R_pickF rfl) rfl rfl rfl ?_) | (refine cL_eql ?_; first | refine L_val (R_eqPN rfl rfl) rfl rfl rfl ?_ | refine L_val (R_eqI rfl rfl) rfl rfl rfl ?_ | refine L_val (R_eqB rfl rfl) rfl rfl rfl ?_ | refine L_val (R_eqIfN rfl rfl) rfl rfl rfl ?_ | refine L_val (R_eqIfNN rfl) rfl rfl rfl ?_) | (refine cL_not ?_; refine L_val (R_not rfl) rfl rfl rfl ?_) | (refine cL_gtr ?_; first | refine L_valB (R_gtI rfl rfl) c1 rfl rfl rfl ?_ | refine L_val (R_gtI rfl rfl) rfl rfl rfl ?_) | refine L_nil ?_) | refine G_seq ?_ | refine G_region ?_ | refine G_skip ?_ | refine G_block ?_ | refine G_end ?_ | refine G_true rfl ?_ | refine G_false rfl ?_))
    refine L_callQ hf1 rfl rfl fun w3 hw3 => ?_
    (repeat (first | (refine cL ?_; first | (refine cL_guard ?_; refine L_unwanted rfl rfl rfl ?_) | (refine cL_move ?_; refine L_val R_move rfl rfl rfl ?_) | (refine cL_load ?_; first | refine L_val (R_loadB rfl (by assumption) (by rfl)) rfl rfl rfl ?_ | refine L_val (R_loadH (by assumption) rfl (by assumption) (by rfl)) rfl rfl rfl ?_) | (refine cL_assign ?_; refine L_val R_assign rfl rfl rfl ?_) | (refine cL_call ?_; refine L_val (R_len rfl) rfl rfl rfl ?_) | (refine cL_pick ?_; first | refine L_val (R_pickT rfl) rfl rfl rfl ?_ | refine L_val (R_pickF rfl) rfl rfl rfl ?_) | (refine cL_eql ?_; first | refine L_val (R_eqPN rfl rfl) rfl rfl rfl ?_ | refine L_val (R_eqI rfl rfl) rfl rfl rfl ?_ | refine L_val (R_eqB rfl rfl) rfl rfl rfl ?_ | refine L_val (R_eqIfN rfl rfl) rfl rfl rfl ?_ | refine L_val (R_eqIfNN rfl) rfl rfl rfl ?_) | (refine cL_not ?_; refine L_val (R_not rfl) rfl rfl rfl ?_) | (refine cL_gtr ?_; refine L_val (R_gtI rfl rfl) rfl rfl rfl ?_) | refine L_nil ?_) | refine G_seq ?_ | refine G_region ?_ | refine G_skip ?_ | refine G_block ?_ | refine G_end ?_ | refine G_true rfl ?_ | refine G_false rfl ?_))
    (refine G_retF rfl ?_)
    exact ⟨_, rfl, rfl, g.ext.trans hw3⟩
  | true =>
  rw [c2] at hf1
  (repeat (first | (refine cL ?_; first | (refine cL_guard ?_; refine L_unwanted rfl rfl rfl ?_) | (refine cL_move ?_; refine L_val R_move rfl rfl rfl ?_) | (refine cL_load ?_; first | refine L_val (R_loadAB rfl rfl (hA2 _ _ hb6)) rfl rfl rfl ?_ | refine L_val (R_loadB rfl (by assumption) (by rfl)) rfl rfl rfl ?_ | refine L_val (R_loadH (by assumption) rfl (by assumption) (by rfl)) rfl rfl rfl ?_) | (refine cL_assign ?_; refine L_val R_assign rfl rfl rfl ?_) | (refine cL_call ?_; refine L_val (R_len rfl) rfl rfl rfl ?_) | (refine cL_pick ?_; first | refine L_val (R_pickT rfl) rfl rfl rfl ?_ | refine L_val (R_pickF rfl) rfl rfl rfl ?_) | (refine cL_eql ?_; first | refine L_val (R_eqPN rfl rfl) rfl rfl rfl ?_ | refine L_val (R_eqI rfl rfl) rfl rfl rfl ?_ | refine L_val (R_eqB rfl rfl) rfl rfl rfl ?_ | refine L_val (R_eqIfN rfl rfl) rfl rfl rfl ?_ | refine L_val (R_eqIfNN rfl) rfl rfl rfl ?_) | (refine cL_not ?_; refine L_val (R_not rfl) rfl rfl rfl ?_) | (refine cL_gtr ?_; first | refine L_valB (R_gtI rfl rfl) c1 rfl rfl rfl ?_ | refine L_val (R_gtI rfl rfl) rfl rfl rfl ?_) | refine L_nil ?_) | refine G_seq ?_ | refine G_region ?_ | refine G_skip ?_ | refine G_block ?_ | refine G_end ?_ | refine G_true rfl ?_ | refine G_false rfl ?_))
  refine L_callQ hf1 rfl rfl fun w3 hw3 => ?_
  have hA3 := hA2.ext0 hw3
  have hf2 := fits_any w3 hA3 hy2
  cases c3 : fitsB y with
  | false =>
    rw [c3] at hf2
    (repeat (first | (refine cL ?_; first | (refine cL_guard ?_; refine L_unwanted rfl rfl rfl ?_) | (refine cL_move ?_; refine L_val R_move rfl rfl rfl ?_) | (refine cL_load ?_; first | refine L_val (R_loadAB rfl rfl (hA3 _ _ hb7)) rfl rfl rfl ?_ | refine L_val (R_loadB rfl (by assumption) (by rfl)) rfl rfl rfl ?_ | refine L_val (R_loadH (by assumption) rfl (by assumption) (by rfl)) rfl rfl rfl ?_) | (refine cL_assign ?_; refine L_val R_assign rfl rfl rfl ?_) | (refine cL_call ?_; refine L_val (R_len rfl) rfl rfl rfl ?_) | (refine cL_pick ?_; first | refine L_val (R_pickT rfl) rfl rfl rfl ?_ | refine L_val (R_pickF rfl) rfl rfl rfl ?_) | (refine cL_eql ?_; first | refine L_val (R_eqPN rfl rfl) rfl rfl rfl ?_ | refine L_val (R_eqI rfl rfl) rfl rfl rfl ?_ | refine L_val (R_eqB rfl rfl) rfl rfl rfl ?_ | refine L_val (R_eqIfN rfl rfl) rfl rfl rfl ?_ | refine L_val (R_eqIfNN rfl) rfl rfl rfl ?_) | (refine cL_not ?_; refine L_val (R_not rfl) rfl rfl rfl ?_) | (refine cL_gtr ?_; refine L_val (R_gtI rfl rfl) rfl rfl rfl ?_) | refine L_nil ?_) | refine G_seq ?_ | refine G_region ?_ | refine G_skip ?_ | refine G_block ?_ | refine G_end ?_ | refine G_true rfl ?_ | refine G_false rfl ?_))
    refine L_callQ hf2 rfl rfl fun w4 hw4 => ?_
    (repeat (first | (refine cL ?_; first | (refine cL_guard ?_; refine L_unwanted rfl rfl rfl ?_) | (refine cL_move ?_; refine L_val R_move rfl rfl rfl ?_) | (refine cL_load ?_; first | refine L_val (R_loadB rfl (by assumption) (by rfl)) rfl rfl rfl ?_ | refine L_val (R_loadH (by assumption) rfl (by assumption) (by rfl)) rfl rfl rfl ?_) | (refine cL_assign ?_; refine L_val R_assign rfl rfl rfl ?_) | (refine cL_call ?_; refine L_val (R_len rfl) rfl rfl rfl ?_) | (refine cL_pick ?_; first | refine L_val (R_pickT rfl) rfl rfl rfl ?_ | refine L_val (R_pickF rfl) rfl rfl rfl ?_) | (refine cL_eql ?_; first | refine L_val (R_eqPN rfl rfl) rfl rfl rfl ?_ | refine L_val (R_eqI rfl rfl) rfl rfl rfl ?_ | refine L_val (R_eqB rfl rfl) rfl rfl rfl ?_ | refine L_val (R_eqIfN rfl rfl) rfl rfl rfl ?_ | refine L_val (R_eqIfNN rfl) rfl rfl rfl ?_) | (refine cL_not ?_; refine L_val (R_not rfl) rfl rfl rfl ?_) | (refine cL_gtr ?_; refine L_val (R_gtI rfl rfl) rfl rfl rfl ?_) | refine L_nil ?_) | refine G_seq ?_ | refine G_region ?_ | refine G_skip ?_ | refine G_block ?_ | refine G_end ?_ | refine G_true rfl ?_ | refine G_false rfl ?_))
    (refine G_retF rfl ?_)
    exact ⟨_, rfl, rfl, g.ext.trans (hw3.trans hw4)⟩
  | true =>
  rw [c3] at hf2
  (repeat (first | (refine cL ?_; first | (refine cL_guard ?_; refine L_unwanted rfl rfl rfl ?_) | (refine cL_move ?_; refine L_val R_move rfl rfl rfl ?_) | (refine cL_load ?_; first | refine L_val (R_loadAB rfl rfl (hA3 _ _ hb7)) rfl rfl rfl ?_ | refine L_val (R_loadB rfl (by assumption) (by rfl)) rfl rfl rfl ?_ | refine L_val (R_loadH (by assumption) rfl (by assumption) (by rfl)) rfl rfl rfl ?_) | (refine cL_assign ?_; refine L_val R_assign rfl rfl rfl ?_) | (refine cL_call ?_; refine L_val (R_len rfl) rfl rfl rfl ?_) | (refine cL_pick ?_; first | refine L_val (R_pickT rfl) rfl rfl rfl ?_ | refine L_val (R_pickF rfl) rfl rfl rfl ?_) | (refine cL_eql ?_; first | refine L_val (R_eqPN rfl rfl) rfl rfl rfl ?_ | refine L_val (R_eqI rfl rfl) rfl rfl rfl ?_ | refine L_val (R_eqB rfl rfl) rfl rfl rfl ?_ | refine L_val (R_eqIfN rfl rfl) rfl rfl rfl ?_ | refine L_val (R_eqIfNN rfl) rfl rfl rfl ?_) | (refine cL_not ?_; refine L_val (R_not rfl) rfl rfl rfl ?_) | (refine cL_gtr ?_; refine L_val (R_gtI rfl rfl) rfl rfl rfl ?_) | refine L_nil ?_) | refine G_seq ?_ | refine G_region ?_ | refine G_skip ?_ | refine G_block ?_ | refine G_end ?_ | refine G_true rfl ?_ | refine G_false rfl ?_))
  refine L_callQ hf2 rfl rfl fun w4 hw4 => ?_
  have hA4 := hA3.ext0 hw4
  have hAg : ∀ w', Ext No w4 w' → Agree H2 w' := fun _ he => hA4.ext0 he
  (repeat (first | (refine cL ?_; first | (refine cL_guard ?_; refine L_unwanted rfl rfl rfl ?_) | (refine cL_move ?_; refine L_val R_move rfl rfl rfl ?_) | (refine cL_load ?_; first | refine L_val (R_loadB rfl (by assumption) (by rfl)) rfl rfl rfl ?_ | refine L_val (R_loadH (by assumption) rfl (by assumption) (by rfl)) rfl rfl rfl ?_) | (refine cL_assign ?_; refine L_val R_assign rfl rfl rfl ?_) | (refine cL_call ?_; refine L_val (R_len rfl) rfl rfl rfl ?_) | (refine cL_pick ?_; first | refine L_val (R_pickT rfl) rfl rfl rfl ?_ | refine L_val (R_pickF rfl) rfl rfl rfl ?_) | (refine cL_eql ?_; first | refine L_val (R_eqPN rfl rfl) rfl rfl rfl ?_ | refine L_val (R_eqI rfl rfl) rfl rfl rfl ?_ | refine L_val (R_eqB rfl rfl) rfl rfl rfl ?_ | refine L_val (R_eqIfN rfl rfl) rfl rfl rfl ?_ | refine L_val (R_eqIfNN rfl) rfl rfl rfl ?_) | (refine cL_not ?_; refine L_val (R_not rfl) rfl rfl rfl ?_) | (refine cL_gtr ?_; refine L_val (R_gtI rfl rfl) rfl rfl rfl ?_) | refine L_nil ?_) | refine G_seq ?_ | refine G_region ?_ | refine G_skip ?_ | refine G_block ?_ | refine G_end ?_ | refine G_true rfl ?_ | refine G_false rfl ?_))
  (refine G_draw No (0 :: 1 :: 2 :: 3 :: 4 :: 5 :: 6 :: 7 :: 8 :: 9 :: 10 :: 11 :: 12 :: 13 :: 14 :: 15 :: 16 :: 17 :: 18 :: 19 :: 20 :: 21 :: 22 :: 23 :: 24 :: 25 :: []) [4, 5] follows (by kernel_rfl) rfl ?_)
  (repeat (first | (refine cD_guard ?_; refine D_unwanted rfl rfl ?_) | (refine cD_move ?_; refine D_val0 (fun _ _ => R_move) rfl rfl ?_) | (refine cD_load ?_; first | refine D_val0 (fun w he => R_loadAB rfl rfl ((hAg w he) _ _ hb6)) rfl rfl ?_ | refine D_val0 (fun w he => R_loadAB rfl rfl ((hAg w he) _ _ hb7)) rfl rfl ?_ | refine D_val0 (fun w he => R_loadH (hAg w he) rfl (by assumption) (by rfl)) rfl rfl ?_) | (refine cD_assign ?_; refine D_val0 (fun _ _ => R_assign) rfl rfl ?_) | (refine cD_call ?_; refine D_val0 (fun _ _ => R_len rfl) rfl rfl ?_) | (refine cD_pick ?_; first | refine D_val0 (fun _ _ => R_pickT rfl) rfl rfl ?_ | refine D_val0 (fun _ _ => R_pickF rfl) rfl rfl ?_) | (refine cD_eql ?_; first | refine D_val0 (fun _ _ => R_eqPN rfl rfl) rfl rfl ?_ | refine D_val0 (fun _ _ => R_eqI rfl rfl) rfl rfl ?_ | refine D_val0 (fun _ _ => R_eqB rfl rfl) rfl rfl ?_ | refine D_val0 (fun _ _ => R_eqIfN rfl rfl) rfl rfl ?_ | refine D_val0 (fun _ _ => R_eqIfNN rfl) rfl rfl ?_) | (refine cD_not ?_; refine D_val0 (fun _ _ => R_not rfl) rfl rfl ?_) | (refine cD_gtr ?_; refine D_val0 (fun _ _ => R_gtI rfl rfl) rfl rfl ?_)))
  refine D_valR rfl rfl fun wq heq => ⟨_, _, R_buildSlice (vs := [.agg (tyCells x.k x.n x.c x.b (.slice px x.es.length capx) x.nm).toArray, .agg (tyCells y.k y.n y.c y.b (.slice py y.es.length capy) y.nm).toArray]) rfl rfl rfl rfl, Ext.alloc wq _, ?_⟩
  obtain ⟨H3, g3, hbs⟩ := Grow.ofNew (hAg wq heq) (newB_alloc wq (Ob (flat [.agg (tyCells x.k x.n x.c x.b (.slice px x.es.length capx) x.nm).toArray, .agg (tyCells y.k y.n y.c y.b (.slice py y.es.length capy) y.nm).toArray]) 26))
  have hle3 := Hp.le_trans g.le g3.le
  have hds := dsl_pair (DTy.mono hle3 _ _ hx) (DTy.mono hle3 _ _ hy) hbs
  have hAg3 : ∀ w', Ext No (wq.alloc (Ob (flat [.agg (tyCells x.k x.n x.c x.b (.slice px x.es.length capx) x.nm).toArray, .agg (tyCells y.k y.n y.c y.b (.slice py y.es.length capy) y.nm).toArray]) 26)) w' → Agree H3 w' := fun _ he => g3.ag.ext0 he
  refine D_callRR (fun w he => valid_any (ts := [x, y]) w (hAg3 w he) (hd.mono hle3) hds hdc hdl (by simp)) rfl fun w0 v w5 he0 ⟨b, hv, x5, hval⟩ => ⟨x5, ?_⟩
  subst hv
  have hA5 : Agree H3 w5 := (hAg3 w0 he0).ext0 x5
  have hAg5 : ∀ w', Ext No w5 w' → Agree H3 w' := fun _ he => hA5.ext0 he
  have hb6' := g3.le _ _ hb6
  have hb7' := g3.le _ _ hb7
  have hxx : Ext No w w5 := g.ext.trans (hw3.trans (hw4.trans (heq.trans (g3.ext.trans (he0.trans x5)))))
  cases b with
  | false =>
    (repeat (first | (refine cD_guard ?_; refine D_unwanted rfl rfl ?_) | (refine cD_move ?_; refine D_val0 (fun _ _ => R_move) rfl rfl ?_) | (refine cD_load ?_; refine D_val0 (fun w he => R_loadH (hAg5 w he) rfl (by assumption) (by rfl)) rfl rfl ?_) | (refine cD_assign ?_; refine D_val0 (fun _ _ => R_assign) rfl rfl ?_) | (refine cD_call ?_; refine D_val0 (fun _ _ => R_len rfl) rfl rfl ?_) | (refine cD_pick ?_; first | refine D_val0 (fun _ _ => R_pickT rfl) rfl rfl ?_ | refine D_val0 (fun _ _ => R_pickF rfl) rfl rfl ?_) | (refine cD_eql ?_; first | refine D_val0 (fun _ _ => R_eqPN rfl rfl) rfl rfl ?_ | refine D_val0 (fun _ _ => R_eqI rfl rfl) rfl rfl ?_ | refine D_val0 (fun _ _ => R_eqB rfl rfl) rfl rfl ?_ | refine D_val0 (fun _ _ => R_eqIfN rfl rfl) rfl rfl ?_ | refine D_val0 (fun _ _ => R_eqIfNN rfl) rfl rfl ?_) | (refine cD_not ?_; refine D_val0 (fun _ _ => R_not rfl) rfl rfl ?_) | (refine cD_gtr ?_; refine D_val0 (fun _ _ => R_gtI rfl rfl) rfl rfl ?_)))
    refine D_nil fun w6 hw6 => ?_
    (repeat (first | (refine cL ?_; first | (refine cL_guard ?_; refine L_unwanted rfl rfl rfl ?_) | (refine cL_move ?_; refine L_val R_move rfl rfl rfl ?_) | (refine cL_load ?_; first | refine L_val (R_loadB rfl (by assumption) (by rfl)) rfl rfl rfl ?_ | refine L_val (R_loadH (by assumption) rfl (by assumption) (by rfl)) rfl rfl rfl ?_) | (refine cL_assign ?_; refine L_val R_assign rfl rfl rfl ?_) | (refine cL_call ?_; refine L_val (R_len rfl) rfl rfl rfl ?_) | (refine cL_pick ?_; first | refine L_val (R_pickT rfl) rfl rfl rfl ?_ | refine L_val (R_pickF rfl) rfl rfl rfl ?_) | (refine cL_eql ?_; first | refine L_val (R_eqPN rfl rfl) rfl rfl rfl ?_ | refine L_val (R_eqI rfl rfl) rfl rfl rfl ?_ | refine L_val (R_eqB rfl rfl) rfl rfl rfl ?_ | refine L_val (R_eqIfN rfl rfl) rfl rfl rfl ?_ | refine L_val (R_eqIfNN rfl) rfl rfl rfl ?_) | (refine cL_not ?_; refine L_val (R_not rfl) rfl rfl rfl ?_) | (refine cL_gtr ?_; refine L_val (R_gtI rfl rfl) rfl rfl rfl ?_) | refine L_nil ?_) | refine G_seq ?_ | refine G_region ?_ | refine G_skip ?_ | refine G_block ?_ | refine G_end ?_ | refine G_true rfl ?_ | refine G_false rfl ?_))
    (refine G_retF rfl ?_)
    exact ⟨_, rfl, rfl, hxx.trans hw6⟩
  | true =>
    obtain ⟨hi1, hi2⟩ := himpl (hval rfl) H3 hle3
    have hid := fun w' he => specIdent_any x y _ _ H3 w' (hAg5 w' he) (DTy.mono hle3 _ _ hx) (DTy.mono hle3 _ _ hy)
    have hbb : (ident x y == ident x y) = true := by simp
    (repeat (first | (refine cD_guard ?_; refine D_unwanted rfl rfl ?_) | (refine cD_move ?_; refine D_val0 (fun _ _ => R_move) rfl rfl ?_) | (refine cD_load ?_; first | refine D_val0 (fun w he => R_loadAB rfl rfl ((hAg5 w he) _ _ hb6')) rfl rfl ?_ | refine D_val0 (fun w he => R_loadAB rfl rfl ((hAg5 w he) _ _ hb7')) rfl rfl ?_ | refine D_val0 (fun w he => R_loadH (hAg5 w he) rfl (by assumption) (by rfl)) rfl rfl ?_) | (refine cD_assign ?_; refine D_val0 (fun _ _ => R_assign) rfl rfl ?_) | (refine cD_call ?_; first | refine D_callQ (fun w he => hi2 w (hAg5 w he)) rfl ?_ | refine D_callQ (fun w he => hi1 w (hAg5 w he)) rfl ?_ | refine D_callQ (fun w he => hid w he) rfl ?_ | refine D_val0 (fun _ _ => R_len rfl) rfl rfl ?_) | (refine cD_pick ?_; first | refine D_val0 (fun _ _ => R_pickT rfl) rfl rfl ?_ | refine D_val0 (fun _ _ => R_pickF rfl) rfl rfl ?_) | (refine cD_eql ?_; first | refine D_valB (fun _ _ => R_eqB rfl rfl) hbb rfl rfl ?_ | refine D_val0 (fun _ _ => R_eqPN rfl rfl) rfl rfl ?_ | refine D_val0 (fun _ _ => R_eqI rfl rfl) rfl rfl ?_ | refine D_val0 (fun _ _ => R_eqB rfl rfl) rfl rfl ?_ | refine D_val0 (fun _ _ => R_eqIfN rfl rfl) rfl rfl ?_ | refine D_val0 (fun _ _ => R_eqIfNN rfl) rfl rfl ?_) | (refine cD_not ?_; refine D_val0 (fun _ _ => R_not rfl) rfl rfl ?_) | (refine cD_gtr ?_; refine D_val0 (fun _ _ => R_gtI rfl rfl) rfl rfl ?_)))
    refine D_nil fun w6 hw6 => ?_
    (repeat (first | (refine cL ?_; first | (refine cL_guard ?_; refine L_unwanted rfl rfl rfl ?_) | (refine cL_move ?_; refine L_val R_move rfl rfl rfl ?_) | (refine cL_load ?_; first | refine L_val (R_loadB rfl (by assumption) (by rfl)) rfl rfl rfl ?_ | refine L_val (R_loadH (by assumption) rfl (by assumption) (by rfl)) rfl rfl rfl ?_) | (refine cL_assign ?_; refine L_val R_assign rfl rfl rfl ?_) | (refine cL_call ?_; refine L_val (R_len rfl) rfl rfl rfl ?_) | (refine cL_pick ?_; first | refine L_val (R_pickT rfl) rfl rfl rfl ?_ | refine L_val (R_pickF rfl) rfl rfl rfl ?_) | (refine cL_eql ?_; first | refine L_val (R_eqPN rfl rfl) rfl rfl rfl ?_ | refine L_val (R_eqI rfl rfl) rfl rfl rfl ?_ | refine L_val (R_eqB rfl rfl) rfl rfl rfl ?_ | refine L_val (R_eqIfN rfl rfl) rfl rfl rfl ?_ | refine L_val (R_eqIfNN rfl) rfl rfl rfl ?_) | (refine cL_not ?_; refine L_val (R_not rfl) rfl rfl rfl ?_) | (refine cL_gtr ?_; refine L_val (R_gtI rfl rfl) rfl rfl rfl ?_) | refine L_nil ?_) | refine G_seq ?_ | refine G_region ?_ | refine G_skip ?_ | refine G_block ?_ | refine G_end ?_ | refine G_true rfl ?_ | refine G_false rfl ?_))
    (refine G_retF rfl ?_)
    exact ⟨_, rfl, congrArg Value.bool (ident_refl x), hxx.trans hw6⟩
end Go.Proofs.YtmmcjnfgcaefpaaGreatDoor

/-
  Function types with a variadic parameter: one round of a range over a function.
-/
namespace Go.Proofs.YtmmcjnfgcaefpaaGreatDoor
set_option maxRecDepth 100000
set_option maxHeartbeats 4000000
attribute [local irreducible] Calls execOp

instance : CallT Tryz.prog 91 := call_of Tryz.func91 (by kernel_rfl) (by kernel_rfl)

theorem entered {w w3 : World} {o o1 : Obj} (h : w3 = (w.alloc o).alloc o1) : w3.heap[w.heap.size + 1]? = some o1 ∧ w3.heap[w.heap.size]? = some o ∧ Ext No w w3 := by
  have h1 := newB_alloc w o
  have h2 := newB_alloc (w.alloc o) o1
  rw [← h] at h2
  have hs : (w.alloc o).heap.size = w.heap.size + 1 := by simp
  rw [hs] at h2
  exact ⟨h2.here, h2.ext.heap (fun h => h) h1.here, h1.ext.trans h2.ext⟩

theorem typeset_any (T : Nat) (x : Value) (w : World) : Calls Tryz.prog 65 #[.iface T x] w (Ret fun r w' => ∃ b, r = .func (.func 91) #[] #[ptr b] ∧ NewB w w' b (Ob [.iface T x] 43)) := by
  (refine calls_enter Tryz.func65 Tryz.ntmps65 rfl rfl ?_)
  (repeat (first | (refine cL ?_; first | (refine cL_assign ?_; refine L_val R_assign rfl rfl rfl ?_) | refine L_nil ?_) | refine G_seq ?_ | refine G_region ?_ | refine G_skip ?_ | refine G_block ?_ | refine G_end ?_ | refine G_true rfl ?_ | refine G_false rfl ?_))
  refine L_box rfl rfl rfl fun b w1 hn => ?_
  (repeat (first | (refine cL ?_; first | (refine cL_assign ?_; refine L_val R_assign rfl rfl rfl ?_) | refine L_nil ?_) | refine G_seq ?_ | refine G_region ?_ | refine G_skip ?_ | refine G_block ?_ | refine G_end ?_ | refine G_true rfl ?_ | refine G_false rfl ?_))
  refine L_val (R_makeFunc (xs := [.tmp 1])) rfl rfl rfl ?_
  (repeat (first | (refine cL ?_; first | (refine cL_assign ?_; refine L_val R_assign rfl rfl rfl ?_) | refine L_nil ?_) | refine G_seq ?_ | refine G_region ?_ | refine G_skip ?_ | refine G_block ?_ | refine G_end ?_ | refine G_true rfl ?_ | refine G_false rfl ?_))
  (refine G_retF rfl ?_)
  exact ⟨_, rfl, b, rfl, hn⟩

section
variable {l sa : Nat} {fn : FuncId} {tm : Array Value} {ps : List Nat} {asg body : Code} {D : Nat} {R : World → Prop}

theorem allU_slice (w : World) (hl : w.heap[l]? = some (.loop (loopRec fn tm ps asg body D .ready none))) (hps : ps.length = 2)
    (hround : RoundIn Fence.wide 0 Tryz.prog l fn ((ps.zip [.iface 73 (ptr sa), .iface 73 (ptr sa)]).foldl (fun t (p, a) => t.setIfInBounds p a) tm) asg body w (fun e w' => e = .returned (.bool true) ∧ R w')) :
    Calls Tryz.prog 92 #[.iface 73 (ptr sa), .func (.yield l) #[] #[]] w (Ret fun _ w' => R w') := by
  (refine calls_enter Tryz.func92 Tryz.ntmps92 rfl rfl ?_)
  (repeat (first | (refine cL ?_; first | (refine cL_move ?_; refine L_val R_move rfl rfl rfl ?_) | (refine cL_assign ?_; refine L_val R_assign rfl rfl rfl ?_) | (refine cL_extract ?_; refine L_val (R_extract rfl rfl) rfl rfl rfl ?_) | (refine cL_typeAssert ?_; first | refine L_val (R_taN rfl rfl) rfl rfl rfl ?_ | refine L_val (R_taY rfl) rfl rfl rfl ?_ | refine L_val (R_taN rfl rfl) rfl rfl rfl ?_ | refine L_val (R_taNil rfl) rfl rfl rfl ?_) | (refine cL_call ?_; first | refine L_callI (unalias_any _ _ _ rfl) rfl rfl ?_ | refine L_invokeI rfl (under_slice sa w) rfl rfl ?_) | (refine cL_neq ?_; first | refine L_val (R_nePN rfl rfl) rfl rfl rfl ?_ | refine L_val (R_neI rfl rfl) rfl rfl rfl ?_ | refine L_val (R_neB rfl rfl) rfl rfl rfl ?_ | refine L_val (R_neIfN rfl rfl) rfl rfl rfl ?_ | refine L_val (R_neIfNN rfl) rfl rfl rfl ?_) | refine L_nil ?_) | refine G_seq ?_ | refine G_region ?_ | refine G_skip ?_ | refine G_block ?_ | refine G_end ?_ | refine G_true rfl ?_ | refine G_false rfl ?_))
  refine L_yield (xs := [.tmp 19, .tmp 21]) rfl hl hps.symm hround rfl rfl fun w1 hR => ?_
  (repeat (first | (refine cL ?_; first | (refine cL_move ?_; refine L_val R_move rfl rfl rfl ?_) | (refine cL_assign ?_; refine L_val R_assign rfl rfl rfl ?_) | (refine cL_extract ?_; refine L_val (R_extract rfl rfl) rfl rfl rfl ?_) | (refine cL_typeAssert ?_; first | refine L_val (R_taY rfl) rfl rfl rfl ?_ | refine L_val (R_taN rfl rfl) rfl rfl rfl ?_ | refine L_val (R_taNil rfl) rfl rfl rfl ?_) | (refine cL_neq ?_; first | refine L_val (R_nePN rfl rfl) rfl rfl rfl ?_ | refine L_val (R_neI rfl rfl) rfl rfl rfl ?_ | refine L_val (R_neB rfl rfl) rfl rfl rfl ?_ | refine L_val (R_neIfN rfl rfl) rfl rfl rfl ?_ | refine L_val (R_neIfNN rfl) rfl rfl rfl ?_) | refine L_nil ?_) | refine G_seq ?_ | refine G_region ?_ | refine G_skip ?_ | refine G_block ?_ | refine G_end ?_ | refine G_true rfl ?_ | refine G_false rfl ?_))
  (refine G_retF rfl ?_)
  exact ⟨_, rfl, hR⟩

theorem typeset1_any {bx : Nat} (w : World) (hbx : w.heap[bx]? = some (Ob [.iface 73 (ptr sa)] 43)) (hl : w.heap[l]? = some (.loop (loopRec fn tm ps asg body D .ready none))) (hps : ps.length = 2)
    (hround : RoundIn Fence.wide 0 Tryz.prog l fn ((ps.zip [.iface 73 (ptr sa), .iface 73 (ptr sa)]).foldl (fun t (p, a) => t.setIfInBounds p a) tm) asg body w (fun e w' => e = .returned (.bool true) ∧ R w')) :
    Calls Tryz.prog 91 #[.func (.yield l) #[] #[], ptr bx] w (Ret fun _ w' => R w') := by
  (refine calls_enter Tryz.func91 Tryz.ntmps91 rfl rfl ?_)
  (repeat (first | (refine cL ?_; first | (refine cL_move ?_; refine L_val R_move rfl rfl rfl ?_) | (refine cL_load ?_; first | refine L_val (R_loadB rfl (by assumption) (by rfl)) rfl rfl rfl ?_ | refine L_val (R_loadH (by assumption) rfl (by assumption) (by rfl)) rfl rfl rfl ?_) | refine L_nil ?_) | refine G_seq ?_ | refine G_region ?_ | refine G_skip ?_ | refine G_block ?_ | refine G_end ?_ | refine G_true rfl ?_ | refine G_false rfl ?_))
  refine L_callR (allU_slice w hl hps hround) rfl rfl fun v w1 hR => ?_
  (repeat (first | (refine cL ?_; first | (refine cL_move ?_; refine L_val R_move rfl rfl rfl ?_) | (refine cL_load ?_; first | refine L_val (R_loadB rfl (by assumption) (by rfl)) rfl rfl rfl ?_ | refine L_val (R_loadH (by assumption) rfl (by assumption) (by rfl)) rfl rfl rfl ?_) | refine L_nil ?_) | refine G_seq ?_ | refine G_region ?_ | refine G_skip ?_ | refine G_block ?_ | refine G_end ?_ | refine G_true rfl ?_ | refine G_false rfl ?_))
  refine G_end0 rfl ?_
  exact ⟨_, rfl, hR⟩
end

theorem newSig_var {H : Hp} {vs : List Value} {px py : Option Addr} {sa : Nat} (w : World) (hA : Agree H w) (hx : TupIs H vs (.pointer px)) (hlast : vs[vs.length - 1]? = some (.iface 73 (ptr sa))) (hbd : vs.length < 9223372036854775808) :
    Calls Tryz.prog 35 #[.pointer none, .slice none 0 0, .slice none 0 0, .pointer px, .pointer py, .bool true] w (Ret fun r w' => ∃ b H', r = ptr b ∧ Grow H w H' w' ∧ H' b = some (Ob [.pointer none, .pointer none, .pointer px, .pointer py, .bool true] 110)) := by
  rcases hx with ⟨_, hvs⟩ | ⟨a, sl, hxe, ha, ⟨b, cap, xs, rfl, hb, hvars⟩, hne⟩
  · rw [hvs] at hlast; simp at hlast
  injection hxe with hxe
  subst hxe
  have hlen : 0 < vs.length := List.length_pos_iff.2 hne
  obtain ⟨nm, av, pos, pkg, kd, n1, n2, n3⟩ := hvars.get hlast
  have e1 : ((vs.length : Int) == 0) = false := by simp; omega
  have e2 : Value.int .i64 (IntKind.i64.wrap ((vs.length : Int) - 1)) = .int .i64 ((vs.length - 1 : Nat) : Int) := by
    rw [wrap_i64 (by omega) (by omega)]
    congr 1
    omega
  (refine calls_enter_m Tryz.func35 Tryz.ntmps35 rfl rfl ?_)
  (repeat (first | (refine cL ?_; first | (refine cL_guard ?_; refine L_unwanted rfl rfl rfl ?_) | (refine cL_move ?_; refine L_val R_move rfl rfl rfl ?_) | (refine cL_load ?_; first | refine L_val (R_loadB rfl (by assumption) (by rfl)) rfl rfl rfl ?_ | refine L_val (R_loadH (by assumption) rfl (by assumption) (by rfl)) rfl rfl rfl ?_) | (refine cL_fieldAddr ?_; refine L_val (R_fa rfl) rfl rfl rfl ?_) | (refine cL_nilCheck ?_; refine L_val (R_nil rfl) rfl rfl rfl ?_) | (refine cL_assign ?_; refine L_val R_assign rfl rfl rfl ?_) | (refine cL_extract ?_; refine L_val (R_extract rfl rfl) rfl rfl rfl ?_) | (refine cL_typeAssert ?_; first | refine L_val (R_taY rfl) rfl rfl rfl ?_ | refine L_val (R_taN rfl rfl) rfl rfl rfl ?_ | refine L_val (R_taNil rfl) rfl rfl rfl ?_) | (refine cL_call ?_; first | refine L_callI (tupLen_any w hA ha) rfl rfl ?_ | refine L_callI (tupleAt_any w hA ha hb (by omega) n2) rfl rfl ?_) | (refine cL_pick ?_; first | refine L_val (R_pickT rfl) rfl rfl rfl ?_ | refine L_val (R_pickF rfl) rfl rfl rfl ?_) | (refine cL_eql ?_; first | refine L_valB (R_eqI rfl rfl) e1 rfl rfl rfl ?_ | refine L_val (R_eqPN rfl rfl) rfl rfl rfl ?_ | refine L_val (R_eqI rfl rfl) rfl rfl rfl ?_ | refine L_val (R_eqB rfl rfl) rfl rfl rfl ?_ | refine L_val (R_eqIfN rfl rfl) rfl rfl rfl ?_ | refine L_val (R_eqIfNN rfl) rfl rfl rfl ?_) | (refine cL_makeInterface ?_; refine L_val R_mkI rfl rfl rfl ?_) | (refine cL_not ?_; refine L_val (R_not rfl) rfl rfl rfl ?_) | (refine cL_sub ?_; first | refine L_valE (R_subI rfl rfl) e2 rfl rfl rfl ?_ | refine L_val (R_subI rfl rfl) rfl rfl rfl ?_) | refine L_nil ?_) | refine G_seq ?_ | refine G_region ?_ | refine G_skip ?_ | refine G_block ?_ | refine G_end ?_ | refine G_true rfl ?_ | refine G_false rfl ?_))
  refine L_allocZ (cs := [.pointer none]) rfl rfl rfl fun bS w1 hn1 => ?_
  (repeat (first | (refine cL ?_; first | (refine cL_guard ?_; refine L_unwanted rfl rfl rfl ?_) | (refine cL_move ?_; refine L_val R_move rfl rfl rfl ?_) | (refine cL_load ?_; first | refine L_val (R_loadB rfl (by assumption) (by rfl)) rfl rfl rfl ?_ | refine L_val (R_loadH (by assumption) rfl (by assumption) (by rfl)) rfl rfl rfl ?_) | (refine cL_fieldAddr ?_; refine L_val (R_fa rfl) rfl rfl rfl ?_) | (refine cL_nilCheck ?_; refine L_val (R_nil rfl) rfl rfl rfl ?_) | (refine cL_assign ?_; refine L_val R_assign rfl rfl rfl ?_) | (refine cL_extract ?_; refine L_val (R_extract rfl rfl) rfl rfl rfl ?_) | (refine cL_typeAssert ?_; first | refine L_val (R_taY rfl) rfl rfl rfl ?_ | refine L_val (R_taN rfl rfl) rfl rfl rfl ?_ | refine L_val (R_taNil rfl) rfl rfl rfl ?_) | (refine cL_pick ?_; first | refine L_val (R_pickT rfl) rfl rfl rfl ?_ | refine L_val (R_pickF rfl) rfl rfl rfl ?_) | (refine cL_eql ?_; first | refine L_val (R_eqPN rfl rfl) rfl rfl rfl ?_ | refine L_val (R_eqI rfl rfl) rfl rfl rfl ?_ | refine L_val (R_eqB rfl rfl) rfl rfl rfl ?_ | refine L_val (R_eqIfN rfl rfl) rfl rfl rfl ?_ | refine L_val (R_eqIfNN rfl) rfl rfl rfl ?_) | (refine cL_makeInterface ?_; refine L_val R_mkI rfl rfl rfl ?_) | (refine cL_not ?_; refine L_val (R_not rfl) rfl rfl rfl ?_) | (refine cL_sub ?_; refine L_val (R_subI rfl rfl) rfl rfl rfl ?_) | refine L_nil ?_) | refine G_seq ?_ | refine G_region ?_ | refine G_skip ?_ | refine G_block ?_ | refine G_end ?_ | refine G_true rfl ?_ | refine G_false rfl ?_))
  refine L_callR (typeset_any _ _ w1) rfl rfl fun v w2 ⟨bx, hv, hn2⟩ => ?_
  subst hv
  (repeat (first | (refine cL ?_; first | (refine cL_guard ?_; refine L_unwanted rfl rfl rfl ?_) | (refine cL_move ?_; refine L_val R_move rfl rfl rfl ?_) | (refine cL_load ?_; first | refine L_val (R_loadB rfl (by assumption) (by rfl)) rfl rfl rfl ?_ | refine L_val (R_loadH (by assumption) rfl (by assumption) (by rfl)) rfl rfl rfl ?_) | (refine cL_fieldAddr ?_; refine L_val (R_fa rfl) rfl rfl rfl ?_) | (refine cL_nilCheck ?_; refine L_val (R_nil rfl) rfl rfl rfl ?_) | (refine cL_assign ?_; refine L_val R_assign rfl rfl rfl ?_) | (refine cL_extract ?_; refine L_val (R_extract rfl rfl) rfl rfl rfl ?_) | (refine cL_typeAssert ?_; first | refine L_val (R_taY rfl) rfl rfl rfl ?_ | refine L_val (R_taN rfl rfl) rfl rfl rfl ?_ | refine L_val (R_taNil rfl) rfl rfl rfl ?_) | (refine cL_pick ?_; first | refine L_val (R_pickT rfl) rfl rfl rfl ?_ | refine L_val (R_pickF rfl) rfl rfl rfl ?_) | (refine cL_eql ?_; first | refine L_val (R_eqPN rfl rfl) rfl rfl rfl ?_ | refine L_val (R_eqI rfl rfl) rfl rfl rfl ?_ | refine L_val (R_eqB rfl rfl) rfl rfl rfl ?_ | refine L_val (R_eqIfN rfl rfl) rfl rfl rfl ?_ | refine L_val (R_eqIfNN rfl) rfl rfl rfl ?_) | (refine cL_makeInterface ?_; refine L_val R_mkI rfl rfl rfl ?_) | (refine cL_not ?_; refine L_val (R_not rfl) rfl rfl rfl ?_) | (refine cL_sub ?_; refine L_val (R_subI rfl rfl) rfl rfl rfl ?_) | refine L_nil ?_) | refine G_seq ?_ | refine G_region ?_ | refine G_skip ?_ | refine G_block ?_ | refine G_end ?_ | refine G_true rfl ?_ | refine G_false rfl ?_))
  refine G_range (lb := [ptr bx]) rfl fun fn tm hrp w3 hw3 => ?_
  obtain ⟨hl3, hD3, x3⟩ := entered hw3
  clear hw3
  have hbS3 := x3.heap (fun h => h) (hn2.ext.heap (fun h => h) hn1.here)
  have hbx3 := x3.heap (fun h => h) hn2.here
  have lS := lt_of_heap hn1.here
  have lx := hn2.fresh
  have f1 := hn1.fresh
  have s2 := hn2.size
  have h13 : Ext No w w3 := hn1.ext.trans (hn2.ext.trans x3)
  have hA3 := hA.ext0 h13
  refine (typeset1_any (R := fun w' => w'.heap[bS]? = some (Ob [ptr sa] 73) ∧ w'.heap[w2.heap.size]? = some (.deferred (some [])) ∧ w'.heap[w2.heap.size + 1]? = w3.heap[w2.heap.size + 1]? ∧ Ext (fun k => k = bS ∨ k = w2.heap.size + 1) w3 w') w3 hbx3 hl3 rfl (round_of (D := w2.heap.size) rfl hrp ?_)).mono ?_
  · (repeat (first | (refine cL ?_; first | (refine cL_guard ?_; refine L_unwanted rfl rfl rfl ?_) | (refine cL_move ?_; refine L_val R_move rfl rfl rfl ?_) | (refine cL_load ?_; first | refine L_val (R_loadB rfl (by assumption) (by rfl)) rfl rfl rfl ?_ | refine L_val (R_loadH (by assumption) rfl (by assumption) (by rfl)) rfl rfl rfl ?_) | (refine cL_fieldAddr ?_; refine L_val (R_fa rfl) rfl rfl rfl ?_) | (refine cL_nilCheck ?_; refine L_val (R_nil rfl) rfl rfl rfl ?_) | (refine cL_assign ?_; refine L_val R_assign rfl rfl rfl ?_) | (refine cL_extract ?_; refine L_val (R_extract rfl rfl) rfl rfl rfl ?_) | (refine cL_typeAssert ?_; first | refine L_val (R_taY rfl) rfl rfl rfl ?_ | refine L_val (R_taN rfl rfl) rfl rfl rfl ?_ | refine L_val (R_taNil rfl) rfl rfl rfl ?_) | (refine cL_pick ?_; first | refine L_val (R_pickT rfl) rfl rfl rfl ?_ | refine L_val (R_pickF rfl) rfl rfl rfl ?_) | (refine cL_eql ?_; first | refine L_val (R_eqPN rfl rfl) rfl rfl rfl ?_ | refine L_val (R_eqI rfl rfl) rfl rfl rfl ?_ | refine L_val (R_eqB rfl rfl) rfl rfl rfl ?_ | refine L_val (R_eqIfN rfl rfl) rfl rfl rfl ?_ | refine L_val (R_eqIfNN rfl) rfl rfl rfl ?_) | (refine cL_makeInterface ?_; refine L_val R_mkI rfl rfl rfl ?_) | (refine cL_not ?_; refine L_val (R_not rfl) rfl rfl rfl ?_) | (refine cL_sub ?_; refine L_val (R_subI rfl rfl) rfl rfl rfl ?_) | refine L_nil ?_) | refine GR_seq ?_ | refine GR_region rfl ?_ | refine GR_skip ?_ | refine GR_block ?_ | refine GR_end ?_ | refine GR_true rfl ?_ | refine GR_false rfl ?_))
    refine GR_nil ⟨rfl, hl3, fun w4 o ho x4 => ?_⟩
    have hS4 := x4.heap (fun h => by omega) hbS3
    have hA4 : Agree H w4 := hA3.ext x4 fun b o hb hm => by
      have := hA.lt hb
      have := hn1.ext.size
      have := hn2.ext.size
      omega
    (repeat (first | (refine cL ?_; first | (refine cL_guard ?_; refine L_unwanted rfl rfl rfl ?_) | (refine cL_move ?_; refine L_val R_move rfl rfl rfl ?_) | (refine cL_load ?_; first | refine L_val (R_loadB rfl (by assumption) (by rfl)) rfl rfl rfl ?_ | refine L_val (R_loadH (by assumption) rfl (by assumption) (by rfl)) rfl rfl rfl ?_) | (refine cL_fieldAddr ?_; refine L_val (R_fa rfl) rfl rfl rfl ?_) | (refine cL_nilCheck ?_; refine L_val (R_nil rfl) rfl rfl rfl ?_) | (refine cL_assign ?_; refine L_val R_assign rfl rfl rfl ?_) | (refine cL_extract ?_; refine L_val (R_extract rfl rfl) rfl rfl rfl ?_) | (refine cL_typeAssert ?_; first | refine L_val (R_taY rfl) rfl rfl rfl ?_ | refine L_val (R_taN rfl rfl) rfl rfl rfl ?_ | refine L_val (R_taNil rfl) rfl rfl rfl ?_) | (refine cL_call ?_; first | refine L_callI (isString_slice sa w4) rfl rfl ?_ | refine L_invokeI rfl (under_slice sa w4) rfl rfl ?_) | (refine cL_pick ?_; first | refine L_val (R_pickT rfl) rfl rfl rfl ?_ | refine L_val (R_pickF rfl) rfl rfl rfl ?_) | (refine cL_eql ?_; first | refine L_val (R_eqPN rfl rfl) rfl rfl rfl ?_ | refine L_val (R_eqI rfl rfl) rfl rfl rfl ?_ | refine L_val (R_eqB rfl rfl) rfl rfl rfl ?_ | refine L_val (R_eqIfN rfl rfl) rfl rfl rfl ?_ | refine L_val (R_eqIfNN rfl) rfl rfl rfl ?_) | (refine cL_makeInterface ?_; refine L_val R_mkI rfl rfl rfl ?_) | (refine cL_not ?_; refine L_val (R_not rfl) rfl rfl rfl ?_) | (refine cL_sub ?_; refine L_val (R_subI rfl rfl) rfl rfl rfl ?_) | refine L_nil ?_) | refine GR_seq ?_ | refine GR_region rfl ?_ | refine GR_skip ?_ | refine GR_block ?_ | refine GR_end ?_ | refine GR_true rfl ?_ | refine GR_false rfl ?_))
    refine L_store rfl hS4 rfl rfl rfl fun w5 h5 x5 s5 => ?_
    (repeat (first | (refine cL ?_; first | (refine cL_guard ?_; refine L_unwanted rfl rfl rfl ?_) | (refine cL_move ?_; refine L_val R_move rfl rfl rfl ?_) | (refine cL_load ?_; first | refine L_val (R_loadB rfl (by assumption) (by rfl)) rfl rfl rfl ?_ | refine L_val (R_loadH (by assumption) rfl (by assumption) (by rfl)) rfl rfl rfl ?_) | (refine cL_fieldAddr ?_; refine L_val (R_fa rfl) rfl rfl rfl ?_) | (refine cL_nilCheck ?_; refine L_val (R_nil rfl) rfl rfl rfl ?_) | (refine cL_assign ?_; refine L_val R_assign rfl rfl rfl ?_) | (refine cL_extract ?_; refine L_val (R_extract rfl rfl) rfl rfl rfl ?_) | (refine cL_typeAssert ?_; first | refine L_val (R_taY rfl) rfl rfl rfl ?_ | refine L_val (R_taN rfl rfl) rfl rfl rfl ?_ | refine L_val (R_taNil rfl) rfl rfl rfl ?_) | (refine cL_pick ?_; first | refine L_val (R_pickT rfl) rfl rfl rfl ?_ | refine L_val (R_pickF rfl) rfl rfl rfl ?_) | (refine cL_eql ?_; first | refine L_val (R_eqPN rfl rfl) rfl rfl rfl ?_ | refine L_val (R_eqI rfl rfl) rfl rfl rfl ?_ | refine L_val (R_eqB rfl rfl) rfl rfl rfl ?_ | refine L_val (R_eqIfN rfl rfl) rfl rfl rfl ?_ | refine L_val (R_eqIfNN rfl) rfl rfl rfl ?_) | (refine cL_makeInterface ?_; refine L_val R_mkI rfl rfl rfl ?_) | (refine cL_not ?_; refine L_val (R_not rfl) rfl rfl rfl ?_) | (refine cL_sub ?_; refine L_val (R_subI rfl rfl) rfl rfl rfl ?_) | refine L_nil ?_) | refine GR_seq ?_ | refine GR_region rfl ?_ | refine GR_skip ?_ | refine GR_block ?_ | refine GR_end ?_ | refine GR_true rfl ?_ | refine GR_false rfl ?_))
    refine GR_nil ⟨rfl, x5.heap (fun h => by omega) ho, fun w6 h6 x6 => ⟨x6.heap (fun h => by omega) h5, ?_, h6, ?_⟩⟩
    · exact x6.heap (fun h => by omega) (x5.heap (fun h => by omega) (x4.heap (fun h => by omega) hD3))
    · exact (x4.mono fun _ _ h => .inr h).trans ((x5.mono fun _ _ h => .inl h).trans (x6.mono fun _ _ h => .inr h))
  · rintro e w4 ⟨v, he, hR1, hR2, hR3, hR4⟩
    refine ⟨⟨v, he⟩, hR3.trans hl3, fun w5 x5 => ?_⟩
    have h5 := x5.heap (fun h => by omega) hR1
    have hD5 := x5.heap (fun h => by omega) hR2
    have sD := lt_of_heap hD3
    (repeat (first | (refine cL ?_; first | (refine cL_guard ?_; refine L_unwanted rfl rfl rfl ?_) | (refine cL_move ?_; refine L_val R_move rfl rfl rfl ?_) | (refine cL_load ?_; first | refine L_val (R_loadB rfl (by assumption) (by rfl)) rfl rfl rfl ?_ | refine L_val (R_loadH (by assumption) rfl (by assumption) (by rfl)) rfl rfl rfl ?_) | (refine cL_fieldAddr ?_; refine L_val (R_fa rfl) rfl rfl rfl ?_) | (refine cL_nilCheck ?_; refine L_val (R_nil rfl) rfl rfl rfl ?_) | (refine cL_assign ?_; refine L_val R_assign rfl rfl rfl ?_) | (refine cL_extract ?_; refine L_val (R_extract rfl rfl) rfl rfl rfl ?_) | (refine cL_typeAssert ?_; first | refine L_val (R_taY rfl) rfl rfl rfl ?_ | refine L_val (R_taN rfl rfl) rfl rfl rfl ?_ | refine L_val (R_taNil rfl) rfl rfl rfl ?_) | (refine cL_pick ?_; first | refine L_val (R_pickT rfl) rfl rfl rfl ?_ | refine L_val (R_pickF rfl) rfl rfl rfl ?_) | (refine cL_eql ?_; first | refine L_val (R_eqPN rfl rfl) rfl rfl rfl ?_ | refine L_val (R_eqI rfl rfl) rfl rfl rfl ?_ | refine L_val (R_eqB rfl rfl) rfl rfl rfl ?_ | refine L_val (R_eqIfN rfl rfl) rfl rfl rfl ?_ | refine L_val (R_eqIfNN rfl) rfl rfl rfl ?_) | (refine cL_makeInterface ?_; refine L_val R_mkI rfl rfl rfl ?_) | (refine cL_not ?_; refine L_val (R_not rfl) rfl rfl rfl ?_) | (refine cL_sub ?_; refine L_val (R_subI rfl rfl) rfl rfl rfl ?_) | (refine cL_build ?_; refine L_val (R_build (cs := [.pointer none, .pointer none, .pointer (some ⟨a, 0, none⟩), .pointer py, .bool true]) rfl) rfl rfl rfl ?_) | refine L_nil ?_) | refine G_seq ?_ | refine G_region ?_ | refine G_skip ?_ | refine G_block ?_ | refine G_end ?_ | refine G_true rfl ?_ | refine G_false rfl ?_))
    refine L_box rfl rfl rfl fun r w6 hn6 => ?_
    (repeat (first | (refine cL ?_; first | (refine cL_guard ?_; refine L_unwanted rfl rfl rfl ?_) | (refine cL_move ?_; refine L_val R_move rfl rfl rfl ?_) | (refine cL_load ?_; first | refine L_val (R_loadB rfl (by assumption) (by rfl)) rfl rfl rfl ?_ | refine L_val (R_loadH (by assumption) rfl (by assumption) (by rfl)) rfl rfl rfl ?_) | (refine cL_fieldAddr ?_; refine L_val (R_fa rfl) rfl rfl rfl ?_) | (refine cL_nilCheck ?_; refine L_val (R_nil rfl) rfl rfl rfl ?_) | (refine cL_assign ?_; refine L_val R_assign rfl rfl rfl ?_) | (refine cL_extract ?_; refine L_val (R_extract rfl rfl) rfl rfl rfl ?_) | (refine cL_typeAssert ?_; first | refine L_val (R_taY rfl) rfl rfl rfl ?_ | refine L_val (R_taN rfl rfl) rfl rfl rfl ?_ | refine L_val (R_taNil rfl) rfl rfl rfl ?_) | (refine cL_pick ?_; first | refine L_val (R_pickT rfl) rfl rfl rfl ?_ | refine L_val (R_pickF rfl) rfl rfl rfl ?_) | (refine cL_eql ?_; first | refine L_val (R_eqPN rfl rfl) rfl rfl rfl ?_ | refine L_val (R_eqI rfl rfl) rfl rfl rfl ?_ | refine L_val (R_eqB rfl rfl) rfl rfl rfl ?_ | refine L_val (R_eqIfN rfl rfl) rfl rfl rfl ?_ | refine L_val (R_eqIfNN rfl) rfl rfl rfl ?_) | (refine cL_makeInterface ?_; refine L_val R_mkI rfl rfl rfl ?_) | (refine cL_not ?_; refine L_val (R_not rfl) rfl rfl rfl ?_) | (refine cL_sub ?_; refine L_val (R_subI rfl rfl) rfl rfl rfl ?_) | refine L_nil ?_) | refine G_seq ?_ | refine G_region ?_ | refine G_skip ?_ | refine G_block ?_ | refine G_end ?_ | refine G_true rfl ?_ | refine G_false rfl ?_))
    refine G_retM1 rfl (hn6.ext.heap (fun h => h) hD5) ?_
    have x6 : Ext No w w6 := ((h13.trans_new hR4 fun k hk hm => by have := hn1.ext.size; have := hn2.ext.size; omega).trans_new x5 fun k hk hm => by have := hn1.ext.size; have := hn2.ext.size; omega).trans hn6.ext
    have x7 : Ext No w (w6.putObj w2.heap.size (.deferred none)) := x6.trans_new (Ext.putObj _) fun k hk hm => by have := hn1.ext.size; have := hn2.ext.size; omega
    have z3 := hR4.size
    have z5 := x5.size
    have f6 := hn6.fresh
    obtain ⟨H', g', -, hH'⟩ := (Grow.quiet hA x7).add ((Ext.putObj (.deferred none)).heap (fun h => by omega) hn6.here) (by have := h13.size; omega)
    exact ⟨_, rfl, r, H', rfl, g', hH'⟩
end Go.Proofs.YtmmcjnfgcaefpaaGreatDoor

/-
  The thin package's 'typ' and 'all': what is asked, what is shown; 'all'.
-/
namespace Go.Proofs.YtmmcjnfgcaefpaaGreatDoor
set_option maxRecDepth 100000
set_option maxHeartbeats 4000000

instance app_types : AppT Tryz.prog 68 43 16 := ⟨by kernel_rfl, by kernel_rfl⟩

/-- an array of pointers, at its start -/
def PtrsAt (H : Hp) (as_ : List Nat) (q : Option Addr) : Prop := ∀ (i a : Nat), as_[i]? = some a → ∃ g cs T, q = some ⟨g, 0, none⟩ ∧ H g = some (Ob cs T) ∧ lget cs i = some (ptr a)

/-- a declared type, laid: with its underlying type, where it has no type parameters -/
structure DeclIs (H : Hp) (a o : Nat) (z : Prop) : Prop where
  name : ∃ c r, H a = some (Ob (c :: ptr o :: r) 124)
  obj : ∃ n pk s t, H o = some (Ob (ObjC n pk s t) 196)
  und : z → ∃ m1 m2 fr und vz me, H a = some (Ob (namedCells (ptr o) (.pointer none) m1 m2 fr und vz me) 124) ∧ UndOK fr und

/-- the builder, as 'typ' reads it -/
structure BuIs (E : Env) (H : Hp) (ds : List (Int × Ty)) (p : Option Addr) (dcap bB : Nat) : Prop where
  blk : ∃ pk vd cd vp cp, H bB = some (Ob [.slice p ds.length dcap, .pointer pk, .slice vd E.decls.length cd, .slice vp E.params.length cp] 54) ∧ PtrsAt H E.decls vd ∧ PtrsAt H E.params vp
  dl : ∀ (i a : Nat), E.decls[i]? = some a → ∃ o d, E.objs[i]? = some o ∧ ds[i]? = some d ∧ DeclIs H a o (d.1 = 0)

theorem PtrsAt.mono {H H' : Hp} (hh : Hp.le H H') {as_ : List Nat} {q : Option Addr} (h : PtrsAt H as_ q) : PtrsAt H' as_ q := fun i a ha =>
  let ⟨g, cs, T, h1, h2, h3⟩ := h i a ha
  ⟨g, cs, T, h1, hh _ _ h2, h3⟩
theorem DeclIs.mono {H H' : Hp} (hh : Hp.le H H') {a o : Nat} {z : Prop} (h : DeclIs H a o z) : DeclIs H' a o z :=
  ⟨let ⟨c, r, h1⟩ := h.name; ⟨c, r, hh _ _ h1⟩, let ⟨n, pk, s, t, h1⟩ := h.obj; ⟨n, pk, s, t, hh _ _ h1⟩, fun hz => let ⟨m1, m2, fr, und, vz, me, h1, h2⟩ := h.und hz; ⟨m1, m2, fr, und, vz, me, hh _ _ h1, h2⟩⟩
theorem BuIs.mono {E : Env} {H H' : Hp} (hh : Hp.le H H') {ds : List (Int × Ty)} {p : Option Addr} {dcap bB : Nat} (h : BuIs E H ds p dcap bB) : BuIs E H' ds p dcap bB :=
  ⟨let ⟨pk, vd, cd, vp, cp, h1, h2, h3⟩ := h.blk; ⟨pk, vd, cd, vp, cp, hh _ _ h1, h2.mono hh, h3.mono hh⟩, fun i a ha => let ⟨o, d, h1, h2, h3⟩ := h.dl i a ha; ⟨o, d, h1, h2, h3.mono hh⟩⟩
theorem SlAt.mono {H H' : Hp} (hh : Hp.le H H') {vs : List Value} {q : Option Addr} (h : SlAt H vs q) : SlAt H' vs q := fun i v hv =>
  let ⟨h1, g, off, cs, T, h2, h3, h4⟩ := h i v hv
  ⟨h1, g, off, cs, T, h2, hh _ _ h3, h4⟩

/-- what 'typ' answers for a type -/
def TypSays (E : Env) (H : Hp) (w : World) (ts : List Ty) (t : Ty) : Value → World → Prop := fun r w' =>
  ∃ H', Grow H w H' w' ∧ Rep E H' (substT ts t) r ∧ (t.k ≠ 1 → t.k ≠ 2 → t.k ≠ 3 → ∃ T a, r = .iface T (ptr a) ∧ litT T = true)

def TypOK (E : Env) (ds : List (Int × Ty)) (p : Option Addr) (dcap bB : Nat) (own : Int) (t : Ty) : Prop :=
  ∀ (cs : List Value) (H : Hp) (w : World) (ts : List Ty) (vs : List Value) (q : Option Addr) (qc : Nat), Agree H w → Props H → BuIs E H ds p dcap bB → DTy H t cs → DDl H ds p → (ts.length : Int) = own → RepL E H ts vs → SlAt H vs q →
    Calls Tryz.prog 13 #[ptr bB, .agg cs.toArray, .slice q vs.length qc] w (Ret (TypSays E H w ts t))

def AllSays (E : Env) (H : Hp) (w : World) (ts : List Ty) (es : List Ty) : Value → World → Prop := fun r w' =>
  ∃ H' us q c, r = .slice q us.length c ∧ us.length ≤ c ∧ Grow H w H' w' ∧ RepL E H' (substL ts es) us ∧ SlAt H' us q ∧ (us ≠ [] → TySl H' us r)

theorem RepL.snoc {E : Env} {H : Hp} {t : Ty} {v : Value} (hv : Rep E H t v) : ∀ {ts : List Ty} {vs : List Value}, RepL E H ts vs → RepL E H (ts ++ [t]) (vs ++ [v])
  | [], vs, h => by simp only [RepL] at h; subst h; exact ⟨v, [], rfl, hv, rfl⟩
  | e :: ts, vs, h => by
    simp only [RepL] at h
    obtain ⟨x, vs', rfl, h1, h2⟩ := h
    exact ⟨x, vs' ++ [v], rfl, h1, RepL.snoc hv h2⟩
theorem substL_app (ts : List Ty) : ∀ a b : List Ty, substL ts (a ++ b) = substL ts a ++ substL ts b
  | [], b => rfl
  | e :: a, b => by simp only [List.cons_append, substL, substL_app ts a b]
theorem RepL.at {E : Env} {H : Hp} : ∀ {ts : List Ty} {vs : List Value} {i : Nat} {t : Ty}, RepL E H ts vs → ts[i]? = some t → ∃ v, vs[i]? = some v ∧ Rep E H t v
  | [], _, _, _, _, h => by simp at h
  | e :: ts, vs, 0, t, h, he => by
    simp only [RepL] at h
    obtain ⟨x, vs', rfl, h1, h2⟩ := h
    simp only [List.getElem?_cons_zero, Option.some.injEq] at he
    subst he
    exact ⟨x, rfl, h1⟩
  | e :: ts, vs, i + 1, t, h, he => by
    simp only [RepL] at h
    obtain ⟨x, vs', rfl, h1, h2⟩ := h
    obtain ⟨v, h3, h4⟩ := RepL.at (i := i) h2 (by simpa using he)
    exact ⟨v, by simpa using h3, h4⟩
theorem RepL.vals {E : Env} {H : Hp} {v : Value} : ∀ {ts : List Ty} {vs : List Value} {i : Nat}, RepL E H ts vs → vs[i]? = some v → ∃ t, ts[i]? = some t ∧ Rep E H t v
  | [], vs, i, h, hv => by simp only [RepL] at h; subst h; simp at hv
  | e :: ts, vs, 0, h, hv => by
    simp only [RepL] at h
    obtain ⟨x, vs', rfl, h1, h2⟩ := h
    simp only [List.getElem?_cons_zero, Option.some.injEq] at hv
    subst hv
    exact ⟨e, rfl, h1⟩
  | e :: ts, vs, i + 1, h, hv => by
    simp only [RepL] at h
    obtain ⟨x, vs', rfl, h1, h2⟩ := h
    obtain ⟨t, h3, h4⟩ := RepL.vals (i := i) h2 (by simpa using hv)
    exact ⟨t, by simpa using h3, h4⟩

theorem substL_get (ts : List Ty) : ∀ (es : List Ty) (i : Nat), (substL ts es)[i]? = es[i]?.map (substT ts)
  | [], i => by simp [substL]
  | e :: es, 0 => rfl
  | e :: es, i + 1 => by simpa [substL] using substL_get ts es i
/-- what lies in a row of one's own may be read from it -/
theorem slAt_own {H : Hp} {us r : List Value} {g : Nat} {T : Nat} (h : H g = some (Ob (us ++ r) T)) (hi : ∀ v ∈ us, ∃ T x, v = .iface T x) : SlAt H us (some ⟨g, 0, none⟩) := fun i v hv =>
  ⟨hi v (List.mem_of_getElem? hv), g, 0, _, T, rfl, h, by
    rw [lget_eq, Nat.zero_add, List.getElem?_append_left (List.getElem?_eq_some_iff.1 hv).1]; exact hv⟩

attribute [local irreducible] Calls execOp

theorem all_any {E : Env} {ds : List (Int × Ty)} {p : Option Addr} {dcap bB : Nat} {own : Int} {es : List Ty} (ih : ∀ e ∈ es, TypOK E ds p dcap bB own e) {H : Hp} {ts : List Ty} {vs : List Value} {q pe : Option Addr} {qc ecap : Nat} (w : World) (hA : Agree H w) (hP : Props H) (hB : BuIs E H ds p dcap bB) (hes : DSl H es pe) (hd : DDl H ds p) (hown : (ts.length : Int) = own) (hts : RepL E H ts vs) (hq : SlAt H vs q)
    (hbd : es.length * 72 ≤ 140737488351232) :
    Calls Tryz.prog 26 #[ptr bB, .slice pe es.length ecap, .slice q vs.length qc] w (Ret (AllSays E H w ts es)) := by
  (refine calls_enter Tryz.func26 Tryz.ntmps26 rfl rfl ?_)
  (repeat (first | (refine cL ?_; first | (refine cL_move ?_; refine L_val R_move rfl rfl rfl ?_) | (refine cL_load ?_; first | refine L_val (R_loadB rfl (by assumption) (by rfl)) rfl rfl rfl ?_ | refine L_val (R_loadH (by assumption) rfl (by assumption) (by rfl)) rfl rfl rfl ?_) | (refine cL_assign ?_; refine L_val R_assign rfl rfl rfl ?_) | (refine cL_call ?_; refine L_val (R_len rfl) rfl rfl rfl ?_) | (refine cL_lss ?_; refine L_val (R_ltI rfl rfl) rfl rfl rfl ?_) | (refine cL_add ?_; refine L_val (R_addI rfl rfl) rfl rfl rfl ?_) | refine L_nil ?_) | refine G_seq ?_ | refine G_region ?_ | refine G_skip ?_ | refine G_block ?_ | refine G_end ?_ | refine G_true rfl ?_ | refine G_false rfl ?_))
  refine G_loop (fun f ds0 w0 => ds0 = [] ∧ ∃ (f0 : Fm) (i : Nat) (va : Value) (us : List Value) (Hi : Hp), f = with_ [(12, .int .i64 (i : Int)), (11, .int .i64 (es.length : Int)), (10, .slice pe es.length ecap), (0, ptr bB), (2, .slice q vs.length qc), (7, va)] f0 ∧ i ≤ es.length ∧ Grow H w Hi w0 ∧ OwnS w0 43 va us ∧
      (∀ g, va.ownBlock = some g → Hi g = none ∧ w.heap.size ≤ g) ∧ us.length = i ∧ RepL E Hi (substL ts (es.take i)) us ∧ (i = 0 → va = .slice none 0 0)) (fun f _ _ => countM 12 11 f)
    ⟨rfl, _, 0, .slice none 0 0, [], H, with_self ⟨rfl, rfl, rfl, rfl, rfl, rfl, trivial⟩, Nat.zero_le _, Grow.refl hA, .inl ⟨rfl, rfl⟩, (fun g hg => by cases hg), rfl, rfl, fun _ => rfl⟩ ?_
  rintro f ds0 wr ⟨rfl, f0, i, va, us, Hi, rfl, hi, gr, hown', hob, hul, hrep, hnil⟩
  by_cases h : i < es.length
  · have hbt : decide ((i : Int) < (es.length : Int)) = true := decide_eq_true (by omega)
    obtain ⟨e, he⟩ : ∃ v, es[i]? = some v := ⟨_, List.getElem?_eq_getElem h⟩
    obtain ⟨bk, off, ec, hp', hec, hed⟩ := hes.get he
    obtain ⟨q', qcap, rfl, -, -, -, -, -⟩ := hed.cells
    subst hp'
    have hAr := gr.ag
    have hec' := hec.mono gr.le
    (repeat (first | (refine cL ?_; first | (refine cL_move ?_; refine L_val R_move rfl rfl rfl ?_) | (refine cL_load ?_; first | refine L_val (R_loadA rfl rfl fun j v hj => hAr.hcell (hec' j v hj)) rfl rfl rfl ?_ | refine L_val (R_loadB rfl (by assumption) (by rfl)) rfl rfl rfl ?_ | refine L_val (R_loadH (by assumption) rfl (by assumption) (by rfl)) rfl rfl rfl ?_) | (refine cL_assign ?_; refine L_val R_assign rfl rfl rfl ?_) | (refine cL_call ?_; refine L_val (R_len rfl) rfl rfl rfl ?_) | (refine cL_lss ?_; first | refine L_valB (R_ltI rfl rfl) hbt rfl rfl rfl ?_ | refine L_val (R_ltI rfl rfl) rfl rfl rfl ?_) | (refine cL_indexAddr ?_; refine L_valE (R_ia rfl rfl (by omega) (by omega)) (ia6 _ _ _) rfl rfl rfl ?_) | (refine cL_add ?_; refine L_val (R_addI rfl rfl) rfl rfl rfl ?_) | refine L_nil ?_) | refine G_seq ?_ | refine G_region ?_ | refine G_skip ?_ | refine G_block ?_ | refine G_end ?_ | refine G_true rfl ?_ | refine G_false rfl ?_))
    refine L_allocS rfl rfl fun b9 w3 hn3 => ?_
    refine L_storeA rfl hn3.here rfl rfl rfl rfl rfl rfl fun w4 h4 e4 s4 => ?_
    have hn4 := hn3.store h4 e4 s4
    obtain ⟨H4, g4, hb9⟩ := Grow.ofNew hAr hn4
    have gA := gr.trans g4
    have hih := ih e (List.mem_of_getElem? he) _ H4 w4 ts vs q qc g4.ag (hP.mono gA.le) (hB.mono gA.le) (DTy.mono gA.le _ _ hed) (hd.mono gA.le) hown (RepL.mono gA.le _ _ hts) (hq.mono gA.le)
    (repeat (first | (refine cL ?_; first | (refine cL_move ?_; refine L_val R_move rfl rfl rfl ?_) | (refine cL_load ?_; first | refine L_val (R_loadAB rfl rfl (g4.ag _ _ hb9)) rfl rfl rfl ?_ | refine L_val (R_loadB rfl (by assumption) (by rfl)) rfl rfl rfl ?_ | refine L_val (R_loadH (by assumption) rfl (by assumption) (by rfl)) rfl rfl rfl ?_) | (refine cL_assign ?_; refine L_val R_assign rfl rfl rfl ?_) | (refine cL_call ?_; refine L_val (R_len rfl) rfl rfl rfl ?_) | (refine cL_lss ?_; refine L_val (R_ltI rfl rfl) rfl rfl rfl ?_) | (refine cL_add ?_; refine L_val (R_addI rfl rfl) rfl rfl rfl ?_) | refine L_nil ?_) | refine G_seq ?_ | refine G_region ?_ | refine G_skip ?_ | refine G_block ?_ | refine G_end ?_ | refine G_true rfl ?_ | refine G_false rfl ?_))
    refine L_callR hih rfl rfl fun v5 w5 ⟨H5, g5, hr5, _⟩ => ?_
    obtain ⟨T5, a5, hv5⟩ := hr5.iface
    subst hv5
    refine L_buildSlice (vs := [.iface T5 (ptr a5)]) rfl rfl rfl rfl rfl rfl fun b6 w6 hn6 => ?_
    have gB := gA.trans g5
    have hlt5 : ∀ b o, va.ownBlock = some b → H5 b = some o → False := fun b o hvb hb5 => by
      have h1 := hown'.lt b hvb
      rcases (g4.trans g5).new b o hb5 with h2 | h2
      · rw [(hob b hvb).1] at h2; cases h2
      · omega
    have hown5 := (hown'.ext (g4.trans g5).ext (fun _ _ h => h)).ext hn6.ext (fun _ _ h => h)
    refine L_push (v := va) (u := .iface T5 (ptr a5)) rfl hown5 rfl hn6.here rfl (by omega) (by simp only [maxLen]; omega) rfl rfl fun va' w7 hpu => ?_
    (repeat (first | (refine cL ?_; first | (refine cL_move ?_; refine L_val R_move rfl rfl rfl ?_) | (refine cL_load ?_; first | refine L_val (R_loadB rfl (by assumption) (by rfl)) rfl rfl rfl ?_ | refine L_val (R_loadH (by assumption) rfl (by assumption) (by rfl)) rfl rfl rfl ?_) | (refine cL_assign ?_; refine L_val R_assign rfl rfl rfl ?_) | (refine cL_call ?_; refine L_val (R_len rfl) rfl rfl rfl ?_) | (refine cL_lss ?_; refine L_val (R_ltI rfl rfl) rfl rfl rfl ?_) | (refine cL_add ?_; first | refine L_valE (R_addI rfl rfl) (succ_i64 h (by omega)) rfl rfl rfl ?_ | refine L_val (R_addI rfl rfl) rfl rfl rfl ?_) | refine L_nil ?_) | refine G_seq ?_ | refine G_region ?_ | refine G_skip ?_ | refine G_block ?_ | refine G_end ?_ | refine G_true rfl ?_ | refine G_false rfl ?_))
    have hA6 : Agree H5 w6 := gB.ag.ext0 hn6.ext
    have hA7 : Agree H5 w7 := hA6.ext hpu.ext fun b o hb hm => hlt5 b o hm.symm hb
    have hx6 : Ext No w w6 := gB.ext.trans hn6.ext
    have gC : Grow H w H5 w7 := ⟨gB.le, hA7, gB.new, hx6.trans_new hpu.ext fun k hk hm => by have := (hob k hm.symm).2; omega⟩
    have hob7 : ∀ g, va'.ownBlock = some g → H5 g = none ∧ w.heap.size ≤ g := fun g hg7 => by
      rcases hpu.blk with hbk | hbk
      · rw [hbk] at hg7
        refine ⟨?_, (hob g hg7).2⟩
        cases hh : H5 g with
        | none => rfl
        | some o => exact (hlt5 g o hg7 hh).elim
      · rw [hbk] at hg7
        injection hg7 with hg7
        have := hx6.size
        refine ⟨?_, by omega⟩
        cases hh : H5 g with
        | none => rfl
        | some o => have := hA6.lt hh; omega
    have htk : es.take (i + 1) = es.take i ++ [e] := by rw [List.take_add_one, he]; rfl
    have hrep7 : RepL E H5 (substL ts (es.take (i + 1))) (us ++ [.iface T5 (ptr a5)]) := by
      rw [htk, substL_app]
      exact RepL.snoc hr5 (RepL.mono (Hp.le_trans g4.le g5.le) _ _ hrep)
    refine G_inv ⟨⟨rfl, _, i + 1, va', us ++ [.iface T5 (ptr a5)], H5, with_self ⟨rfl, rfl, rfl, rfl, rfl, rfl, trivial⟩, h, gC, hpu.own, hob7, by simp [hul], hrep7, fun h0 => by omega⟩, ?_⟩
    show ((es.length : Int) - ((i + 1 : Nat) : Int)).toNat < ((es.length : Int) - (i : Int)).toNat
    omega
  · have hbt : decide ((i : Int) < (es.length : Int)) = false := decide_eq_false (by omega)
    have hil : i = es.length := by omega
    have htk : es.take i = es := by rw [hil]; exact List.take_length
    rw [htk] at hrep
    (repeat (first | (refine cL ?_; first | (refine cL_move ?_; refine L_val R_move rfl rfl rfl ?_) | (refine cL_load ?_; first | refine L_val (R_loadB rfl (by assumption) (by rfl)) rfl rfl rfl ?_ | refine L_val (R_loadH (by assumption) rfl (by assumption) (by rfl)) rfl rfl rfl ?_) | (refine cL_assign ?_; refine L_val R_assign rfl rfl rfl ?_) | (refine cL_call ?_; refine L_val (R_len rfl) rfl rfl rfl ?_) | (refine cL_lss ?_; first | refine L_valB (R_ltI rfl rfl) hbt rfl rfl rfl ?_ | refine L_val (R_ltI rfl rfl) rfl rfl rfl ?_) | (refine cL_add ?_; refine L_val (R_addI rfl rfl) rfl rfl rfl ?_) | refine L_nil ?_) | refine G_exit rfl ?_ | refine G_seq ?_ | refine G_region ?_ | refine G_skip ?_ | refine G_block ?_ | refine G_end ?_ | refine G_true rfl ?_ | refine G_false rfl ?_))
    (refine G_retF rfl ?_)
    rcases hown' with ⟨rfl, rfl⟩ | ⟨g, c, r, rfl, hg, hgl⟩
    · exact ⟨_, rfl, Hi, [], none, 0, rfl, Nat.le_refl _, gr, hrep, fun i v hv => by simp at hv, fun hne => absurd rfl hne⟩
    · obtain ⟨Hg, gg, leg, hHg⟩ := gr.add hg (hob g rfl).2
      have hrep' := RepL.mono leg _ _ hrep
      exact ⟨_, rfl, Hg, us, _, c, rfl, (by simp at hgl; omega), gg, hrep', slAt_own hHg (fun v hv => by
        obtain ⟨j, hj⟩ := List.mem_iff_getElem?.1 hv
        obtain ⟨t, -, h2⟩ := hrep'.vals hj
        obtain ⟨T, a, h3⟩ := h2.iface
        exact ⟨T, _, h3⟩), fun _ => ⟨g, c, r, rfl, hHg⟩⟩
end Go.Proofs.YtmmcjnfgcaefpaaGreatDoor

/-
  The thin package's 'typ': basic types, bound type parameters, a declaration's own.
-/
namespace Go.Proofs.YtmmcjnfgcaefpaaGreatDoor
set_option maxRecDepth 100000
set_option maxHeartbeats 4000000
attribute [local irreducible] Calls execOp

theorem headB_basic {ds : List (Int × Ty)} {n c : Int} {b : Bool} {es : List Ty} {params own : Int} (h : headB ds 0 n c b es params own = true) : 0 ≤ n ∧ n < 17 ∧ es = [] := by
  simp only [headB, Bool.and_eq_true, Bool.not_eq_true'] at h
  have h4 := h.2.1
  have h2 := h.1
  simp [limitL, head4] at h4
  simp [head2, elemsL] at h2
  exact ⟨by omega, by omega, h2⟩
theorem headB_param {ds : List (Int × Ty)} {n c : Int} {b : Bool} {es : List Ty} {params own : Int} (h : headB ds 2 n c b es params own = true) (h0 : 0 ≤ params) : 0 ≤ n ∧ n < params ∧ es = [] := by
  simp only [headB, Bool.and_eq_true, Bool.not_eq_true'] at h
  have h4 := h.2.1
  have h2 := h.1
  simp [limitL, head4] at h4
  simp [head2, elemsL] at h2
  exact ⟨by omega, by omega, h2⟩
theorem headB_own2 {ds : List (Int × Ty)} {n c : Int} {b : Bool} {es : List Ty} {params own : Int} (h : headB ds 3 n c b es params own = true) (h0 : 0 ≤ own) : 0 ≤ n ∧ n < own ∧ es = [] := by
  simp only [headB, Bool.and_eq_true, Bool.not_eq_true'] at h
  have h4 := h.2.1
  have h2 := h.1
  simp [limitL, head4] at h4
  simp [head2, elemsL] at h2
  exact ⟨by omega, by omega, h2⟩

section
variable {E : Env} {ds : List (Int × Ty)} {p : Option Addr} {dcap bB m : Nat} {params own n c : Int} {b : Bool} {nm : ByteArray} {es : List Ty}

theorem typ_basic (hsh : shapedB (ds.take m) params own (.mk 0 n c b nm es) = true) : TypOK E ds p dcap bB own (.mk 0 n c b nm es) := by
  intro cs H w ts vs q qc hA hP hB ht hd hown hts hq
  obtain ⟨h0, h17, rfl⟩ := headB_basic (show headB (ds.take m) _ n c b es params own = true from shaped_head hsh)
  obtain ⟨i, rfl⟩ := Int.eq_ofNat_of_zero_le h0
  simp only [DTy] at ht
  obtain ⟨p', cap, rfl, -, -, -, -, -⟩ := ht
  (refine calls_enter Tryz.func13 Tryz.ntmps13 rfl rfl ?_)
  (repeat (first | (refine cL ?_; first | (refine cL_move ?_; refine L_val R_move rfl rfl rfl ?_) | (refine cL_load ?_; first | refine L_val (R_loadB rfl (by assumption) (by rfl)) rfl rfl rfl ?_ | refine L_val (R_loadH (by assumption) rfl (by assumption) (by rfl)) rfl rfl rfl ?_) | (refine cL_fieldAddr ?_; refine L_val (R_fa rfl) rfl rfl rfl ?_) | (refine cL_nilCheck ?_; refine L_val (R_nil rfl) rfl rfl rfl ?_) | (refine cL_assign ?_; refine L_val R_assign rfl rfl rfl ?_) | (refine cL_call ?_; refine L_val (R_len rfl) rfl rfl rfl ?_) | (refine cL_eql ?_; first | refine L_val (R_eqPN rfl rfl) rfl rfl rfl ?_ | refine L_val (R_eqI rfl rfl) rfl rfl rfl ?_ | refine L_val (R_eqB rfl rfl) rfl rfl rfl ?_ | refine L_val (R_eqIfN rfl rfl) rfl rfl rfl ?_ | refine L_val (R_eqIfNN rfl) rfl rfl rfl ?_) | (refine cL_lss ?_; refine L_val (R_ltI rfl rfl) rfl rfl rfl ?_) | (refine cL_makeInterface ?_; refine L_val R_mkI rfl rfl rfl ?_) | (refine cL_add ?_; refine L_val (R_addI rfl rfl) rfl rfl rfl ?_) | refine L_nil ?_) | refine G_seq ?_ | refine G_region ?_ | refine G_skip ?_ | refine G_block ?_ | refine G_end ?_ | refine G_true rfl ?_ | refine G_false rfl ?_))
  refine L_box rfl rfl rfl fun b4 w1 hn1 => ?_
  obtain ⟨H1, g1, hb4⟩ := Grow.ofNew hA hn1
  have hA1 := g1.ag
  (repeat (first | (refine cL ?_; first | (refine cL_move ?_; refine L_val R_move rfl rfl rfl ?_) | (refine cL_load ?_; first | refine L_val (R_loadB rfl (by assumption) (by rfl)) rfl rfl rfl ?_ | refine L_val (R_loadH (by assumption) rfl (by assumption) (by rfl)) rfl rfl rfl ?_) | (refine cL_fieldAddr ?_; refine L_val (R_fa rfl) rfl rfl rfl ?_) | (refine cL_nilCheck ?_; refine L_val (R_nil rfl) rfl rfl rfl ?_) | (refine cL_assign ?_; refine L_val R_assign rfl rfl rfl ?_) | (refine cL_call ?_; refine L_val (R_len rfl) rfl rfl rfl ?_) | (refine cL_eql ?_; first | refine L_val (R_eqPN rfl rfl) rfl rfl rfl ?_ | refine L_val (R_eqI rfl rfl) rfl rfl rfl ?_ | refine L_val (R_eqB rfl rfl) rfl rfl rfl ?_ | refine L_val (R_eqIfN rfl rfl) rfl rfl rfl ?_ | refine L_val (R_eqIfNN rfl) rfl rfl rfl ?_) | (refine cL_lss ?_; refine L_val (R_ltI rfl rfl) rfl rfl rfl ?_) | (refine cL_makeInterface ?_; refine L_val R_mkI rfl rfl rfl ?_) | (refine cL_add ?_; refine L_val (R_addI rfl rfl) rfl rfl rfl ?_) | refine L_nil ?_) | refine G_seq ?_ | refine G_region ?_ | refine G_skip ?_ | refine G_block ?_ | refine G_end ?_ | refine G_true rfl ?_ | refine G_false rfl ?_))
  refine L_callR (basic_any i w1 hA1 (by omega)) rfl rfl fun v w2 ⟨a, hv, a', H2, u, s, he, g2, h2⟩ => ?_
  subst hv
  obtain rfl : a = a' := by injection he with he; injection he with he; injection he
  (repeat (first | (refine cL ?_; first | (refine cL_move ?_; refine L_val R_move rfl rfl rfl ?_) | (refine cL_load ?_; first | refine L_val (R_loadB rfl (by assumption) (by rfl)) rfl rfl rfl ?_ | refine L_val (R_loadH (by assumption) rfl (by assumption) (by rfl)) rfl rfl rfl ?_) | (refine cL_fieldAddr ?_; refine L_val (R_fa rfl) rfl rfl rfl ?_) | (refine cL_nilCheck ?_; refine L_val (R_nil rfl) rfl rfl rfl ?_) | (refine cL_assign ?_; refine L_val R_assign rfl rfl rfl ?_) | (refine cL_call ?_; refine L_val (R_len rfl) rfl rfl rfl ?_) | (refine cL_eql ?_; first | refine L_val (R_eqPN rfl rfl) rfl rfl rfl ?_ | refine L_val (R_eqI rfl rfl) rfl rfl rfl ?_ | refine L_val (R_eqB rfl rfl) rfl rfl rfl ?_ | refine L_val (R_eqIfN rfl rfl) rfl rfl rfl ?_ | refine L_val (R_eqIfNN rfl) rfl rfl rfl ?_) | (refine cL_lss ?_; refine L_val (R_ltI rfl rfl) rfl rfl rfl ?_) | (refine cL_makeInterface ?_; refine L_val R_mkI rfl rfl rfl ?_) | (refine cL_add ?_; refine L_val (R_addI rfl rfl) rfl rfl rfl ?_) | refine L_nil ?_) | refine G_seq ?_ | refine G_region ?_ | refine G_skip ?_ | refine G_block ?_ | refine G_end ?_ | refine G_true rfl ?_ | refine G_false rfl ?_))
  (refine G_retF rfl ?_)
  exact ⟨_, rfl, H2, g1.trans g2, by simp only [substT]; exact ⟨[], rfl, .basic h2 h0⟩, fun _ _ _ => ⟨_, a, rfl, rfl⟩⟩

theorem typ_param (hpar : params ≤ E.params.length) (h0p : 0 ≤ params) (hsh : shapedB (ds.take m) params own (.mk 2 n c b nm es) = true) : TypOK E ds p dcap bB own (.mk 2 n c b nm es) := by
  intro cs H w ts vs q qc hA hP hB ht hd hown hts hq
  obtain ⟨h0, hlt, rfl⟩ := headB_param (show headB (ds.take m) _ n c b es params own = true from shaped_head hsh) h0p
  obtain ⟨i, rfl⟩ := Int.eq_ofNat_of_zero_le h0
  simp only [DTy] at ht
  obtain ⟨p', cap, rfl, -, -, -, -, -⟩ := ht
  obtain ⟨pk, vd, cd, vp, cp, hbb, -, hvp⟩ := hB.blk
  obtain ⟨a, ha⟩ : ∃ a, E.params[i]? = some a := ⟨_, List.getElem?_eq_getElem (by omega)⟩
  obtain ⟨g, gcs, T, rfl, hg, hgv⟩ := hvp i a ha
  (refine calls_enter Tryz.func13 Tryz.ntmps13 rfl rfl ?_)
  (repeat (first | (refine cL ?_; first | (refine cL_move ?_; refine L_val R_move rfl rfl rfl ?_) | (refine cL_load ?_; first | refine L_val (R_loadB rfl (by assumption) (by rfl)) rfl rfl rfl ?_ | refine L_val (R_loadH (by assumption) rfl (by assumption) (by rfl)) rfl rfl rfl ?_) | (refine cL_fieldAddr ?_; refine L_val (R_fa rfl) rfl rfl rfl ?_) | (refine cL_nilCheck ?_; refine L_val (R_nil rfl) rfl rfl rfl ?_) | (refine cL_assign ?_; refine L_val R_assign rfl rfl rfl ?_) | (refine cL_call ?_; refine L_val (R_len rfl) rfl rfl rfl ?_) | (refine cL_eql ?_; first | refine L_val (R_eqPN rfl rfl) rfl rfl rfl ?_ | refine L_val (R_eqI rfl rfl) rfl rfl rfl ?_ | refine L_val (R_eqB rfl rfl) rfl rfl rfl ?_ | refine L_val (R_eqIfN rfl rfl) rfl rfl rfl ?_ | refine L_val (R_eqIfNN rfl) rfl rfl rfl ?_) | (refine cL_lss ?_; refine L_val (R_ltI rfl rfl) rfl rfl rfl ?_) | (refine cL_makeInterface ?_; refine L_val R_mkI rfl rfl rfl ?_) | (refine cL_add ?_; refine L_val (R_addI rfl rfl) rfl rfl rfl ?_) | refine L_nil ?_) | refine G_seq ?_ | refine G_region ?_ | refine G_skip ?_ | refine G_block ?_ | refine G_end ?_ | refine G_true rfl ?_ | refine G_false rfl ?_))
  refine L_box rfl rfl rfl fun b4 w1 hn1 => ?_
  obtain ⟨H1, g1, hb4⟩ := Grow.ofNew hA hn1
  have hA1 := g1.ag
  have hbb1 := g1.le _ _ hbb
  have hg1 := g1.le _ _ hg
  have hAg : ∀ w', Ext No w1 w' → Agree H1 w' := fun _ he => hA1.ext0 he
  (repeat (first | (refine cL ?_; first | (refine cL_move ?_; refine L_val R_move rfl rfl rfl ?_) | (refine cL_load ?_; first | refine L_val (R_loadB rfl (by assumption) (by rfl)) rfl rfl rfl ?_ | refine L_val (R_loadH (by assumption) rfl (by assumption) (by rfl)) rfl rfl rfl ?_) | (refine cL_fieldAddr ?_; refine L_val (R_fa rfl) rfl rfl rfl ?_) | (refine cL_nilCheck ?_; refine L_val (R_nil rfl) rfl rfl rfl ?_) | (refine cL_assign ?_; refine L_val R_assign rfl rfl rfl ?_) | (refine cL_call ?_; refine L_val (R_len rfl) rfl rfl rfl ?_) | (refine cL_eql ?_; first | refine L_val (R_eqPN rfl rfl) rfl rfl rfl ?_ | refine L_val (R_eqI rfl rfl) rfl rfl rfl ?_ | refine L_val (R_eqB rfl rfl) rfl rfl rfl ?_ | refine L_val (R_eqIfN rfl rfl) rfl rfl rfl ?_ | refine L_val (R_eqIfNN rfl) rfl rfl rfl ?_) | (refine cL_lss ?_; refine L_val (R_ltI rfl rfl) rfl rfl rfl ?_) | (refine cL_makeInterface ?_; refine L_val R_mkI rfl rfl rfl ?_) | (refine cL_add ?_; refine L_val (R_addI rfl rfl) rfl rfl rfl ?_) | refine L_nil ?_) | refine G_seq ?_ | refine G_region ?_ | refine G_skip ?_ | refine G_block ?_ | refine G_end ?_ | refine G_true rfl ?_ | refine G_false rfl ?_))
  (refine G_draw No (0 :: 1 :: 2 :: 3 :: 4 :: 5 :: 6 :: 7 :: 8 :: 9 :: []) [] follows (by kernel_rfl) rfl ?_)
  (repeat (first | (refine cD_move ?_; refine D_val0 (fun _ _ => R_move) rfl rfl ?_) | (refine cD_load ?_; first | refine D_val0 (fun w he => R_loadH (hAg w he) rfl hg1 hgv) rfl rfl ?_ | refine D_val0 (fun w he => R_loadH (hAg w he) rfl (by assumption) (by rfl)) rfl rfl ?_) | (refine cD_fieldAddr ?_; refine D_val0 (fun _ _ => R_fa rfl) rfl rfl ?_) | (refine cD_nilCheck ?_; refine D_val0 (fun _ _ => R_nil rfl) rfl rfl ?_) | (refine cD_assign ?_; refine D_val0 (fun _ _ => R_assign) rfl rfl ?_) | (refine cD_call ?_; refine D_val0 (fun _ _ => R_len rfl) rfl rfl ?_) | (refine cD_eql ?_; first | refine D_val0 (fun _ _ => R_eqPN rfl rfl) rfl rfl ?_ | refine D_val0 (fun _ _ => R_eqI rfl rfl) rfl rfl ?_ | refine D_val0 (fun _ _ => R_eqB rfl rfl) rfl rfl ?_ | refine D_val0 (fun _ _ => R_eqIfN rfl rfl) rfl rfl ?_ | refine D_val0 (fun _ _ => R_eqIfNN rfl) rfl rfl ?_) | (refine cD_lss ?_; refine D_val0 (fun _ _ => R_ltI rfl rfl) rfl rfl ?_) | (refine cD_indexAddr ?_; refine D_valE (fun _ _ => R_ia rfl rfl (by omega) (by omega)) (ia0 _ _) rfl rfl ?_) | (refine cD_makeInterface ?_; refine D_val0 (fun _ _ => R_mkI) rfl rfl ?_) | (refine cD_add ?_; refine D_val0 (fun _ _ => R_addI rfl rfl) rfl rfl ?_)))
  refine D_nil fun w2 hw2 => ?_
  (repeat (first | (refine cL ?_; first | (refine cL_move ?_; refine L_val R_move rfl rfl rfl ?_) | (refine cL_load ?_; first | refine L_val (R_loadB rfl (by assumption) (by rfl)) rfl rfl rfl ?_ | refine L_val (R_loadH (by assumption) rfl (by assumption) (by rfl)) rfl rfl rfl ?_) | (refine cL_fieldAddr ?_; refine L_val (R_fa rfl) rfl rfl rfl ?_) | (refine cL_nilCheck ?_; refine L_val (R_nil rfl) rfl rfl rfl ?_) | (refine cL_assign ?_; refine L_val R_assign rfl rfl rfl ?_) | (refine cL_call ?_; refine L_val (R_len rfl) rfl rfl rfl ?_) | (refine cL_eql ?_; first | refine L_val (R_eqPN rfl rfl) rfl rfl rfl ?_ | refine L_val (R_eqI rfl rfl) rfl rfl rfl ?_ | refine L_val (R_eqB rfl rfl) rfl rfl rfl ?_ | refine L_val (R_eqIfN rfl rfl) rfl rfl rfl ?_ | refine L_val (R_eqIfNN rfl) rfl rfl rfl ?_) | (refine cL_lss ?_; refine L_val (R_ltI rfl rfl) rfl rfl rfl ?_) | (refine cL_makeInterface ?_; refine L_val R_mkI rfl rfl rfl ?_) | (refine cL_add ?_; refine L_val (R_addI rfl rfl) rfl rfl rfl ?_) | refine L_nil ?_) | refine G_seq ?_ | refine G_region ?_ | refine G_skip ?_ | refine G_block ?_ | refine G_end ?_ | refine G_true rfl ?_ | refine G_false rfl ?_))
  (refine G_retF rfl ?_)
  exact ⟨_, rfl, H1, g1.trans (Grow.quiet hA1 hw2), by simp only [substT]; exact ⟨[], rfl, .param ha h0⟩, fun _ h _ => absurd rfl h⟩

theorem typ_own (how : 0 ≤ own) (hsh : shapedB (ds.take m) params own (.mk 3 n c b nm es) = true) : TypOK E ds p dcap bB own (.mk 3 n c b nm es) := by
  intro cs H w ts vs q qc hA hP hB ht hd hown hts hq
  obtain ⟨h0, hlt, rfl⟩ := headB_own2 (show headB (ds.take m) _ n c b es params own = true from shaped_head hsh) how
  obtain ⟨i, rfl⟩ := Int.eq_ofNat_of_zero_le h0
  simp only [DTy] at ht
  obtain ⟨p', cap, rfl, -, -, -, -, -⟩ := ht
  obtain ⟨t, hti⟩ : ∃ t, ts[i]? = some t := ⟨_, List.getElem?_eq_getElem (by omega)⟩
  obtain ⟨v, hv, hr⟩ := hts.at hti
  obtain ⟨-, g, off, gcs, T, rfl, hg, hgv⟩ := hq i v hv
  have hvl := (List.getElem?_eq_some_iff.1 hv).1
  (refine calls_enter Tryz.func13 Tryz.ntmps13 rfl rfl ?_)
  (repeat (first | (refine cL ?_; first | (refine cL_move ?_; refine L_val R_move rfl rfl rfl ?_) | (refine cL_load ?_; first | refine L_val (R_loadB rfl (by assumption) (by rfl)) rfl rfl rfl ?_ | refine L_val (R_loadH (by assumption) rfl (by assumption) (by rfl)) rfl rfl rfl ?_) | (refine cL_fieldAddr ?_; refine L_val (R_fa rfl) rfl rfl rfl ?_) | (refine cL_nilCheck ?_; refine L_val (R_nil rfl) rfl rfl rfl ?_) | (refine cL_assign ?_; refine L_val R_assign rfl rfl rfl ?_) | (refine cL_call ?_; refine L_val (R_len rfl) rfl rfl rfl ?_) | (refine cL_eql ?_; first | refine L_val (R_eqPN rfl rfl) rfl rfl rfl ?_ | refine L_val (R_eqI rfl rfl) rfl rfl rfl ?_ | refine L_val (R_eqB rfl rfl) rfl rfl rfl ?_ | refine L_val (R_eqIfN rfl rfl) rfl rfl rfl ?_ | refine L_val (R_eqIfNN rfl) rfl rfl rfl ?_) | (refine cL_lss ?_; refine L_val (R_ltI rfl rfl) rfl rfl rfl ?_) | (refine cL_makeInterface ?_; refine L_val R_mkI rfl rfl rfl ?_) | (refine cL_add ?_; refine L_val (R_addI rfl rfl) rfl rfl rfl ?_) | refine L_nil ?_) | refine G_seq ?_ | refine G_region ?_ | refine G_skip ?_ | refine G_block ?_ | refine G_end ?_ | refine G_true rfl ?_ | refine G_false rfl ?_))
  refine L_box rfl rfl rfl fun b4 w1 hn1 => ?_
  obtain ⟨H1, g1, hb4⟩ := Grow.ofNew hA hn1
  have hA1 := g1.ag
  have hg1 := g1.le _ _ hg
  (repeat (first | (refine cL ?_; first | (refine cL_move ?_; refine L_val R_move rfl rfl rfl ?_) | (refine cL_load ?_; first | refine L_val (R_loadH hA1 rfl hg1 hgv) rfl rfl rfl ?_ | refine L_val (R_loadB rfl (by assumption) (by rfl)) rfl rfl rfl ?_ | refine L_val (R_loadH (by assumption) rfl (by assumption) (by rfl)) rfl rfl rfl ?_) | (refine cL_fieldAddr ?_; refine L_val (R_fa rfl) rfl rfl rfl ?_) | (refine cL_nilCheck ?_; refine L_val (R_nil rfl) rfl rfl rfl ?_) | (refine cL_assign ?_; refine L_val R_assign rfl rfl rfl ?_) | (refine cL_call ?_; refine L_val (R_len rfl) rfl rfl rfl ?_) | (refine cL_eql ?_; first | refine L_val (R_eqPN rfl rfl) rfl rfl rfl ?_ | refine L_val (R_eqI rfl rfl) rfl rfl rfl ?_ | refine L_val (R_eqB rfl rfl) rfl rfl rfl ?_ | refine L_val (R_eqIfN rfl rfl) rfl rfl rfl ?_ | refine L_val (R_eqIfNN rfl) rfl rfl rfl ?_) | (refine cL_lss ?_; refine L_val (R_ltI rfl rfl) rfl rfl rfl ?_) | (refine cL_indexAddr ?_; refine L_valE (R_ia rfl rfl (by omega) (by omega)) (iaO _ _ _) rfl rfl rfl ?_) | (refine cL_makeInterface ?_; refine L_val R_mkI rfl rfl rfl ?_) | (refine cL_add ?_; refine L_val (R_addI rfl rfl) rfl rfl rfl ?_) | refine L_nil ?_) | refine G_seq ?_ | refine G_region ?_ | refine G_skip ?_ | refine G_block ?_ | refine G_end ?_ | refine G_true rfl ?_ | refine G_false rfl ?_))
  (refine G_retF rfl ?_)
  refine ⟨_, rfl, H1, g1, ?_, fun _ _ h => absurd rfl h⟩
  have e : substT ts (.mk 3 (i : Int) c b nm []) = t.setNm nm := by
    unfold substT
    rw [if_pos rfl, show ((i : Int).toNat) = i from rfl, hti]
    rfl
  rw [e]
  exact rep_setNm (Rep.mono g1.le _ _ hr)
end
end Go.Proofs.YtmmcjnfgcaefpaaGreatDoor

/-
  A part of the proof that laws.FnIdentical returns true at every input: the walk's own rules and the contracts of functions, in build order.
  Its conditions are those of the statement: see the last text.
-/
import Derived.Laws.AppendOwn
import Derived.Laws.Slices
import Derived.Test.YtmmcjnfgcaefpaaGreatDoorPartA

/-
  Identical types, first part: one pointer; types of different kinds.
-/
namespace Go.Proofs.YtmmcjnfgcaefpaaGreatDoor
set_option maxRecDepth 100000
set_option maxHeartbeats 4000000
attribute [local irreducible] Calls execOp

abbrev IdSays (c : Nat) (x y : Value) (r : Bool) (w : World) : Prop := Calls Tryz.prog 24 #[ptr c, x, y, .pointer none] w (Ret (Qt (.bool r) w))

/-- the comparer -/
def Cmp (H : Hp) (c : Nat) : Prop := H c = some (Ob [.bool false, .bool false] 66)

theorem peq_self (a : Nat) : peq (some ⟨a, 0, none⟩) (some ⟨a, 0, none⟩) = true := by simp [peq]
theorem peq_true {a b : Nat} (h : peq (some ⟨a, 0, none⟩) (some ⟨b, 0, none⟩) = true) : a = b := by
  simp only [peq, decide_eq_true_eq, Addr.mk.injEq, and_true] at h
  exact h
theorem peq_false {a b : Nat} (h : a ≠ b) : peq (some ⟨a, 0, none⟩) (some ⟨b, 0, none⟩) = false := by
  simp only [peq, decide_eq_false_iff_not, Addr.mk.injEq, and_true]
  exact h
theorem nbeq_self (T : Nat) : Nat.beq T T = true := by rw [Nat.beq_eq]

theorem id_eq {H : Hp} {c a T : Nat} [PtrEq Tryz.prog T] [CmpT Tryz.prog T] (w : World) (hA : Agree H w) (hl : LiveH H a) (hT : Nat.beq T 211 = false) : IdSays c (.iface T (ptr a)) (.iface T (ptr a)) true w := by
  have e : (Nat.beq T T && peq (some ⟨a, 0, none⟩) (some ⟨a, 0, none⟩)) = true := by rw [peq_self, nbeq_self]; rfl
  (refine calls_enter Tryz.func24 Tryz.ntmps24 rfl rfl ?_)
  (repeat (first | (refine cL ?_; first | (refine cL_guard ?_; refine L_unwanted rfl rfl rfl ?_) | (refine cL_move ?_; refine L_val R_move rfl rfl rfl ?_) | (refine cL_load ?_; first | refine L_val (R_loadB rfl (by assumption) (by rfl)) rfl rfl rfl ?_ | refine L_val (R_loadH (by assumption) rfl (by assumption) (by rfl)) rfl rfl rfl ?_) | (refine cL_fieldAddr ?_; refine L_val (R_fa rfl) rfl rfl rfl ?_) | (refine cL_nilCheck ?_; refine L_val (R_nil rfl) rfl rfl rfl ?_) | (refine cL_assign ?_; refine L_val R_assign rfl rfl rfl ?_) | (refine cL_extract ?_; refine L_val (R_extract rfl rfl) rfl rfl rfl ?_) | (refine cL_typeAssert ?_; first | refine L_val (R_taY rfl) rfl rfl rfl ?_ | refine L_val (R_taN rfl rfl) rfl rfl rfl ?_ | refine L_val (R_taNil rfl) rfl rfl rfl ?_) | (refine cL_call ?_; first | refine L_callI (unalias_any T _ _ hT) rfl rfl ?_ | refine L_val (R_len rfl) rfl rfl rfl ?_) | (refine cL_pick ?_; first | refine L_val (R_pickT rfl) rfl rfl rfl ?_ | refine L_val (R_pickF rfl) rfl rfl rfl ?_) | (refine cL_eql ?_; first | refine L_valB (R_eqIf rfl rfl (hA.live hl) (hA.live hl)) e rfl rfl rfl ?_ | refine L_val (R_eqPN rfl rfl) rfl rfl rfl ?_ | refine L_val (R_eqI rfl rfl) rfl rfl rfl ?_ | refine L_val (R_eqB rfl rfl) rfl rfl rfl ?_ | refine L_val (R_eqIfN rfl rfl) rfl rfl rfl ?_ | refine L_val (R_eqIfNN rfl) rfl rfl rfl ?_) | (refine cL_neq ?_; first | refine L_val (R_nePN rfl rfl) rfl rfl rfl ?_ | refine L_val (R_neI rfl rfl) rfl rfl rfl ?_ | refine L_val (R_neB rfl rfl) rfl rfl rfl ?_ | refine L_val (R_neIfN rfl rfl) rfl rfl rfl ?_ | refine L_val (R_neIfNN rfl) rfl rfl rfl ?_) | (refine cL_lss ?_; refine L_val (R_ltI rfl rfl) rfl rfl rfl ?_) | (refine cL_makeInterface ?_; refine L_val R_mkI rfl rfl rfl ?_) | (refine cL_not ?_; refine L_val (R_not rfl) rfl rfl rfl ?_) | (refine cL_add ?_; refine L_val (R_addI rfl rfl) rfl rfl rfl ?_) | refine L_nil ?_) | refine G_seq ?_ | refine G_region ?_ | refine G_skip ?_ | refine G_block ?_ | refine G_end ?_ | refine G_true rfl ?_ | refine G_false rfl ?_))
  (refine G_retF rfl ?_)
  exact ⟨_, rfl, rfl, Ext.refl _ _⟩

section
variable {H : Hp} {c a b T : Nat} (w : World) (hA : Agree H w) (hc : Cmp H c) (hl : LiveH H a) (hl' : LiveH H b)
include hA hc hl hl'

theorem id_ne_basic (hT : Nat.beq T 211 = false) (hne : Nat.beq T 130 = false) (hne' : Nat.beq 130 T = false) : IdSays c (.iface 130 (ptr a)) (.iface T (ptr b)) false w := by
  have e : (Nat.beq 130 T && peq (some ⟨a, 0, none⟩) (some ⟨b, 0, none⟩)) = false := by rw [hne', Bool.false_and]
  unfold Cmp at hc
  (refine calls_enter Tryz.func24 Tryz.ntmps24 rfl rfl ?_)
  (repeat (first | (refine cL ?_; first | (refine cL_guard ?_; refine L_unwanted rfl rfl rfl ?_) | (refine cL_move ?_; refine L_val R_move rfl rfl rfl ?_) | (refine cL_load ?_; first | refine L_val (R_loadB rfl (by assumption) (by rfl)) rfl rfl rfl ?_ | refine L_val (R_loadH (by assumption) rfl (by assumption) (by rfl)) rfl rfl rfl ?_) | (refine cL_fieldAddr ?_; refine L_val (R_fa rfl) rfl rfl rfl ?_) | (refine cL_nilCheck ?_; refine L_val (R_nil rfl) rfl rfl rfl ?_) | (refine cL_assign ?_; refine L_val R_assign rfl rfl rfl ?_) | (refine cL_extract ?_; refine L_val (R_extract rfl rfl) rfl rfl rfl ?_) | (refine cL_typeAssert ?_; first | refine L_val (R_taN rfl hne) rfl rfl rfl ?_ | refine L_val (R_taY rfl) rfl rfl rfl ?_ | refine L_val (R_taN rfl rfl) rfl rfl rfl ?_ | refine L_val (R_taNil rfl) rfl rfl rfl ?_) | (refine cL_call ?_; first | refine L_callI (unalias_any _ _ _ rfl) rfl rfl ?_ | refine L_callI (unalias_any _ _ _ hT) rfl rfl ?_ | refine L_val (R_len rfl) rfl rfl rfl ?_) | (refine cL_pick ?_; first | refine L_val (R_pickT rfl) rfl rfl rfl ?_ | refine L_val (R_pickF rfl) rfl rfl rfl ?_) | (refine cL_eql ?_; first | refine L_valB (R_eqIf rfl rfl (hA.live hl) (hA.live hl')) e rfl rfl rfl ?_ | refine L_val (R_eqPN rfl rfl) rfl rfl rfl ?_ | refine L_val (R_eqI rfl rfl) rfl rfl rfl ?_ | refine L_val (R_eqB rfl rfl) rfl rfl rfl ?_ | refine L_val (R_eqIfN rfl rfl) rfl rfl rfl ?_ | refine L_val (R_eqIfNN rfl) rfl rfl rfl ?_) | (refine cL_neq ?_; first | refine L_val (R_nePN rfl rfl) rfl rfl rfl ?_ | refine L_val (R_neI rfl rfl) rfl rfl rfl ?_ | refine L_val (R_neB rfl rfl) rfl rfl rfl ?_ | refine L_val (R_neIfN rfl rfl) rfl rfl rfl ?_ | refine L_val (R_neIfNN rfl) rfl rfl rfl ?_) | (refine cL_lss ?_; refine L_val (R_ltI rfl rfl) rfl rfl rfl ?_) | (refine cL_makeInterface ?_; refine L_val R_mkI rfl rfl rfl ?_) | (refine cL_not ?_; refine L_val (R_not rfl) rfl rfl rfl ?_) | (refine cL_add ?_; refine L_val (R_addI rfl rfl) rfl rfl rfl ?_) | refine L_nil ?_) | refine G_seq ?_ | refine G_region ?_ | refine G_skip ?_ | refine G_block ?_ | refine G_end ?_ | refine G_true rfl ?_ | refine G_false rfl ?_))
  (refine G_retF rfl ?_)
  exact ⟨_, rfl, rfl, Ext.refl _ _⟩

theorem id_ne_array (hT : Nat.beq T 211 = false) (hne : Nat.beq T 75 = false) (hne' : Nat.beq 75 T = false) : IdSays c (.iface 75 (ptr a)) (.iface T (ptr b)) false w := by
  have e : (Nat.beq 75 T && peq (some ⟨a, 0, none⟩) (some ⟨b, 0, none⟩)) = false := by rw [hne', Bool.false_and]
  unfold Cmp at hc
  (refine calls_enter Tryz.func24 Tryz.ntmps24 rfl rfl ?_)
  (repeat (first | (refine cL ?_; first | (refine cL_guard ?_; refine L_unwanted rfl rfl rfl ?_) | (refine cL_move ?_; refine L_val R_move rfl rfl rfl ?_) | (refine cL_load ?_; first | refine L_val (R_loadB rfl (by assumption) (by rfl)) rfl rfl rfl ?_ | refine L_val (R_loadH (by assumption) rfl (by assumption) (by rfl)) rfl rfl rfl ?_) | (refine cL_fieldAddr ?_; refine L_val (R_fa rfl) rfl rfl rfl ?_) | (refine cL_nilCheck ?_; refine L_val (R_nil rfl) rfl rfl rfl ?_) | (refine cL_assign ?_; refine L_val R_assign rfl rfl rfl ?_) | (refine cL_extract ?_; refine L_val (R_extract rfl rfl) rfl rfl rfl ?_) | (refine cL_typeAssert ?_; first | refine L_val (R_taN rfl hne) rfl rfl rfl ?_ | refine L_val (R_taY rfl) rfl rfl rfl ?_ | refine L_val (R_taN rfl rfl) rfl rfl rfl ?_ | refine L_val (R_taNil rfl) rfl rfl rfl ?_) | (refine cL_call ?_; first | refine L_callI (unalias_any _ _ _ rfl) rfl rfl ?_ | refine L_callI (unalias_any _ _ _ hT) rfl rfl ?_ | refine L_val (R_len rfl) rfl rfl rfl ?_) | (refine cL_pick ?_; first | refine L_val (R_pickT rfl) rfl rfl rfl ?_ | refine L_val (R_pickF rfl) rfl rfl rfl ?_) | (refine cL_eql ?_; first | refine L_valB (R_eqIf rfl rfl (hA.live hl) (hA.live hl')) e rfl rfl rfl ?_ | refine L_val (R_eqPN rfl rfl) rfl rfl rfl ?_ | refine L_val (R_eqI rfl rfl) rfl rfl rfl ?_ | refine L_val (R_eqB rfl rfl) rfl rfl rfl ?_ | refine L_val (R_eqIfN rfl rfl) rfl rfl rfl ?_ | refine L_val (R_eqIfNN rfl) rfl rfl rfl ?_) | (refine cL_neq ?_; first | refine L_val (R_nePN rfl rfl) rfl rfl rfl ?_ | refine L_val (R_neI rfl rfl) rfl rfl rfl ?_ | refine L_val (R_neB rfl rfl) rfl rfl rfl ?_ | refine L_val (R_neIfN rfl rfl) rfl rfl rfl ?_ | refine L_val (R_neIfNN rfl) rfl rfl rfl ?_) | (refine cL_lss ?_; refine L_val (R_ltI rfl rfl) rfl rfl rfl ?_) | (refine cL_makeInterface ?_; refine L_val R_mkI rfl rfl rfl ?_) | (refine cL_not ?_; refine L_val (R_not rfl) rfl rfl rfl ?_) | (refine cL_add ?_; refine L_val (R_addI rfl rfl) rfl rfl rfl ?_) | refine L_nil ?_) | refine G_seq ?_ | refine G_region ?_ | refine G_skip ?_ | refine G_block ?_ | refine G_end ?_ | refine G_true rfl ?_ | refine G_false rfl ?_))
  (refine G_retF rfl ?_)
  exact ⟨_, rfl, rfl, Ext.refl _ _⟩

theorem id_ne_slice (hT : Nat.beq T 211 = false) (hne : Nat.beq T 73 = false) (hne' : Nat.beq 73 T = false) : IdSays c (.iface 73 (ptr a)) (.iface T (ptr b)) false w := by
  have e : (Nat.beq 73 T && peq (some ⟨a, 0, none⟩) (some ⟨b, 0, none⟩)) = false := by rw [hne', Bool.false_and]
  unfold Cmp at hc
  (refine calls_enter Tryz.func24 Tryz.ntmps24 rfl rfl ?_)
  (repeat (first | (refine cL ?_; first | (refine cL_guard ?_; refine L_unwanted rfl rfl rfl ?_) | (refine cL_move ?_; refine L_val R_move rfl rfl rfl ?_) | (refine cL_load ?_; first | refine L_val (R_loadB rfl (by assumption) (by rfl)) rfl rfl rfl ?_ | refine L_val (R_loadH (by assumption) rfl (by assumption) (by rfl)) rfl rfl rfl ?_) | (refine cL_fieldAddr ?_; refine L_val (R_fa rfl) rfl rfl rfl ?_) | (refine cL_nilCheck ?_; refine L_val (R_nil rfl) rfl rfl rfl ?_) | (refine cL_assign ?_; refine L_val R_assign rfl rfl rfl ?_) | (refine cL_extract ?_; refine L_val (R_extract rfl rfl) rfl rfl rfl ?_) | (refine cL_typeAssert ?_; first | refine L_val (R_taN rfl hne) rfl rfl rfl ?_ | refine L_val (R_taY rfl) rfl rfl rfl ?_ | refine L_val (R_taN rfl rfl) rfl rfl rfl ?_ | refine L_val (R_taNil rfl) rfl rfl rfl ?_) | (refine cL_call ?_; first | refine L_callI (unalias_any _ _ _ rfl) rfl rfl ?_ | refine L_callI (unalias_any _ _ _ hT) rfl rfl ?_ | refine L_val (R_len rfl) rfl rfl rfl ?_) | (refine cL_pick ?_; first | refine L_val (R_pickT rfl) rfl rfl rfl ?_ | refine L_val (R_pickF rfl) rfl rfl rfl ?_) | (refine cL_eql ?_; first | refine L_valB (R_eqIf rfl rfl (hA.live hl) (hA.live hl')) e rfl rfl rfl ?_ | refine L_val (R_eqPN rfl rfl) rfl rfl rfl ?_ | refine L_val (R_eqI rfl rfl) rfl rfl rfl ?_ | refine L_val (R_eqB rfl rfl) rfl rfl rfl ?_ | refine L_val (R_eqIfN rfl rfl) rfl rfl rfl ?_ | refine L_val (R_eqIfNN rfl) rfl rfl rfl ?_) | (refine cL_neq ?_; first | refine L_val (R_nePN rfl rfl) rfl rfl rfl ?_ | refine L_val (R_neI rfl rfl) rfl rfl rfl ?_ | refine L_val (R_neB rfl rfl) rfl rfl rfl ?_ | refine L_val (R_neIfN rfl rfl) rfl rfl rfl ?_ | refine L_val (R_neIfNN rfl) rfl rfl rfl ?_) | (refine cL_lss ?_; refine L_val (R_ltI rfl rfl) rfl rfl rfl ?_) | (refine cL_makeInterface ?_; refine L_val R_mkI rfl rfl rfl ?_) | (refine cL_not ?_; refine L_val (R_not rfl) rfl rfl rfl ?_) | (refine cL_add ?_; refine L_val (R_addI rfl rfl) rfl rfl rfl ?_) | refine L_nil ?_) | refine G_seq ?_ | refine G_region ?_ | refine G_skip ?_ | refine G_block ?_ | refine G_end ?_ | refine G_true rfl ?_ | refine G_false rfl ?_))
  (refine G_retF rfl ?_)
  exact ⟨_, rfl, rfl, Ext.refl _ _⟩

theorem id_ne_struct (hT : Nat.beq T 211 = false) (hne : Nat.beq T 87 = false) (hne' : Nat.beq 87 T = false) : IdSays c (.iface 87 (ptr a)) (.iface T (ptr b)) false w := by
  have e : (Nat.beq 87 T && peq (some ⟨a, 0, none⟩) (some ⟨b, 0, none⟩)) = false := by rw [hne', Bool.false_and]
  unfold Cmp at hc
  (refine calls_enter Tryz.func24 Tryz.ntmps24 rfl rfl ?_)
  (repeat (first | (refine cL ?_; first | (refine cL_guard ?_; refine L_unwanted rfl rfl rfl ?_) | (refine cL_move ?_; refine L_val R_move rfl rfl rfl ?_) | (refine cL_load ?_; first | refine L_val (R_loadB rfl (by assumption) (by rfl)) rfl rfl rfl ?_ | refine L_val (R_loadH (by assumption) rfl (by assumption) (by rfl)) rfl rfl rfl ?_) | (refine cL_fieldAddr ?_; refine L_val (R_fa rfl) rfl rfl rfl ?_) | (refine cL_nilCheck ?_; refine L_val (R_nil rfl) rfl rfl rfl ?_) | (refine cL_assign ?_; refine L_val R_assign rfl rfl rfl ?_) | (refine cL_extract ?_; refine L_val (R_extract rfl rfl) rfl rfl rfl ?_) | (refine cL_typeAssert ?_; first | refine L_val (R_taN rfl hne) rfl rfl rfl ?_ | refine L_val (R_taY rfl) rfl rfl rfl ?_ | refine L_val (R_taN rfl rfl) rfl rfl rfl ?_ | refine L_val (R_taNil rfl) rfl rfl rfl ?_) | (refine cL_call ?_; first | refine L_callI (unalias_any _ _ _ rfl) rfl rfl ?_ | refine L_callI (unalias_any _ _ _ hT) rfl rfl ?_ | refine L_val (R_len rfl) rfl rfl rfl ?_) | (refine cL_pick ?_; first | refine L_val (R_pickT rfl) rfl rfl rfl ?_ | refine L_val (R_pickF rfl) rfl rfl rfl ?_) | (refine cL_eql ?_; first | refine L_valB (R_eqIf rfl rfl (hA.live hl) (hA.live hl')) e rfl rfl rfl ?_ | refine L_val (R_eqPN rfl rfl) rfl rfl rfl ?_ | refine L_val (R_eqI rfl rfl) rfl rfl rfl ?_ | refine L_val (R_eqB rfl rfl) rfl rfl rfl ?_ | refine L_val (R_eqIfN rfl rfl) rfl rfl rfl ?_ | refine L_val (R_eqIfNN rfl) rfl rfl rfl ?_) | (refine cL_neq ?_; first | refine L_val (R_nePN rfl rfl) rfl rfl rfl ?_ | refine L_val (R_neI rfl rfl) rfl rfl rfl ?_ | refine L_val (R_neB rfl rfl) rfl rfl rfl ?_ | refine L_val (R_neIfN rfl rfl) rfl rfl rfl ?_ | refine L_val (R_neIfNN rfl) rfl rfl rfl ?_) | (refine cL_lss ?_; refine L_val (R_ltI rfl rfl) rfl rfl rfl ?_) | (refine cL_makeInterface ?_; refine L_val R_mkI rfl rfl rfl ?_) | (refine cL_not ?_; refine L_val (R_not rfl) rfl rfl rfl ?_) | (refine cL_add ?_; refine L_val (R_addI rfl rfl) rfl rfl rfl ?_) | refine L_nil ?_) | refine G_seq ?_ | refine G_region ?_ | refine G_skip ?_ | refine G_block ?_ | refine G_end ?_ | refine G_true rfl ?_ | refine G_false rfl ?_))
  (refine G_retF rfl ?_)
  exact ⟨_, rfl, rfl, Ext.refl _ _⟩

theorem id_ne_pointer (hT : Nat.beq T 211 = false) (hne : Nat.beq T 71 = false) (hne' : Nat.beq 71 T = false) : IdSays c (.iface 71 (ptr a)) (.iface T (ptr b)) false w := by
  have e : (Nat.beq 71 T && peq (some ⟨a, 0, none⟩) (some ⟨b, 0, none⟩)) = false := by rw [hne', Bool.false_and]
  unfold Cmp at hc
  (refine calls_enter Tryz.func24 Tryz.ntmps24 rfl rfl ?_)
  (repeat (first | (refine cL ?_; first | (refine cL_guard ?_; refine L_unwanted rfl rfl rfl ?_) | (refine cL_move ?_; refine L_val R_move rfl rfl rfl ?_) | (refine cL_load ?_; first | refine L_val (R_loadB rfl (by assumption) (by rfl)) rfl rfl rfl ?_ | refine L_val (R_loadH (by assumption) rfl (by assumption) (by rfl)) rfl rfl rfl ?_) | (refine cL_fieldAddr ?_; refine L_val (R_fa rfl) rfl rfl rfl ?_) | (refine cL_nilCheck ?_; refine L_val (R_nil rfl) rfl rfl rfl ?_) | (refine cL_assign ?_; refine L_val R_assign rfl rfl rfl ?_) | (refine cL_extract ?_; refine L_val (R_extract rfl rfl) rfl rfl rfl ?_) | (refine cL_typeAssert ?_; first | refine L_val (R_taN rfl hne) rfl rfl rfl ?_ | refine L_val (R_taY rfl) rfl rfl rfl ?_ | refine L_val (R_taN rfl rfl) rfl rfl rfl ?_ | refine L_val (R_taNil rfl) rfl rfl rfl ?_) | (refine cL_call ?_; first | refine L_callI (unalias_any _ _ _ rfl) rfl rfl ?_ | refine L_callI (unalias_any _ _ _ hT) rfl rfl ?_ | refine L_val (R_len rfl) rfl rfl rfl ?_) | (refine cL_pick ?_; first | refine L_val (R_pickT rfl) rfl rfl rfl ?_ | refine L_val (R_pickF rfl) rfl rfl rfl ?_) | (refine cL_eql ?_; first | refine L_valB (R_eqIf rfl rfl (hA.live hl) (hA.live hl')) e rfl rfl rfl ?_ | refine L_val (R_eqPN rfl rfl) rfl rfl rfl ?_ | refine L_val (R_eqI rfl rfl) rfl rfl rfl ?_ | refine L_val (R_eqB rfl rfl) rfl rfl rfl ?_ | refine L_val (R_eqIfN rfl rfl) rfl rfl rfl ?_ | refine L_val (R_eqIfNN rfl) rfl rfl rfl ?_) | (refine cL_neq ?_; first | refine L_val (R_nePN rfl rfl) rfl rfl rfl ?_ | refine L_val (R_neI rfl rfl) rfl rfl rfl ?_ | refine L_val (R_neB rfl rfl) rfl rfl rfl ?_ | refine L_val (R_neIfN rfl rfl) rfl rfl rfl ?_ | refine L_val (R_neIfNN rfl) rfl rfl rfl ?_) | (refine cL_lss ?_; refine L_val (R_ltI rfl rfl) rfl rfl rfl ?_) | (refine cL_makeInterface ?_; refine L_val R_mkI rfl rfl rfl ?_) | (refine cL_not ?_; refine L_val (R_not rfl) rfl rfl rfl ?_) | (refine cL_add ?_; refine L_val (R_addI rfl rfl) rfl rfl rfl ?_) | refine L_nil ?_) | refine G_seq ?_ | refine G_region ?_ | refine G_skip ?_ | refine G_block ?_ | refine G_end ?_ | refine G_true rfl ?_ | refine G_false rfl ?_))
  (refine G_retF rfl ?_)
  exact ⟨_, rfl, rfl, Ext.refl _ _⟩

theorem id_ne_func (hT : Nat.beq T 211 = false) (hne : Nat.beq T 89 = false) (hne' : Nat.beq 89 T = false) : IdSays c (.iface 89 (ptr a)) (.iface T (ptr b)) false w := by
  have e : (Nat.beq 89 T && peq (some ⟨a, 0, none⟩) (some ⟨b, 0, none⟩)) = false := by rw [hne', Bool.false_and]
  unfold Cmp at hc
  (refine calls_enter Tryz.func24 Tryz.ntmps24 rfl rfl ?_)
  (repeat (first | (refine cL ?_; first | (refine cL_guard ?_; refine L_unwanted rfl rfl rfl ?_) | (refine cL_move ?_; refine L_val R_move rfl rfl rfl ?_) | (refine cL_load ?_; first | refine L_val (R_loadB rfl (by assumption) (by rfl)) rfl rfl rfl ?_ | refine L_val (R_loadH (by assumption) rfl (by assumption) (by rfl)) rfl rfl rfl ?_) | (refine cL_fieldAddr ?_; refine L_val (R_fa rfl) rfl rfl rfl ?_) | (refine cL_nilCheck ?_; refine L_val (R_nil rfl) rfl rfl rfl ?_) | (refine cL_assign ?_; refine L_val R_assign rfl rfl rfl ?_) | (refine cL_extract ?_; refine L_val (R_extract rfl rfl) rfl rfl rfl ?_) | (refine cL_typeAssert ?_; first | refine L_val (R_taN rfl hne) rfl rfl rfl ?_ | refine L_val (R_taY rfl) rfl rfl rfl ?_ | refine L_val (R_taN rfl rfl) rfl rfl rfl ?_ | refine L_val (R_taNil rfl) rfl rfl rfl ?_) | (refine cL_call ?_; first | refine L_callI (unalias_any _ _ _ rfl) rfl rfl ?_ | refine L_callI (unalias_any _ _ _ hT) rfl rfl ?_ | refine L_val (R_len rfl) rfl rfl rfl ?_) | (refine cL_pick ?_; first | refine L_val (R_pickT rfl) rfl rfl rfl ?_ | refine L_val (R_pickF rfl) rfl rfl rfl ?_) | (refine cL_eql ?_; first | refine L_valB (R_eqIf rfl rfl (hA.live hl) (hA.live hl')) e rfl rfl rfl ?_ | refine L_val (R_eqPN rfl rfl) rfl rfl rfl ?_ | refine L_val (R_eqI rfl rfl) rfl rfl rfl ?_ | refine L_val (R_eqB rfl rfl) rfl rfl rfl ?_ | refine L_val (R_eqIfN rfl rfl) rfl rfl rfl ?_ | refine L_val (R_eqIfNN rfl) rfl rfl rfl ?_) | (refine cL_neq ?_; first | refine L_val (R_nePN rfl rfl) rfl rfl rfl ?_ | refine L_val (R_neI rfl rfl) rfl rfl rfl ?_ | refine L_val (R_neB rfl rfl) rfl rfl rfl ?_ | refine L_val (R_neIfN rfl rfl) rfl rfl rfl ?_ | refine L_val (R_neIfNN rfl) rfl rfl rfl ?_) | (refine cL_lss ?_; refine L_val (R_ltI rfl rfl) rfl rfl rfl ?_) | (refine cL_makeInterface ?_; refine L_val R_mkI rfl rfl rfl ?_) | (refine cL_not ?_; refine L_val (R_not rfl) rfl rfl rfl ?_) | (refine cL_add ?_; refine L_val (R_addI rfl rfl) rfl rfl rfl ?_) | refine L_nil ?_) | refine G_seq ?_ | refine G_region ?_ | refine G_skip ?_ | refine G_block ?_ | refine G_end ?_ | refine G_true rfl ?_ | refine G_false rfl ?_))
  (refine G_retF rfl ?_)
  exact ⟨_, rfl, rfl, Ext.refl _ _⟩

theorem id_ne_map (hT : Nat.beq T 211 = false) (hne : Nat.beq T 77 = false) (hne' : Nat.beq 77 T = false) : IdSays c (.iface 77 (ptr a)) (.iface T (ptr b)) false w := by
  have e : (Nat.beq 77 T && peq (some ⟨a, 0, none⟩) (some ⟨b, 0, none⟩)) = false := by rw [hne', Bool.false_and]
  unfold Cmp at hc
  (refine calls_enter Tryz.func24 Tryz.ntmps24 rfl rfl ?_)
  (repeat (first | (refine cL ?_; first | (refine cL_guard ?_; refine L_unwanted rfl rfl rfl ?_) | (refine cL_move ?_; refine L_val R_move rfl rfl rfl ?_) | (refine cL_load ?_; first | refine L_val (R_loadB rfl (by assumption) (by rfl)) rfl rfl rfl ?_ | refine L_val (R_loadH (by assumption) rfl (by assumption) (by rfl)) rfl rfl rfl ?_) | (refine cL_fieldAddr ?_; refine L_val (R_fa rfl) rfl rfl rfl ?_) | (refine cL_nilCheck ?_; refine L_val (R_nil rfl) rfl rfl rfl ?_) | (refine cL_assign ?_; refine L_val R_assign rfl rfl rfl ?_) | (refine cL_extract ?_; refine L_val (R_extract rfl rfl) rfl rfl rfl ?_) | (refine cL_typeAssert ?_; first | refine L_val (R_taN rfl hne) rfl rfl rfl ?_ | refine L_val (R_taY rfl) rfl rfl rfl ?_ | refine L_val (R_taN rfl rfl) rfl rfl rfl ?_ | refine L_val (R_taNil rfl) rfl rfl rfl ?_) | (refine cL_call ?_; first | refine L_callI (unalias_any _ _ _ rfl) rfl rfl ?_ | refine L_callI (unalias_any _ _ _ hT) rfl rfl ?_ | refine L_val (R_len rfl) rfl rfl rfl ?_) | (refine cL_pick ?_; first | refine L_val (R_pickT rfl) rfl rfl rfl ?_ | refine L_val (R_pickF rfl) rfl rfl rfl ?_) | (refine cL_eql ?_; first | refine L_valB (R_eqIf rfl rfl (hA.live hl) (hA.live hl')) e rfl rfl rfl ?_ | refine L_val (R_eqPN rfl rfl) rfl rfl rfl ?_ | refine L_val (R_eqI rfl rfl) rfl rfl rfl ?_ | refine L_val (R_eqB rfl rfl) rfl rfl rfl ?_ | refine L_val (R_eqIfN rfl rfl) rfl rfl rfl ?_ | refine L_val (R_eqIfNN rfl) rfl rfl rfl ?_) | (refine cL_neq ?_; first | refine L_val (R_nePN rfl rfl) rfl rfl rfl ?_ | refine L_val (R_neI rfl rfl) rfl rfl rfl ?_ | refine L_val (R_neB rfl rfl) rfl rfl rfl ?_ | refine L_val (R_neIfN rfl rfl) rfl rfl rfl ?_ | refine L_val (R_neIfNN rfl) rfl rfl rfl ?_) | (refine cL_lss ?_; refine L_val (R_ltI rfl rfl) rfl rfl rfl ?_) | (refine cL_makeInterface ?_; refine L_val R_mkI rfl rfl rfl ?_) | (refine cL_not ?_; refine L_val (R_not rfl) rfl rfl rfl ?_) | (refine cL_add ?_; refine L_val (R_addI rfl rfl) rfl rfl rfl ?_) | refine L_nil ?_) | refine G_seq ?_ | refine G_region ?_ | refine G_skip ?_ | refine G_block ?_ | refine G_end ?_ | refine G_true rfl ?_ | refine G_false rfl ?_))
  (refine G_retF rfl ?_)
  exact ⟨_, rfl, rfl, Ext.refl _ _⟩

theorem id_ne_chan (hT : Nat.beq T 211 = false) (hne : Nat.beq T 79 = false) (hne' : Nat.beq 79 T = false) : IdSays c (.iface 79 (ptr a)) (.iface T (ptr b)) false w := by
  have e : (Nat.beq 79 T && peq (some ⟨a, 0, none⟩) (some ⟨b, 0, none⟩)) = false := by rw [hne', Bool.false_and]
  unfold Cmp at hc
  (refine calls_enter Tryz.func24 Tryz.ntmps24 rfl rfl ?_)
  (repeat (first | (refine cL ?_; first | (refine cL_guard ?_; refine L_unwanted rfl rfl rfl ?_) | (refine cL_move ?_; refine L_val R_move rfl rfl rfl ?_) | (refine cL_load ?_; first | refine L_val (R_loadB rfl (by assumption) (by rfl)) rfl rfl rfl ?_ | refine L_val (R_loadH (by assumption) rfl (by assumption) (by rfl)) rfl rfl rfl ?_) | (refine cL_fieldAddr ?_; refine L_val (R_fa rfl) rfl rfl rfl ?_) | (refine cL_nilCheck ?_; refine L_val (R_nil rfl) rfl rfl rfl ?_) | (refine cL_assign ?_; refine L_val R_assign rfl rfl rfl ?_) | (refine cL_extract ?_; refine L_val (R_extract rfl rfl) rfl rfl rfl ?_) | (refine cL_typeAssert ?_; first | refine L_val (R_taN rfl hne) rfl rfl rfl ?_ | refine L_val (R_taY rfl) rfl rfl rfl ?_ | refine L_val (R_taN rfl rfl) rfl rfl rfl ?_ | refine L_val (R_taNil rfl) rfl rfl rfl ?_) | (refine cL_call ?_; first | refine L_callI (unalias_any _ _ _ rfl) rfl rfl ?_ | refine L_callI (unalias_any _ _ _ hT) rfl rfl ?_ | refine L_val (R_len rfl) rfl rfl rfl ?_) | (refine cL_pick ?_; first | refine L_val (R_pickT rfl) rfl rfl rfl ?_ | refine L_val (R_pickF rfl) rfl rfl rfl ?_) | (refine cL_eql ?_; first | refine L_valB (R_eqIf rfl rfl (hA.live hl) (hA.live hl')) e rfl rfl rfl ?_ | refine L_val (R_eqPN rfl rfl) rfl rfl rfl ?_ | refine L_val (R_eqI rfl rfl) rfl rfl rfl ?_ | refine L_val (R_eqB rfl rfl) rfl rfl rfl ?_ | refine L_val (R_eqIfN rfl rfl) rfl rfl rfl ?_ | refine L_val (R_eqIfNN rfl) rfl rfl rfl ?_) | (refine cL_neq ?_; first | refine L_val (R_nePN rfl rfl) rfl rfl rfl ?_ | refine L_val (R_neI rfl rfl) rfl rfl rfl ?_ | refine L_val (R_neB rfl rfl) rfl rfl rfl ?_ | refine L_val (R_neIfN rfl rfl) rfl rfl rfl ?_ | refine L_val (R_neIfNN rfl) rfl rfl rfl ?_) | (refine cL_lss ?_; refine L_val (R_ltI rfl rfl) rfl rfl rfl ?_) | (refine cL_makeInterface ?_; refine L_val R_mkI rfl rfl rfl ?_) | (refine cL_not ?_; refine L_val (R_not rfl) rfl rfl rfl ?_) | (refine cL_add ?_; refine L_val (R_addI rfl rfl) rfl rfl rfl ?_) | refine L_nil ?_) | refine G_seq ?_ | refine G_region ?_ | refine G_skip ?_ | refine G_block ?_ | refine G_end ?_ | refine G_true rfl ?_ | refine G_false rfl ?_))
  (refine G_retF rfl ?_)
  exact ⟨_, rfl, rfl, Ext.refl _ _⟩

theorem id_ne_named (hT : Nat.beq T 211 = false) (hne : Nat.beq T 63 = false) (hne' : Nat.beq 63 T = false) : IdSays c (.iface 63 (ptr a)) (.iface T (ptr b)) false w := by
  have e : (Nat.beq 63 T && peq (some ⟨a, 0, none⟩) (some ⟨b, 0, none⟩)) = false := by rw [hne', Bool.false_and]
  unfold Cmp at hc
  (refine calls_enter Tryz.func24 Tryz.ntmps24 rfl rfl ?_)
  (repeat (first | (refine cL ?_; first | (refine cL_guard ?_; refine L_unwanted rfl rfl rfl ?_) | (refine cL_move ?_; refine L_val R_move rfl rfl rfl ?_) | (refine cL_load ?_; first | refine L_val (R_loadB rfl (by assumption) (by rfl)) rfl rfl rfl ?_ | refine L_val (R_loadH (by assumption) rfl (by assumption) (by rfl)) rfl rfl rfl ?_) | (refine cL_fieldAddr ?_; refine L_val (R_fa rfl) rfl rfl rfl ?_) | (refine cL_nilCheck ?_; refine L_val (R_nil rfl) rfl rfl rfl ?_) | (refine cL_assign ?_; refine L_val R_assign rfl rfl rfl ?_) | (refine cL_extract ?_; refine L_val (R_extract rfl rfl) rfl rfl rfl ?_) | (refine cL_typeAssert ?_; first | refine L_val (R_taN rfl hne) rfl rfl rfl ?_ | refine L_val (R_taY rfl) rfl rfl rfl ?_ | refine L_val (R_taN rfl rfl) rfl rfl rfl ?_ | refine L_val (R_taNil rfl) rfl rfl rfl ?_) | (refine cL_call ?_; first | refine L_callI (unalias_any _ _ _ rfl) rfl rfl ?_ | refine L_callI (unalias_any _ _ _ hT) rfl rfl ?_ | refine L_callI (asNamed_no _ _ _ hT hne) rfl rfl ?_ | refine L_val (R_len rfl) rfl rfl rfl ?_) | (refine cL_pick ?_; first | refine L_val (R_pickT rfl) rfl rfl rfl ?_ | refine L_val (R_pickF rfl) rfl rfl rfl ?_) | (refine cL_eql ?_; first | refine L_valB (R_eqIf rfl rfl (hA.live hl) (hA.live hl')) e rfl rfl rfl ?_ | refine L_val (R_eqPN rfl rfl) rfl rfl rfl ?_ | refine L_val (R_eqI rfl rfl) rfl rfl rfl ?_ | refine L_val (R_eqB rfl rfl) rfl rfl rfl ?_ | refine L_val (R_eqIfN rfl rfl) rfl rfl rfl ?_ | refine L_val (R_eqIfNN rfl) rfl rfl rfl ?_) | (refine cL_neq ?_; first | refine L_val (R_nePN rfl rfl) rfl rfl rfl ?_ | refine L_val (R_neI rfl rfl) rfl rfl rfl ?_ | refine L_val (R_neB rfl rfl) rfl rfl rfl ?_ | refine L_val (R_neIfN rfl rfl) rfl rfl rfl ?_ | refine L_val (R_neIfNN rfl) rfl rfl rfl ?_) | (refine cL_lss ?_; refine L_val (R_ltI rfl rfl) rfl rfl rfl ?_) | (refine cL_makeInterface ?_; refine L_val R_mkI rfl rfl rfl ?_) | (refine cL_not ?_; refine L_val (R_not rfl) rfl rfl rfl ?_) | (refine cL_add ?_; refine L_val (R_addI rfl rfl) rfl rfl rfl ?_) | refine L_nil ?_) | refine G_seq ?_ | refine G_region ?_ | refine G_skip ?_ | refine G_block ?_ | refine G_end ?_ | refine G_true rfl ?_ | refine G_false rfl ?_))
  (refine G_retF rfl ?_)
  exact ⟨_, rfl, rfl, Ext.refl _ _⟩

theorem id_ne_param (hT : Nat.beq T 211 = false) (e : (Nat.beq 55 T && peq (some ⟨a, 0, none⟩) (some ⟨b, 0, none⟩)) = false) : IdSays c (.iface 55 (ptr a)) (.iface T (ptr b)) false w := by
  unfold Cmp at hc
  (refine calls_enter Tryz.func24 Tryz.ntmps24 rfl rfl ?_)
  (repeat (first | (refine cL ?_; first | (refine cL_guard ?_; refine L_unwanted rfl rfl rfl ?_) | (refine cL_move ?_; refine L_val R_move rfl rfl rfl ?_) | (refine cL_load ?_; first | refine L_val (R_loadB rfl (by assumption) (by rfl)) rfl rfl rfl ?_ | refine L_val (R_loadH (by assumption) rfl (by assumption) (by rfl)) rfl rfl rfl ?_) | (refine cL_fieldAddr ?_; refine L_val (R_fa rfl) rfl rfl rfl ?_) | (refine cL_nilCheck ?_; refine L_val (R_nil rfl) rfl rfl rfl ?_) | (refine cL_assign ?_; refine L_val R_assign rfl rfl rfl ?_) | (refine cL_extract ?_; refine L_val (R_extract rfl rfl) rfl rfl rfl ?_) | (refine cL_typeAssert ?_; first | refine L_val (R_taY rfl) rfl rfl rfl ?_ | refine L_val (R_taN rfl rfl) rfl rfl rfl ?_ | refine L_val (R_taNil rfl) rfl rfl rfl ?_) | (refine cL_call ?_; first | refine L_callI (unalias_any _ _ _ rfl) rfl rfl ?_ | refine L_callI (unalias_any _ _ _ hT) rfl rfl ?_ | refine L_val (R_len rfl) rfl rfl rfl ?_) | (refine cL_pick ?_; first | refine L_val (R_pickT rfl) rfl rfl rfl ?_ | refine L_val (R_pickF rfl) rfl rfl rfl ?_) | (refine cL_eql ?_; first | refine L_valB (R_eqIf rfl rfl (hA.live hl) (hA.live hl')) e rfl rfl rfl ?_ | refine L_val (R_eqPN rfl rfl) rfl rfl rfl ?_ | refine L_val (R_eqI rfl rfl) rfl rfl rfl ?_ | refine L_val (R_eqB rfl rfl) rfl rfl rfl ?_ | refine L_val (R_eqIfN rfl rfl) rfl rfl rfl ?_ | refine L_val (R_eqIfNN rfl) rfl rfl rfl ?_) | (refine cL_neq ?_; first | refine L_val (R_nePN rfl rfl) rfl rfl rfl ?_ | refine L_val (R_neI rfl rfl) rfl rfl rfl ?_ | refine L_val (R_neB rfl rfl) rfl rfl rfl ?_ | refine L_val (R_neIfN rfl rfl) rfl rfl rfl ?_ | refine L_val (R_neIfNN rfl) rfl rfl rfl ?_) | (refine cL_lss ?_; refine L_val (R_ltI rfl rfl) rfl rfl rfl ?_) | (refine cL_makeInterface ?_; refine L_val R_mkI rfl rfl rfl ?_) | (refine cL_not ?_; refine L_val (R_not rfl) rfl rfl rfl ?_) | (refine cL_add ?_; refine L_val (R_addI rfl rfl) rfl rfl rfl ?_) | refine L_nil ?_) | refine G_seq ?_ | refine G_region ?_ | refine G_skip ?_ | refine G_block ?_ | refine G_end ?_ | refine G_true rfl ?_ | refine G_false rfl ?_))
  (refine G_retF rfl ?_)
  exact ⟨_, rfl, rfl, Ext.refl _ _⟩
end
end Go.Proofs.YtmmcjnfgcaefpaaGreatDoor

/-
  Identical types, second part: types of one kind without lists.
-/
namespace Go.Proofs.YtmmcjnfgcaefpaaGreatDoor
set_option maxRecDepth 100000
set_option maxHeartbeats 4000000
attribute [local irreducible] Calls execOp

section
variable {H : Hp} {c a b : Nat} (w : World) (hA : Agree H w) (hc : Cmp H c)
include hA hc

theorem id_basic {n n' : Int} {i i' s s' : Value} (hx : H a = some (Ob [.int .i64 n, i, s] 135)) (hy : H b = some (Ob [.int .i64 n', i', s'] 135)) (e : (Nat.beq 130 130 && peq (some ⟨a, 0, none⟩) (some ⟨b, 0, none⟩)) = false) :
    IdSays c (.iface 130 (ptr a)) (.iface 130 (ptr b)) (n == n') w := by
  have hl : LiveH H a := ⟨_, _, _, hx⟩
  have hl' : LiveH H b := ⟨_, _, _, hy⟩
  have hAg : ∀ w', Ext No w w' → Agree H w' := fun _ he => hA.ext0 he
  unfold Cmp at hc
  (refine calls_enter Tryz.func24 Tryz.ntmps24 rfl rfl ?_)
  (repeat (first | (refine cL ?_; first | (refine cL_guard ?_; refine L_unwanted rfl rfl rfl ?_) | (refine cL_move ?_; refine L_val R_move rfl rfl rfl ?_) | (refine cL_load ?_; first | refine L_val (R_loadB rfl (by assumption) (by rfl)) rfl rfl rfl ?_ | refine L_val (R_loadH (by assumption) rfl (by assumption) (by rfl)) rfl rfl rfl ?_) | (refine cL_fieldAddr ?_; refine L_val (R_fa rfl) rfl rfl rfl ?_) | (refine cL_nilCheck ?_; refine L_val (R_nil rfl) rfl rfl rfl ?_) | (refine cL_assign ?_; refine L_val R_assign rfl rfl rfl ?_) | (refine cL_extract ?_; refine L_val (R_extract rfl rfl) rfl rfl rfl ?_) | (refine cL_typeAssert ?_; first | refine L_val (R_taY rfl) rfl rfl rfl ?_ | refine L_val (R_taN rfl rfl) rfl rfl rfl ?_ | refine L_val (R_taNil rfl) rfl rfl rfl ?_) | (refine cL_call ?_; first | refine L_callI (unalias_any _ _ _ rfl) rfl rfl ?_ | refine L_val (R_len rfl) rfl rfl rfl ?_) | (refine cL_pick ?_; first | refine L_val (R_pickT rfl) rfl rfl rfl ?_ | refine L_val (R_pickF rfl) rfl rfl rfl ?_) | (refine cL_eql ?_; first | refine L_valB (R_eqIf rfl rfl (hA.live hl) (hA.live hl')) e rfl rfl rfl ?_ | refine L_val (R_eqPN rfl rfl) rfl rfl rfl ?_ | refine L_val (R_eqI rfl rfl) rfl rfl rfl ?_ | refine L_val (R_eqB rfl rfl) rfl rfl rfl ?_ | refine L_val (R_eqIfN rfl rfl) rfl rfl rfl ?_ | refine L_val (R_eqIfNN rfl) rfl rfl rfl ?_) | (refine cL_neq ?_; first | refine L_val (R_nePN rfl rfl) rfl rfl rfl ?_ | refine L_val (R_neI rfl rfl) rfl rfl rfl ?_ | refine L_val (R_neB rfl rfl) rfl rfl rfl ?_ | refine L_val (R_neIfN rfl rfl) rfl rfl rfl ?_ | refine L_val (R_neIfNN rfl) rfl rfl rfl ?_) | (refine cL_lss ?_; refine L_val (R_ltI rfl rfl) rfl rfl rfl ?_) | (refine cL_makeInterface ?_; refine L_val R_mkI rfl rfl rfl ?_) | (refine cL_not ?_; refine L_val (R_not rfl) rfl rfl rfl ?_) | (refine cL_add ?_; refine L_val (R_addI rfl rfl) rfl rfl rfl ?_) | refine L_nil ?_) | refine G_seq ?_ | refine G_region ?_ | refine G_skip ?_ | refine G_block ?_ | refine G_end ?_ | refine G_true rfl ?_ | refine G_false rfl ?_))
  (refine G_draw No (0 :: 1 :: 2 :: 3 :: 4 :: 5 :: 6 :: 7 :: 8 :: 9 :: []) [] follows (by kernel_rfl) rfl ?_)
  (repeat (first | (refine cD_guard ?_; refine D_unwanted rfl rfl ?_) | (refine cD_move ?_; refine D_val0 (fun _ _ => R_move) rfl rfl ?_) | (refine cD_load ?_; refine D_val0 (fun w he => R_loadH (hAg w he) rfl (by assumption) (by rfl)) rfl rfl ?_) | (refine cD_fieldAddr ?_; refine D_val0 (fun _ _ => R_fa rfl) rfl rfl ?_) | (refine cD_nilCheck ?_; refine D_val0 (fun _ _ => R_nil rfl) rfl rfl ?_) | (refine cD_assign ?_; refine D_val0 (fun _ _ => R_assign) rfl rfl ?_) | (refine cD_extract ?_; refine D_val0 (fun _ _ => R_extract rfl rfl) rfl rfl ?_) | (refine cD_typeAssert ?_; first | refine D_val0 (fun _ _ => R_taY rfl) rfl rfl ?_ | refine D_val0 (fun _ _ => R_taN rfl rfl) rfl rfl ?_ | refine D_val0 (fun _ _ => R_taNil rfl) rfl rfl ?_) | (refine cD_call ?_; refine D_val0 (fun _ _ => R_len rfl) rfl rfl ?_) | (refine cD_pick ?_; first | refine D_val0 (fun _ _ => R_pickT rfl) rfl rfl ?_ | refine D_val0 (fun _ _ => R_pickF rfl) rfl rfl ?_) | (refine cD_eql ?_; first | refine D_val0 (fun _ _ => R_eqPN rfl rfl) rfl rfl ?_ | refine D_val0 (fun _ _ => R_eqI rfl rfl) rfl rfl ?_ | refine D_val0 (fun _ _ => R_eqB rfl rfl) rfl rfl ?_ | refine D_val0 (fun _ _ => R_eqIfN rfl rfl) rfl rfl ?_ | refine D_val0 (fun _ _ => R_eqIfNN rfl) rfl rfl ?_) | (refine cD_neq ?_; first | refine D_val0 (fun _ _ => R_nePN rfl rfl) rfl rfl ?_ | refine D_val0 (fun _ _ => R_neI rfl rfl) rfl rfl ?_ | refine D_val0 (fun _ _ => R_neB rfl rfl) rfl rfl ?_ | refine D_val0 (fun _ _ => R_neIfN rfl rfl) rfl rfl ?_ | refine D_val0 (fun _ _ => R_neIfNN rfl) rfl rfl ?_) | (refine cD_lss ?_; refine D_val0 (fun _ _ => R_ltI rfl rfl) rfl rfl ?_) | (refine cD_makeInterface ?_; refine D_val0 (fun _ _ => R_mkI) rfl rfl ?_) | (refine cD_not ?_; refine D_val0 (fun _ _ => R_not rfl) rfl rfl ?_) | (refine cD_add ?_; refine D_val0 (fun _ _ => R_addI rfl rfl) rfl rfl ?_)))
  refine D_nil fun w1 hw1 => ?_
  (repeat (first | (refine cL ?_; first | (refine cL_guard ?_; refine L_unwanted rfl rfl rfl ?_) | (refine cL_move ?_; refine L_val R_move rfl rfl rfl ?_) | (refine cL_load ?_; first | refine L_val (R_loadB rfl (by assumption) (by rfl)) rfl rfl rfl ?_ | refine L_val (R_loadH (by assumption) rfl (by assumption) (by rfl)) rfl rfl rfl ?_) | (refine cL_fieldAddr ?_; refine L_val (R_fa rfl) rfl rfl rfl ?_) | (refine cL_nilCheck ?_; refine L_val (R_nil rfl) rfl rfl rfl ?_) | (refine cL_assign ?_; refine L_val R_assign rfl rfl rfl ?_) | (refine cL_extract ?_; refine L_val (R_extract rfl rfl) rfl rfl rfl ?_) | (refine cL_typeAssert ?_; first | refine L_val (R_taY rfl) rfl rfl rfl ?_ | refine L_val (R_taN rfl rfl) rfl rfl rfl ?_ | refine L_val (R_taNil rfl) rfl rfl rfl ?_) | (refine cL_call ?_; refine L_val (R_len rfl) rfl rfl rfl ?_) | (refine cL_pick ?_; first | refine L_val (R_pickT rfl) rfl rfl rfl ?_ | refine L_val (R_pickF rfl) rfl rfl rfl ?_) | (refine cL_eql ?_; first | refine L_val (R_eqPN rfl rfl) rfl rfl rfl ?_ | refine L_val (R_eqI rfl rfl) rfl rfl rfl ?_ | refine L_val (R_eqB rfl rfl) rfl rfl rfl ?_ | refine L_val (R_eqIfN rfl rfl) rfl rfl rfl ?_ | refine L_val (R_eqIfNN rfl) rfl rfl rfl ?_) | (refine cL_neq ?_; first | refine L_val (R_nePN rfl rfl) rfl rfl rfl ?_ | refine L_val (R_neI rfl rfl) rfl rfl rfl ?_ | refine L_val (R_neB rfl rfl) rfl rfl rfl ?_ | refine L_val (R_neIfN rfl rfl) rfl rfl rfl ?_ | refine L_val (R_neIfNN rfl) rfl rfl rfl ?_) | (refine cL_lss ?_; refine L_val (R_ltI rfl rfl) rfl rfl rfl ?_) | (refine cL_makeInterface ?_; refine L_val R_mkI rfl rfl rfl ?_) | (refine cL_not ?_; refine L_val (R_not rfl) rfl rfl rfl ?_) | (refine cL_add ?_; refine L_val (R_addI rfl rfl) rfl rfl rfl ?_) | refine L_nil ?_) | refine G_seq ?_ | refine G_region ?_ | refine G_skip ?_ | refine G_block ?_ | refine G_end ?_ | refine G_true rfl ?_ | refine G_false rfl ?_))
  (refine G_retF rfl ?_)
  exact ⟨_, rfl, rfl, hw1⟩

theorem id_slice {v v' : Value} {r : Bool} (hx : H a = some (Ob [v] 141)) (hy : H b = some (Ob [v'] 141)) (e : (Nat.beq 73 73 && peq (some ⟨a, 0, none⟩) (some ⟨b, 0, none⟩)) = false)
    (ih : ∀ w', Agree H w' → IdSays c v v' r w') : IdSays c (.iface 73 (ptr a)) (.iface 73 (ptr b)) r w := by
  have hl : LiveH H a := ⟨_, _, _, hx⟩
  have hl' : LiveH H b := ⟨_, _, _, hy⟩
  have hAg : ∀ w', Ext No w w' → Agree H w' := fun _ he => hA.ext0 he
  unfold Cmp at hc
  (refine calls_enter Tryz.func24 Tryz.ntmps24 rfl rfl ?_)
  (repeat (first | (refine cL ?_; first | (refine cL_guard ?_; refine L_unwanted rfl rfl rfl ?_) | (refine cL_move ?_; refine L_val R_move rfl rfl rfl ?_) | (refine cL_load ?_; first | refine L_val (R_loadB rfl (by assumption) (by rfl)) rfl rfl rfl ?_ | refine L_val (R_loadH (by assumption) rfl (by assumption) (by rfl)) rfl rfl rfl ?_) | (refine cL_fieldAddr ?_; refine L_val (R_fa rfl) rfl rfl rfl ?_) | (refine cL_nilCheck ?_; refine L_val (R_nil rfl) rfl rfl rfl ?_) | (refine cL_assign ?_; refine L_val R_assign rfl rfl rfl ?_) | (refine cL_extract ?_; refine L_val (R_extract rfl rfl) rfl rfl rfl ?_) | (refine cL_typeAssert ?_; first | refine L_val (R_taY rfl) rfl rfl rfl ?_ | refine L_val (R_taN rfl rfl) rfl rfl rfl ?_ | refine L_val (R_taNil rfl) rfl rfl rfl ?_) | (refine cL_call ?_; first | refine L_callI (unalias_any _ _ _ rfl) rfl rfl ?_ | refine L_val (R_len rfl) rfl rfl rfl ?_) | (refine cL_pick ?_; first | refine L_val (R_pickT rfl) rfl rfl rfl ?_ | refine L_val (R_pickF rfl) rfl rfl rfl ?_) | (refine cL_eql ?_; first | refine L_valB (R_eqIf rfl rfl (hA.live hl) (hA.live hl')) e rfl rfl rfl ?_ | refine L_val (R_eqPN rfl rfl) rfl rfl rfl ?_ | refine L_val (R_eqI rfl rfl) rfl rfl rfl ?_ | refine L_val (R_eqB rfl rfl) rfl rfl rfl ?_ | refine L_val (R_eqIfN rfl rfl) rfl rfl rfl ?_ | refine L_val (R_eqIfNN rfl) rfl rfl rfl ?_) | (refine cL_neq ?_; first | refine L_val (R_nePN rfl rfl) rfl rfl rfl ?_ | refine L_val (R_neI rfl rfl) rfl rfl rfl ?_ | refine L_val (R_neB rfl rfl) rfl rfl rfl ?_ | refine L_val (R_neIfN rfl rfl) rfl rfl rfl ?_ | refine L_val (R_neIfNN rfl) rfl rfl rfl ?_) | (refine cL_lss ?_; refine L_val (R_ltI rfl rfl) rfl rfl rfl ?_) | (refine cL_makeInterface ?_; refine L_val R_mkI rfl rfl rfl ?_) | (refine cL_not ?_; refine L_val (R_not rfl) rfl rfl rfl ?_) | (refine cL_add ?_; refine L_val (R_addI rfl rfl) rfl rfl rfl ?_) | refine L_nil ?_) | refine G_seq ?_ | refine G_region ?_ | refine G_skip ?_ | refine G_block ?_ | refine G_end ?_ | refine G_true rfl ?_ | refine G_false rfl ?_))
  (refine G_draw No (0 :: 1 :: 2 :: 3 :: 4 :: 5 :: 6 :: 7 :: 8 :: 9 :: 10 :: 11 :: []) [] follows (by kernel_rfl) rfl ?_)
  (repeat (first | (refine cD_guard ?_; refine D_unwanted rfl rfl ?_) | (refine cD_move ?_; refine D_val0 (fun _ _ => R_move) rfl rfl ?_) | (refine cD_load ?_; refine D_val0 (fun w he => R_loadH (hAg w he) rfl (by assumption) (by rfl)) rfl rfl ?_) | (refine cD_fieldAddr ?_; refine D_val0 (fun _ _ => R_fa rfl) rfl rfl ?_) | (refine cD_nilCheck ?_; refine D_val0 (fun _ _ => R_nil rfl) rfl rfl ?_) | (refine cD_assign ?_; refine D_val0 (fun _ _ => R_assign) rfl rfl ?_) | (refine cD_extract ?_; refine D_val0 (fun _ _ => R_extract rfl rfl) rfl rfl ?_) | (refine cD_typeAssert ?_; first | refine D_val0 (fun _ _ => R_taY rfl) rfl rfl ?_ | refine D_val0 (fun _ _ => R_taN rfl rfl) rfl rfl ?_ | refine D_val0 (fun _ _ => R_taNil rfl) rfl rfl ?_) | (refine cD_call ?_; first | refine D_callQ (fun w he => ih w (hAg w he)) rfl ?_ | refine D_val0 (fun _ _ => R_len rfl) rfl rfl ?_) | (refine cD_pick ?_; first | refine D_val0 (fun _ _ => R_pickT rfl) rfl rfl ?_ | refine D_val0 (fun _ _ => R_pickF rfl) rfl rfl ?_) | (refine cD_eql ?_; first | refine D_val0 (fun _ _ => R_eqPN rfl rfl) rfl rfl ?_ | refine D_val0 (fun _ _ => R_eqI rfl rfl) rfl rfl ?_ | refine D_val0 (fun _ _ => R_eqB rfl rfl) rfl rfl ?_ | refine D_val0 (fun _ _ => R_eqIfN rfl rfl) rfl rfl ?_ | refine D_val0 (fun _ _ => R_eqIfNN rfl) rfl rfl ?_) | (refine cD_neq ?_; first | refine D_val0 (fun _ _ => R_nePN rfl rfl) rfl rfl ?_ | refine D_val0 (fun _ _ => R_neI rfl rfl) rfl rfl ?_ | refine D_val0 (fun _ _ => R_neB rfl rfl) rfl rfl ?_ | refine D_val0 (fun _ _ => R_neIfN rfl rfl) rfl rfl ?_ | refine D_val0 (fun _ _ => R_neIfNN rfl) rfl rfl ?_) | (refine cD_lss ?_; refine D_val0 (fun _ _ => R_ltI rfl rfl) rfl rfl ?_) | (refine cD_makeInterface ?_; refine D_val0 (fun _ _ => R_mkI) rfl rfl ?_) | (refine cD_not ?_; refine D_val0 (fun _ _ => R_not rfl) rfl rfl ?_) | (refine cD_add ?_; refine D_val0 (fun _ _ => R_addI rfl rfl) rfl rfl ?_)))
  refine D_nil fun w1 hw1 => ?_
  (repeat (first | (refine cL ?_; first | (refine cL_guard ?_; refine L_unwanted rfl rfl rfl ?_) | (refine cL_move ?_; refine L_val R_move rfl rfl rfl ?_) | (refine cL_load ?_; first | refine L_val (R_loadB rfl (by assumption) (by rfl)) rfl rfl rfl ?_ | refine L_val (R_loadH (by assumption) rfl (by assumption) (by rfl)) rfl rfl rfl ?_) | (refine cL_fieldAddr ?_; refine L_val (R_fa rfl) rfl rfl rfl ?_) | (refine cL_nilCheck ?_; refine L_val (R_nil rfl) rfl rfl rfl ?_) | (refine cL_assign ?_; refine L_val R_assign rfl rfl rfl ?_) | (refine cL_extract ?_; refine L_val (R_extract rfl rfl) rfl rfl rfl ?_) | (refine cL_typeAssert ?_; first | refine L_val (R_taY rfl) rfl rfl rfl ?_ | refine L_val (R_taN rfl rfl) rfl rfl rfl ?_ | refine L_val (R_taNil rfl) rfl rfl rfl ?_) | (refine cL_call ?_; refine L_val (R_len rfl) rfl rfl rfl ?_) | (refine cL_pick ?_; first | refine L_val (R_pickT rfl) rfl rfl rfl ?_ | refine L_val (R_pickF rfl) rfl rfl rfl ?_) | (refine cL_eql ?_; first | refine L_val (R_eqPN rfl rfl) rfl rfl rfl ?_ | refine L_val (R_eqI rfl rfl) rfl rfl rfl ?_ | refine L_val (R_eqB rfl rfl) rfl rfl rfl ?_ | refine L_val (R_eqIfN rfl rfl) rfl rfl rfl ?_ | refine L_val (R_eqIfNN rfl) rfl rfl rfl ?_) | (refine cL_neq ?_; first | refine L_val (R_nePN rfl rfl) rfl rfl rfl ?_ | refine L_val (R_neI rfl rfl) rfl rfl rfl ?_ | refine L_val (R_neB rfl rfl) rfl rfl rfl ?_ | refine L_val (R_neIfN rfl rfl) rfl rfl rfl ?_ | refine L_val (R_neIfNN rfl) rfl rfl rfl ?_) | (refine cL_lss ?_; refine L_val (R_ltI rfl rfl) rfl rfl rfl ?_) | (refine cL_makeInterface ?_; refine L_val R_mkI rfl rfl rfl ?_) | (refine cL_not ?_; refine L_val (R_not rfl) rfl rfl rfl ?_) | (refine cL_add ?_; refine L_val (R_addI rfl rfl) rfl rfl rfl ?_) | refine L_nil ?_) | refine G_seq ?_ | refine G_region ?_ | refine G_skip ?_ | refine G_block ?_ | refine G_end ?_ | refine G_true rfl ?_ | refine G_false rfl ?_))
  (refine G_retF rfl ?_)
  exact ⟨_, rfl, rfl, hw1⟩

theorem id_pointer {v v' : Value} {r : Bool} (hx : H a = some (Ob [v] 153)) (hy : H b = some (Ob [v'] 153)) (e : (Nat.beq 71 71 && peq (some ⟨a, 0, none⟩) (some ⟨b, 0, none⟩)) = false)
    (ih : ∀ w', Agree H w' → IdSays c v v' r w') : IdSays c (.iface 71 (ptr a)) (.iface 71 (ptr b)) r w := by
  have hl : LiveH H a := ⟨_, _, _, hx⟩
  have hl' : LiveH H b := ⟨_, _, _, hy⟩
  have hAg : ∀ w', Ext No w w' → Agree H w' := fun _ he => hA.ext0 he
  unfold Cmp at hc
  (refine calls_enter Tryz.func24 Tryz.ntmps24 rfl rfl ?_)
  (repeat (first | (refine cL ?_; first | (refine cL_guard ?_; refine L_unwanted rfl rfl rfl ?_) | (refine cL_move ?_; refine L_val R_move rfl rfl rfl ?_) | (refine cL_load ?_; first | refine L_val (R_loadB rfl (by assumption) (by rfl)) rfl rfl rfl ?_ | refine L_val (R_loadH (by assumption) rfl (by assumption) (by rfl)) rfl rfl rfl ?_) | (refine cL_fieldAddr ?_; refine L_val (R_fa rfl) rfl rfl rfl ?_) | (refine cL_nilCheck ?_; refine L_val (R_nil rfl) rfl rfl rfl ?_) | (refine cL_assign ?_; refine L_val R_assign rfl rfl rfl ?_) | (refine cL_extract ?_; refine L_val (R_extract rfl rfl) rfl rfl rfl ?_) | (refine cL_typeAssert ?_; first | refine L_val (R_taY rfl) rfl rfl rfl ?_ | refine L_val (R_taN rfl rfl) rfl rfl rfl ?_ | refine L_val (R_taNil rfl) rfl rfl rfl ?_) | (refine cL_call ?_; first | refine L_callI (unalias_any _ _ _ rfl) rfl rfl ?_ | refine L_val (R_len rfl) rfl rfl rfl ?_) | (refine cL_pick ?_; first | refine L_val (R_pickT rfl) rfl rfl rfl ?_ | refine L_val (R_pickF rfl) rfl rfl rfl ?_) | (refine cL_eql ?_; first | refine L_valB (R_eqIf rfl rfl (hA.live hl) (hA.live hl')) e rfl rfl rfl ?_ | refine L_val (R_eqPN rfl rfl) rfl rfl rfl ?_ | refine L_val (R_eqI rfl rfl) rfl rfl rfl ?_ | refine L_val (R_eqB rfl rfl) rfl rfl rfl ?_ | refine L_val (R_eqIfN rfl rfl) rfl rfl rfl ?_ | refine L_val (R_eqIfNN rfl) rfl rfl rfl ?_) | (refine cL_neq ?_; first | refine L_val (R_nePN rfl rfl) rfl rfl rfl ?_ | refine L_val (R_neI rfl rfl) rfl rfl rfl ?_ | refine L_val (R_neB rfl rfl) rfl rfl rfl ?_ | refine L_val (R_neIfN rfl rfl) rfl rfl rfl ?_ | refine L_val (R_neIfNN rfl) rfl rfl rfl ?_) | (refine cL_lss ?_; refine L_val (R_ltI rfl rfl) rfl rfl rfl ?_) | (refine cL_makeInterface ?_; refine L_val R_mkI rfl rfl rfl ?_) | (refine cL_not ?_; refine L_val (R_not rfl) rfl rfl rfl ?_) | (refine cL_add ?_; refine L_val (R_addI rfl rfl) rfl rfl rfl ?_) | refine L_nil ?_) | refine G_seq ?_ | refine G_region ?_ | refine G_skip ?_ | refine G_block ?_ | refine G_end ?_ | refine G_true rfl ?_ | refine G_false rfl ?_))
  (refine G_draw No (0 :: 1 :: 2 :: 3 :: 4 :: 5 :: 6 :: 7 :: 8 :: 9 :: 10 :: 11 :: []) [] follows (by kernel_rfl) rfl ?_)
  (repeat (first | (refine cD_guard ?_; refine D_unwanted rfl rfl ?_) | (refine cD_move ?_; refine D_val0 (fun _ _ => R_move) rfl rfl ?_) | (refine cD_load ?_; refine D_val0 (fun w he => R_loadH (hAg w he) rfl (by assumption) (by rfl)) rfl rfl ?_) | (refine cD_fieldAddr ?_; refine D_val0 (fun _ _ => R_fa rfl) rfl rfl ?_) | (refine cD_nilCheck ?_; refine D_val0 (fun _ _ => R_nil rfl) rfl rfl ?_) | (refine cD_assign ?_; refine D_val0 (fun _ _ => R_assign) rfl rfl ?_) | (refine cD_extract ?_; refine D_val0 (fun _ _ => R_extract rfl rfl) rfl rfl ?_) | (refine cD_typeAssert ?_; first | refine D_val0 (fun _ _ => R_taY rfl) rfl rfl ?_ | refine D_val0 (fun _ _ => R_taN rfl rfl) rfl rfl ?_ | refine D_val0 (fun _ _ => R_taNil rfl) rfl rfl ?_) | (refine cD_call ?_; first | refine D_callQ (fun w he => ih w (hAg w he)) rfl ?_ | refine D_val0 (fun _ _ => R_len rfl) rfl rfl ?_) | (refine cD_pick ?_; first | refine D_val0 (fun _ _ => R_pickT rfl) rfl rfl ?_ | refine D_val0 (fun _ _ => R_pickF rfl) rfl rfl ?_) | (refine cD_eql ?_; first | refine D_val0 (fun _ _ => R_eqPN rfl rfl) rfl rfl ?_ | refine D_val0 (fun _ _ => R_eqI rfl rfl) rfl rfl ?_ | refine D_val0 (fun _ _ => R_eqB rfl rfl) rfl rfl ?_ | refine D_val0 (fun _ _ => R_eqIfN rfl rfl) rfl rfl ?_ | refine D_val0 (fun _ _ => R_eqIfNN rfl) rfl rfl ?_) | (refine cD_neq ?_; first | refine D_val0 (fun _ _ => R_nePN rfl rfl) rfl rfl ?_ | refine D_val0 (fun _ _ => R_neI rfl rfl) rfl rfl ?_ | refine D_val0 (fun _ _ => R_neB rfl rfl) rfl rfl ?_ | refine D_val0 (fun _ _ => R_neIfN rfl rfl) rfl rfl ?_ | refine D_val0 (fun _ _ => R_neIfNN rfl) rfl rfl ?_) | (refine cD_lss ?_; refine D_val0 (fun _ _ => R_ltI rfl rfl) rfl rfl ?_) | (refine cD_makeInterface ?_; refine D_val0 (fun _ _ => R_mkI) rfl rfl ?_) | (refine cD_not ?_; refine D_val0 (fun _ _ => R_not rfl) rfl rfl ?_) | (refine cD_add ?_; refine D_val0 (fun _ _ => R_addI rfl rfl) rfl rfl ?_)))
  refine D_nil fun w1 hw1 => ?_
  (repeat (first | (refine cL ?_; first | (refine cL_guard ?_; refine L_unwanted rfl rfl rfl ?_) | (refine cL_move ?_; refine L_val R_move rfl rfl rfl ?_) | (refine cL_load ?_; first | refine L_val (R_loadB rfl (by assumption) (by rfl)) rfl rfl rfl ?_ | refine L_val (R_loadH (by assumption) rfl (by assumption) (by rfl)) rfl rfl rfl ?_) | (refine cL_fieldAddr ?_; refine L_val (R_fa rfl) rfl rfl rfl ?_) | (refine cL_nilCheck ?_; refine L_val (R_nil rfl) rfl rfl rfl ?_) | (refine cL_assign ?_; refine L_val R_assign rfl rfl rfl ?_) | (refine cL_extract ?_; refine L_val (R_extract rfl rfl) rfl rfl rfl ?_) | (refine cL_typeAssert ?_; first | refine L_val (R_taY rfl) rfl rfl rfl ?_ | refine L_val (R_taN rfl rfl) rfl rfl rfl ?_ | refine L_val (R_taNil rfl) rfl rfl rfl ?_) | (refine cL_call ?_; refine L_val (R_len rfl) rfl rfl rfl ?_) | (refine cL_pick ?_; first | refine L_val (R_pickT rfl) rfl rfl rfl ?_ | refine L_val (R_pickF rfl) rfl rfl rfl ?_) | (refine cL_eql ?_; first | refine L_val (R_eqPN rfl rfl) rfl rfl rfl ?_ | refine L_val (R_eqI rfl rfl) rfl rfl rfl ?_ | refine L_val (R_eqB rfl rfl) rfl rfl rfl ?_ | refine L_val (R_eqIfN rfl rfl) rfl rfl rfl ?_ | refine L_val (R_eqIfNN rfl) rfl rfl rfl ?_) | (refine cL_neq ?_; first | refine L_val (R_nePN rfl rfl) rfl rfl rfl ?_ | refine L_val (R_neI rfl rfl) rfl rfl rfl ?_ | refine L_val (R_neB rfl rfl) rfl rfl rfl ?_ | refine L_val (R_neIfN rfl rfl) rfl rfl rfl ?_ | refine L_val (R_neIfNN rfl) rfl rfl rfl ?_) | (refine cL_lss ?_; refine L_val (R_ltI rfl rfl) rfl rfl rfl ?_) | (refine cL_makeInterface ?_; refine L_val R_mkI rfl rfl rfl ?_) | (refine cL_not ?_; refine L_val (R_not rfl) rfl rfl rfl ?_) | (refine cL_add ?_; refine L_val (R_addI rfl rfl) rfl rfl rfl ?_) | refine L_nil ?_) | refine G_seq ?_ | refine G_region ?_ | refine G_skip ?_ | refine G_block ?_ | refine G_end ?_ | refine G_true rfl ?_ | refine G_false rfl ?_))
  (refine G_retF rfl ?_)
  exact ⟨_, rfl, rfl, hw1⟩

theorem id_array {n n' : Int} {v v' : Value} {r : Bool} (hx : H a = some (Ob [.int .i64 n, v] 138)) (hy : H b = some (Ob [.int .i64 n', v'] 138)) (h0 : 0 ≤ n) (h1 : 0 ≤ n') (e : (Nat.beq 75 75 && peq (some ⟨a, 0, none⟩) (some ⟨b, 0, none⟩)) = false)
    (ih : ∀ w', Agree H w' → IdSays c v v' r w') : IdSays c (.iface 75 (ptr a)) (.iface 75 (ptr b)) (n == n' && r) w := by
  have hl : LiveH H a := ⟨_, _, _, hx⟩
  have hl' : LiveH H b := ⟨_, _, _, hy⟩
  have hAg : ∀ w', Ext No w w' → Agree H w' := fun _ he => hA.ext0 he
  unfold Cmp at hc
  have l0 : decide (n < 0) = false := decide_eq_false (by omega)
  have l1 : decide (n' < 0) = false := decide_eq_false (by omega)
  cases e0 : (n == n') with
  | true =>
    (refine calls_enter Tryz.func24 Tryz.ntmps24 rfl rfl ?_)
    (repeat (first | (refine cL ?_; first | (refine cL_guard ?_; refine L_unwanted rfl rfl rfl ?_) | (refine cL_move ?_; refine L_val R_move rfl rfl rfl ?_) | (refine cL_load ?_; first | refine L_val (R_loadB rfl (by assumption) (by rfl)) rfl rfl rfl ?_ | refine L_val (R_loadH (by assumption) rfl (by assumption) (by rfl)) rfl rfl rfl ?_) | (refine cL_fieldAddr ?_; refine L_val (R_fa rfl) rfl rfl rfl ?_) | (refine cL_nilCheck ?_; refine L_val (R_nil rfl) rfl rfl rfl ?_) | (refine cL_assign ?_; refine L_val R_assign rfl rfl rfl ?_) | (refine cL_extract ?_; refine L_val (R_extract rfl rfl) rfl rfl rfl ?_) | (refine cL_typeAssert ?_; first | refine L_val (R_taY rfl) rfl rfl rfl ?_ | refine L_val (R_taN rfl rfl) rfl rfl rfl ?_ | refine L_val (R_taNil rfl) rfl rfl rfl ?_) | (refine cL_call ?_; first | refine L_callI (unalias_any _ _ _ rfl) rfl rfl ?_ | refine L_val (R_len rfl) rfl rfl rfl ?_) | (refine cL_pick ?_; first | refine L_val (R_pickT rfl) rfl rfl rfl ?_ | refine L_val (R_pickF rfl) rfl rfl rfl ?_) | (refine cL_eql ?_; first | refine L_valB (R_eqIf rfl rfl (hA.live hl) (hA.live hl')) e rfl rfl rfl ?_ | refine L_val (R_eqPN rfl rfl) rfl rfl rfl ?_ | refine L_val (R_eqI rfl rfl) rfl rfl rfl ?_ | refine L_val (R_eqB rfl rfl) rfl rfl rfl ?_ | refine L_val (R_eqIfN rfl rfl) rfl rfl rfl ?_ | refine L_val (R_eqIfNN rfl) rfl rfl rfl ?_) | (refine cL_neq ?_; first | refine L_val (R_nePN rfl rfl) rfl rfl rfl ?_ | refine L_val (R_neI rfl rfl) rfl rfl rfl ?_ | refine L_val (R_neB rfl rfl) rfl rfl rfl ?_ | refine L_val (R_neIfN rfl rfl) rfl rfl rfl ?_ | refine L_val (R_neIfNN rfl) rfl rfl rfl ?_) | (refine cL_lss ?_; refine L_val (R_ltI rfl rfl) rfl rfl rfl ?_) | (refine cL_makeInterface ?_; refine L_val R_mkI rfl rfl rfl ?_) | (refine cL_not ?_; refine L_val (R_not rfl) rfl rfl rfl ?_) | (refine cL_add ?_; refine L_val (R_addI rfl rfl) rfl rfl rfl ?_) | refine L_nil ?_) | refine G_seq ?_ | refine G_region ?_ | refine G_skip ?_ | refine G_block ?_ | refine G_end ?_ | refine G_true rfl ?_ | refine G_false rfl ?_))
    (refine G_draw No (0 :: 1 :: 2 :: 3 :: 4 :: 5 :: 6 :: 7 :: 8 :: 9 :: 10 :: 11 :: 12 :: 13 :: 14 :: 15 :: 16 :: 17 :: 18 :: 19 :: 20 :: 21 :: 22 :: 23 :: 24 :: 25 :: 26 :: 27 :: 28 :: 29 :: 30 :: 31 :: 32 :: 33 :: 34 :: 35 :: 36 :: []) [] follows (by kernel_rfl) rfl ?_)
    (repeat (first | (refine cD_guard ?_; refine D_unwanted rfl rfl ?_) | (refine cD_move ?_; refine D_val0 (fun _ _ => R_move) rfl rfl ?_) | (refine cD_load ?_; refine D_val0 (fun w he => R_loadH (hAg w he) rfl (by assumption) (by rfl)) rfl rfl ?_) | (refine cD_fieldAddr ?_; refine D_val0 (fun _ _ => R_fa rfl) rfl rfl ?_) | (refine cD_nilCheck ?_; refine D_val0 (fun _ _ => R_nil rfl) rfl rfl ?_) | (refine cD_assign ?_; refine D_val0 (fun _ _ => R_assign) rfl rfl ?_) | (refine cD_extract ?_; refine D_val0 (fun _ _ => R_extract rfl rfl) rfl rfl ?_) | (refine cD_typeAssert ?_; first | refine D_val0 (fun _ _ => R_taY rfl) rfl rfl ?_ | refine D_val0 (fun _ _ => R_taN rfl rfl) rfl rfl ?_ | refine D_val0 (fun _ _ => R_taNil rfl) rfl rfl ?_) | (refine cD_call ?_; first | refine D_callQ (fun w he => ih w (hAg w he)) rfl ?_ | refine D_val0 (fun _ _ => R_len rfl) rfl rfl ?_) | (refine cD_pick ?_; first | refine D_val0 (fun _ _ => R_pickT rfl) rfl rfl ?_ | refine D_val0 (fun _ _ => R_pickF rfl) rfl rfl ?_) | (refine cD_eql ?_; first | refine D_valB (fun _ _ => R_eqI rfl rfl) e0 rfl rfl ?_ | refine D_val0 (fun _ _ => R_eqPN rfl rfl) rfl rfl ?_ | refine D_val0 (fun _ _ => R_eqI rfl rfl) rfl rfl ?_ | refine D_val0 (fun _ _ => R_eqB rfl rfl) rfl rfl ?_ | refine D_val0 (fun _ _ => R_eqIfN rfl rfl) rfl rfl ?_ | refine D_val0 (fun _ _ => R_eqIfNN rfl) rfl rfl ?_) | (refine cD_neq ?_; first | refine D_val0 (fun _ _ => R_nePN rfl rfl) rfl rfl ?_ | refine D_val0 (fun _ _ => R_neI rfl rfl) rfl rfl ?_ | refine D_val0 (fun _ _ => R_neB rfl rfl) rfl rfl ?_ | refine D_val0 (fun _ _ => R_neIfN rfl rfl) rfl rfl ?_ | refine D_val0 (fun _ _ => R_neIfNN rfl) rfl rfl ?_) | (refine cD_lss ?_; first | refine D_valB (fun _ _ => R_ltI rfl rfl) l0 rfl rfl ?_ | refine D_valB (fun _ _ => R_ltI rfl rfl) l1 rfl rfl ?_ | refine D_val0 (fun _ _ => R_ltI rfl rfl) rfl rfl ?_) | (refine cD_makeInterface ?_; refine D_val0 (fun _ _ => R_mkI) rfl rfl ?_) | (refine cD_not ?_; refine D_val0 (fun _ _ => R_not rfl) rfl rfl ?_) | (refine cD_add ?_; refine D_val0 (fun _ _ => R_addI rfl rfl) rfl rfl ?_)))
    refine D_nil fun w1 hw1 => ?_
    (repeat (first | (refine cL ?_; first | (refine cL_guard ?_; refine L_unwanted rfl rfl rfl ?_) | (refine cL_move ?_; refine L_val R_move rfl rfl rfl ?_) | (refine cL_load ?_; first | refine L_val (R_loadB rfl (by assumption) (by rfl)) rfl rfl rfl ?_ | refine L_val (R_loadH (by assumption) rfl (by assumption) (by rfl)) rfl rfl rfl ?_) | (refine cL_fieldAddr ?_; refine L_val (R_fa rfl) rfl rfl rfl ?_) | (refine cL_nilCheck ?_; refine L_val (R_nil rfl) rfl rfl rfl ?_) | (refine cL_assign ?_; refine L_val R_assign rfl rfl rfl ?_) | (refine cL_extract ?_; refine L_val (R_extract rfl rfl) rfl rfl rfl ?_) | (refine cL_typeAssert ?_; first | refine L_val (R_taY rfl) rfl rfl rfl ?_ | refine L_val (R_taN rfl rfl) rfl rfl rfl ?_ | refine L_val (R_taNil rfl) rfl rfl rfl ?_) | (refine cL_call ?_; refine L_val (R_len rfl) rfl rfl rfl ?_) | (refine cL_pick ?_; first | refine L_val (R_pickT rfl) rfl rfl rfl ?_ | refine L_val (R_pickF rfl) rfl rfl rfl ?_) | (refine cL_eql ?_; first | refine L_val (R_eqPN rfl rfl) rfl rfl rfl ?_ | refine L_val (R_eqI rfl rfl) rfl rfl rfl ?_ | refine L_val (R_eqB rfl rfl) rfl rfl rfl ?_ | refine L_val (R_eqIfN rfl rfl) rfl rfl rfl ?_ | refine L_val (R_eqIfNN rfl) rfl rfl rfl ?_) | (refine cL_neq ?_; first | refine L_val (R_nePN rfl rfl) rfl rfl rfl ?_ | refine L_val (R_neI rfl rfl) rfl rfl rfl ?_ | refine L_val (R_neB rfl rfl) rfl rfl rfl ?_ | refine L_val (R_neIfN rfl rfl) rfl rfl rfl ?_ | refine L_val (R_neIfNN rfl) rfl rfl rfl ?_) | (refine cL_lss ?_; refine L_val (R_ltI rfl rfl) rfl rfl rfl ?_) | (refine cL_makeInterface ?_; refine L_val R_mkI rfl rfl rfl ?_) | (refine cL_not ?_; refine L_val (R_not rfl) rfl rfl rfl ?_) | (refine cL_add ?_; refine L_val (R_addI rfl rfl) rfl rfl rfl ?_) | refine L_nil ?_) | refine G_seq ?_ | refine G_region ?_ | refine G_skip ?_ | refine G_block ?_ | refine G_end ?_ | refine G_true rfl ?_ | refine G_false rfl ?_))
    (refine G_retF rfl ?_)
    exact ⟨_, rfl, rfl, hw1⟩
  | false =>
    (refine calls_enter Tryz.func24 Tryz.ntmps24 rfl rfl ?_)
    (repeat (first | (refine cL ?_; first | (refine cL_guard ?_; refine L_unwanted rfl rfl rfl ?_) | (refine cL_move ?_; refine L_val R_move rfl rfl rfl ?_) | (refine cL_load ?_; first | refine L_val (R_loadB rfl (by assumption) (by rfl)) rfl rfl rfl ?_ | refine L_val (R_loadH (by assumption) rfl (by assumption) (by rfl)) rfl rfl rfl ?_) | (refine cL_fieldAddr ?_; refine L_val (R_fa rfl) rfl rfl rfl ?_) | (refine cL_nilCheck ?_; refine L_val (R_nil rfl) rfl rfl rfl ?_) | (refine cL_assign ?_; refine L_val R_assign rfl rfl rfl ?_) | (refine cL_extract ?_; refine L_val (R_extract rfl rfl) rfl rfl rfl ?_) | (refine cL_typeAssert ?_; first | refine L_val (R_taY rfl) rfl rfl rfl ?_ | refine L_val (R_taN rfl rfl) rfl rfl rfl ?_ | refine L_val (R_taNil rfl) rfl rfl rfl ?_) | (refine cL_call ?_; first | refine L_callI (unalias_any _ _ _ rfl) rfl rfl ?_ | refine L_val (R_len rfl) rfl rfl rfl ?_) | (refine cL_pick ?_; first | refine L_val (R_pickT rfl) rfl rfl rfl ?_ | refine L_val (R_pickF rfl) rfl rfl rfl ?_) | (refine cL_eql ?_; first | refine L_valB (R_eqIf rfl rfl (hA.live hl) (hA.live hl')) e rfl rfl rfl ?_ | refine L_val (R_eqPN rfl rfl) rfl rfl rfl ?_ | refine L_val (R_eqI rfl rfl) rfl rfl rfl ?_ | refine L_val (R_eqB rfl rfl) rfl rfl rfl ?_ | refine L_val (R_eqIfN rfl rfl) rfl rfl rfl ?_ | refine L_val (R_eqIfNN rfl) rfl rfl rfl ?_) | (refine cL_neq ?_; first | refine L_val (R_nePN rfl rfl) rfl rfl rfl ?_ | refine L_val (R_neI rfl rfl) rfl rfl rfl ?_ | refine L_val (R_neB rfl rfl) rfl rfl rfl ?_ | refine L_val (R_neIfN rfl rfl) rfl rfl rfl ?_ | refine L_val (R_neIfNN rfl) rfl rfl rfl ?_) | (refine cL_lss ?_; refine L_val (R_ltI rfl rfl) rfl rfl rfl ?_) | (refine cL_makeInterface ?_; refine L_val R_mkI rfl rfl rfl ?_) | (refine cL_not ?_; refine L_val (R_not rfl) rfl rfl rfl ?_) | (refine cL_add ?_; refine L_val (R_addI rfl rfl) rfl rfl rfl ?_) | refine L_nil ?_) | refine G_seq ?_ | refine G_region ?_ | refine G_skip ?_ | refine G_block ?_ | refine G_end ?_ | refine G_true rfl ?_ | refine G_false rfl ?_))
    (refine G_draw No (0 :: 1 :: 2 :: 3 :: 4 :: 5 :: 6 :: 7 :: 8 :: 9 :: 10 :: 11 :: 12 :: 13 :: 14 :: 15 :: 16 :: 17 :: 18 :: 19 :: 20 :: 21 :: 22 :: 23 :: 24 :: 25 :: 26 :: 27 :: 28 :: 29 :: 30 :: 31 :: 32 :: 33 :: 34 :: 35 :: 36 :: []) [] follows (by kernel_rfl) rfl ?_)
    (repeat (first | (refine cD_guard ?_; refine D_unwanted rfl rfl ?_) | (refine cD_move ?_; refine D_val0 (fun _ _ => R_move) rfl rfl ?_) | (refine cD_load ?_; refine D_val0 (fun w he => R_loadH (hAg w he) rfl (by assumption) (by rfl)) rfl rfl ?_) | (refine cD_fieldAddr ?_; refine D_val0 (fun _ _ => R_fa rfl) rfl rfl ?_) | (refine cD_nilCheck ?_; refine D_val0 (fun _ _ => R_nil rfl) rfl rfl ?_) | (refine cD_assign ?_; refine D_val0 (fun _ _ => R_assign) rfl rfl ?_) | (refine cD_extract ?_; refine D_val0 (fun _ _ => R_extract rfl rfl) rfl rfl ?_) | (refine cD_typeAssert ?_; first | refine D_val0 (fun _ _ => R_taY rfl) rfl rfl ?_ | refine D_val0 (fun _ _ => R_taN rfl rfl) rfl rfl ?_ | refine D_val0 (fun _ _ => R_taNil rfl) rfl rfl ?_) | (refine cD_call ?_; refine D_val0 (fun _ _ => R_len rfl) rfl rfl ?_) | (refine cD_pick ?_; first | refine D_val0 (fun _ _ => R_pickT rfl) rfl rfl ?_ | refine D_val0 (fun _ _ => R_pickF rfl) rfl rfl ?_) | (refine cD_eql ?_; first | refine D_valB (fun _ _ => R_eqI rfl rfl) e0 rfl rfl ?_ | refine D_val0 (fun _ _ => R_eqPN rfl rfl) rfl rfl ?_ | refine D_val0 (fun _ _ => R_eqI rfl rfl) rfl rfl ?_ | refine D_val0 (fun _ _ => R_eqB rfl rfl) rfl rfl ?_ | refine D_val0 (fun _ _ => R_eqIfN rfl rfl) rfl rfl ?_ | refine D_val0 (fun _ _ => R_eqIfNN rfl) rfl rfl ?_) | (refine cD_neq ?_; first | refine D_val0 (fun _ _ => R_nePN rfl rfl) rfl rfl ?_ | refine D_val0 (fun _ _ => R_neI rfl rfl) rfl rfl ?_ | refine D_val0 (fun _ _ => R_neB rfl rfl) rfl rfl ?_ | refine D_val0 (fun _ _ => R_neIfN rfl rfl) rfl rfl ?_ | refine D_val0 (fun _ _ => R_neIfNN rfl) rfl rfl ?_) | (refine cD_lss ?_; first | refine D_valB (fun _ _ => R_ltI rfl rfl) l0 rfl rfl ?_ | refine D_valB (fun _ _ => R_ltI rfl rfl) l1 rfl rfl ?_ | refine D_val0 (fun _ _ => R_ltI rfl rfl) rfl rfl ?_) | (refine cD_makeInterface ?_; refine D_val0 (fun _ _ => R_mkI) rfl rfl ?_) | (refine cD_not ?_; refine D_val0 (fun _ _ => R_not rfl) rfl rfl ?_) | (refine cD_add ?_; refine D_val0 (fun _ _ => R_addI rfl rfl) rfl rfl ?_)))
    refine D_nil fun w1 hw1 => ?_
    (repeat (first | (refine cL ?_; first | (refine cL_guard ?_; refine L_unwanted rfl rfl rfl ?_) | (refine cL_move ?_; refine L_val R_move rfl rfl rfl ?_) | (refine cL_load ?_; first | refine L_val (R_loadB rfl (by assumption) (by rfl)) rfl rfl rfl ?_ | refine L_val (R_loadH (by assumption) rfl (by assumption) (by rfl)) rfl rfl rfl ?_) | (refine cL_fieldAddr ?_; refine L_val (R_fa rfl) rfl rfl rfl ?_) | (refine cL_nilCheck ?_; refine L_val (R_nil rfl) rfl rfl rfl ?_) | (refine cL_assign ?_; refine L_val R_assign rfl rfl rfl ?_) | (refine cL_extract ?_; refine L_val (R_extract rfl rfl) rfl rfl rfl ?_) | (refine cL_typeAssert ?_; first | refine L_val (R_taY rfl) rfl rfl rfl ?_ | refine L_val (R_taN rfl rfl) rfl rfl rfl ?_ | refine L_val (R_taNil rfl) rfl rfl rfl ?_) | (refine cL_call ?_; refine L_val (R_len rfl) rfl rfl rfl ?_) | (refine cL_pick ?_; first | refine L_val (R_pickT rfl) rfl rfl rfl ?_ | refine L_val (R_pickF rfl) rfl rfl rfl ?_) | (refine cL_eql ?_; first | refine L_val (R_eqPN rfl rfl) rfl rfl rfl ?_ | refine L_val (R_eqI rfl rfl) rfl rfl rfl ?_ | refine L_val (R_eqB rfl rfl) rfl rfl rfl ?_ | refine L_val (R_eqIfN rfl rfl) rfl rfl rfl ?_ | refine L_val (R_eqIfNN rfl) rfl rfl rfl ?_) | (refine cL_neq ?_; first | refine L_val (R_nePN rfl rfl) rfl rfl rfl ?_ | refine L_val (R_neI rfl rfl) rfl rfl rfl ?_ | refine L_val (R_neB rfl rfl) rfl rfl rfl ?_ | refine L_val (R_neIfN rfl rfl) rfl rfl rfl ?_ | refine L_val (R_neIfNN rfl) rfl rfl rfl ?_) | (refine cL_lss ?_; refine L_val (R_ltI rfl rfl) rfl rfl rfl ?_) | (refine cL_makeInterface ?_; refine L_val R_mkI rfl rfl rfl ?_) | (refine cL_not ?_; refine L_val (R_not rfl) rfl rfl rfl ?_) | (refine cL_add ?_; refine L_val (R_addI rfl rfl) rfl rfl rfl ?_) | refine L_nil ?_) | refine G_seq ?_ | refine G_region ?_ | refine G_skip ?_ | refine G_block ?_ | refine G_end ?_ | refine G_true rfl ?_ | refine G_false rfl ?_))
    (refine G_retF rfl ?_)
    exact ⟨_, rfl, rfl, hw1⟩

theorem id_map {v v' u u' : Value} {r q : Bool} (hx : H a = some (Ob [v, u] 174)) (hy : H b = some (Ob [v', u'] 174)) (e : (Nat.beq 77 77 && peq (some ⟨a, 0, none⟩) (some ⟨b, 0, none⟩)) = false)
    (ih : ∀ w', Agree H w' → IdSays c v v' r w') (ih2 : ∀ w', Agree H w' → IdSays c u u' q w') : IdSays c (.iface 77 (ptr a)) (.iface 77 (ptr b)) (r && q) w := by
  have hl : LiveH H a := ⟨_, _, _, hx⟩
  have hl' : LiveH H b := ⟨_, _, _, hy⟩
  have hAg : ∀ w', Ext No w w' → Agree H w' := fun _ he => hA.ext0 he
  unfold Cmp at hc
  cases r with
  | true =>
    (refine calls_enter Tryz.func24 Tryz.ntmps24 rfl rfl ?_)
    (repeat (first | (refine cL ?_; first | (refine cL_guard ?_; refine L_unwanted rfl rfl rfl ?_) | (refine cL_move ?_; refine L_val R_move rfl rfl rfl ?_) | (refine cL_load ?_; first | refine L_val (R_loadB rfl (by assumption) (by rfl)) rfl rfl rfl ?_ | refine L_val (R_loadH (by assumption) rfl (by assumption) (by rfl)) rfl rfl rfl ?_) | (refine cL_fieldAddr ?_; refine L_val (R_fa rfl) rfl rfl rfl ?_) | (refine cL_nilCheck ?_; refine L_val (R_nil rfl) rfl rfl rfl ?_) | (refine cL_assign ?_; refine L_val R_assign rfl rfl rfl ?_) | (refine cL_extract ?_; refine L_val (R_extract rfl rfl) rfl rfl rfl ?_) | (refine cL_typeAssert ?_; first | refine L_val (R_taY rfl) rfl rfl rfl ?_ | refine L_val (R_taN rfl rfl) rfl rfl rfl ?_ | refine L_val (R_taNil rfl) rfl rfl rfl ?_) | (refine cL_call ?_; first | refine L_callI (unalias_any _ _ _ rfl) rfl rfl ?_ | refine L_val (R_len rfl) rfl rfl rfl ?_) | (refine cL_pick ?_; first | refine L_val (R_pickT rfl) rfl rfl rfl ?_ | refine L_val (R_pickF rfl) rfl rfl rfl ?_) | (refine cL_eql ?_; first | refine L_valB (R_eqIf rfl rfl (hA.live hl) (hA.live hl')) e rfl rfl rfl ?_ | refine L_val (R_eqPN rfl rfl) rfl rfl rfl ?_ | refine L_val (R_eqI rfl rfl) rfl rfl rfl ?_ | refine L_val (R_eqB rfl rfl) rfl rfl rfl ?_ | refine L_val (R_eqIfN rfl rfl) rfl rfl rfl ?_ | refine L_val (R_eqIfNN rfl) rfl rfl rfl ?_) | (refine cL_neq ?_; first | refine L_val (R_nePN rfl rfl) rfl rfl rfl ?_ | refine L_val (R_neI rfl rfl) rfl rfl rfl ?_ | refine L_val (R_neB rfl rfl) rfl rfl rfl ?_ | refine L_val (R_neIfN rfl rfl) rfl rfl rfl ?_ | refine L_val (R_neIfNN rfl) rfl rfl rfl ?_) | (refine cL_lss ?_; refine L_val (R_ltI rfl rfl) rfl rfl rfl ?_) | (refine cL_makeInterface ?_; refine L_val R_mkI rfl rfl rfl ?_) | (refine cL_not ?_; refine L_val (R_not rfl) rfl rfl rfl ?_) | (refine cL_add ?_; refine L_val (R_addI rfl rfl) rfl rfl rfl ?_) | refine L_nil ?_) | refine G_seq ?_ | refine G_region ?_ | refine G_skip ?_ | refine G_block ?_ | refine G_end ?_ | refine G_true rfl ?_ | refine G_false rfl ?_))
    (refine G_draw No (0 :: 1 :: 2 :: 3 :: 4 :: 5 :: 6 :: 7 :: 8 :: 9 :: 10 :: 11 :: 12 :: 13 :: 14 :: 15 :: 16 :: 17 :: 18 :: 19 :: 20 :: 21 :: 22 :: 23 :: 24 :: []) [] follows (by kernel_rfl) rfl ?_)
    (repeat (first | (refine cD_guard ?_; refine D_unwanted rfl rfl ?_) | (refine cD_move ?_; refine D_val0 (fun _ _ => R_move) rfl rfl ?_) | (refine cD_load ?_; refine D_val0 (fun w he => R_loadH (hAg w he) rfl (by assumption) (by rfl)) rfl rfl ?_) | (refine cD_fieldAddr ?_; refine D_val0 (fun _ _ => R_fa rfl) rfl rfl ?_) | (refine cD_nilCheck ?_; refine D_val0 (fun _ _ => R_nil rfl) rfl rfl ?_) | (refine cD_assign ?_; refine D_val0 (fun _ _ => R_assign) rfl rfl ?_) | (refine cD_extract ?_; refine D_val0 (fun _ _ => R_extract rfl rfl) rfl rfl ?_) | (refine cD_typeAssert ?_; first | refine D_val0 (fun _ _ => R_taY rfl) rfl rfl ?_ | refine D_val0 (fun _ _ => R_taN rfl rfl) rfl rfl ?_ | refine D_val0 (fun _ _ => R_taNil rfl) rfl rfl ?_) | (refine cD_call ?_; first | refine D_callQ (fun w he => ih w (hAg w he)) rfl ?_ | refine D_callQ (fun w he => ih2 w (hAg w he)) rfl ?_ | refine D_val0 (fun _ _ => R_len rfl) rfl rfl ?_) | (refine cD_pick ?_; first | refine D_val0 (fun _ _ => R_pickT rfl) rfl rfl ?_ | refine D_val0 (fun _ _ => R_pickF rfl) rfl rfl ?_) | (refine cD_eql ?_; first | refine D_val0 (fun _ _ => R_eqPN rfl rfl) rfl rfl ?_ | refine D_val0 (fun _ _ => R_eqI rfl rfl) rfl rfl ?_ | refine D_val0 (fun _ _ => R_eqB rfl rfl) rfl rfl ?_ | refine D_val0 (fun _ _ => R_eqIfN rfl rfl) rfl rfl ?_ | refine D_val0 (fun _ _ => R_eqIfNN rfl) rfl rfl ?_) | (refine cD_neq ?_; first | refine D_val0 (fun _ _ => R_nePN rfl rfl) rfl rfl ?_ | refine D_val0 (fun _ _ => R_neI rfl rfl) rfl rfl ?_ | refine D_val0 (fun _ _ => R_neB rfl rfl) rfl rfl ?_ | refine D_val0 (fun _ _ => R_neIfN rfl rfl) rfl rfl ?_ | refine D_val0 (fun _ _ => R_neIfNN rfl) rfl rfl ?_) | (refine cD_lss ?_; refine D_val0 (fun _ _ => R_ltI rfl rfl) rfl rfl ?_) | (refine cD_makeInterface ?_; refine D_val0 (fun _ _ => R_mkI) rfl rfl ?_) | (refine cD_not ?_; refine D_val0 (fun _ _ => R_not rfl) rfl rfl ?_) | (refine cD_add ?_; refine D_val0 (fun _ _ => R_addI rfl rfl) rfl rfl ?_)))
    refine D_nil fun w1 hw1 => ?_
    (repeat (first | (refine cL ?_; first | (refine cL_guard ?_; refine L_unwanted rfl rfl rfl ?_) | (refine cL_move ?_; refine L_val R_move rfl rfl rfl ?_) | (refine cL_load ?_; first | refine L_val (R_loadB rfl (by assumption) (by rfl)) rfl rfl rfl ?_ | refine L_val (R_loadH (by assumption) rfl (by assumption) (by rfl)) rfl rfl rfl ?_) | (refine cL_fieldAddr ?_; refine L_val (R_fa rfl) rfl rfl rfl ?_) | (refine cL_nilCheck ?_; refine L_val (R_nil rfl) rfl rfl rfl ?_) | (refine cL_assign ?_; refine L_val R_assign rfl rfl rfl ?_) | (refine cL_extract ?_; refine L_val (R_extract rfl rfl) rfl rfl rfl ?_) | (refine cL_typeAssert ?_; first | refine L_val (R_taY rfl) rfl rfl rfl ?_ | refine L_val (R_taN rfl rfl) rfl rfl rfl ?_ | refine L_val (R_taNil rfl) rfl rfl rfl ?_) | (refine cL_call ?_; refine L_val (R_len rfl) rfl rfl rfl ?_) | (refine cL_pick ?_; first | refine L_val (R_pickT rfl) rfl rfl rfl ?_ | refine L_val (R_pickF rfl) rfl rfl rfl ?_) | (refine cL_eql ?_; first | refine L_val (R_eqPN rfl rfl) rfl rfl rfl ?_ | refine L_val (R_eqI rfl rfl) rfl rfl rfl ?_ | refine L_val (R_eqB rfl rfl) rfl rfl rfl ?_ | refine L_val (R_eqIfN rfl rfl) rfl rfl rfl ?_ | refine L_val (R_eqIfNN rfl) rfl rfl rfl ?_) | (refine cL_neq ?_; first | refine L_val (R_nePN rfl rfl) rfl rfl rfl ?_ | refine L_val (R_neI rfl rfl) rfl rfl rfl ?_ | refine L_val (R_neB rfl rfl) rfl rfl rfl ?_ | refine L_val (R_neIfN rfl rfl) rfl rfl rfl ?_ | refine L_val (R_neIfNN rfl) rfl rfl rfl ?_) | (refine cL_lss ?_; refine L_val (R_ltI rfl rfl) rfl rfl rfl ?_) | (refine cL_makeInterface ?_; refine L_val R_mkI rfl rfl rfl ?_) | (refine cL_not ?_; refine L_val (R_not rfl) rfl rfl rfl ?_) | (refine cL_add ?_; refine L_val (R_addI rfl rfl) rfl rfl rfl ?_) | refine L_nil ?_) | refine G_seq ?_ | refine G_region ?_ | refine G_skip ?_ | refine G_block ?_ | refine G_end ?_ | refine G_true rfl ?_ | refine G_false rfl ?_))
    (refine G_retF rfl ?_)
    exact ⟨_, rfl, rfl, hw1⟩
  | false =>
    (refine calls_enter Tryz.func24 Tryz.ntmps24 rfl rfl ?_)
    (repeat (first | (refine cL ?_; first | (refine cL_guard ?_; refine L_unwanted rfl rfl rfl ?_) | (refine cL_move ?_; refine L_val R_move rfl rfl rfl ?_) | (refine cL_load ?_; first | refine L_val (R_loadB rfl (by assumption) (by rfl)) rfl rfl rfl ?_ | refine L_val (R_loadH (by assumption) rfl (by assumption) (by rfl)) rfl rfl rfl ?_) | (refine cL_fieldAddr ?_; refine L_val (R_fa rfl) rfl rfl rfl ?_) | (refine cL_nilCheck ?_; refine L_val (R_nil rfl) rfl rfl rfl ?_) | (refine cL_assign ?_; refine L_val R_assign rfl rfl rfl ?_) | (refine cL_extract ?_; refine L_val (R_extract rfl rfl) rfl rfl rfl ?_) | (refine cL_typeAssert ?_; first | refine L_val (R_taY rfl) rfl rfl rfl ?_ | refine L_val (R_taN rfl rfl) rfl rfl rfl ?_ | refine L_val (R_taNil rfl) rfl rfl rfl ?_) | (refine cL_call ?_; first | refine L_callI (unalias_any _ _ _ rfl) rfl rfl ?_ | refine L_val (R_len rfl) rfl rfl rfl ?_) | (refine cL_pick ?_; first | refine L_val (R_pickT rfl) rfl rfl rfl ?_ | refine L_val (R_pickF rfl) rfl rfl rfl ?_) | (refine cL_eql ?_; first | refine L_valB (R_eqIf rfl rfl (hA.live hl) (hA.live hl')) e rfl rfl rfl ?_ | refine L_val (R_eqPN rfl rfl) rfl rfl rfl ?_ | refine L_val (R_eqI rfl rfl) rfl rfl rfl ?_ | refine L_val (R_eqB rfl rfl) rfl rfl rfl ?_ | refine L_val (R_eqIfN rfl rfl) rfl rfl rfl ?_ | refine L_val (R_eqIfNN rfl) rfl rfl rfl ?_) | (refine cL_neq ?_; first | refine L_val (R_nePN rfl rfl) rfl rfl rfl ?_ | refine L_val (R_neI rfl rfl) rfl rfl rfl ?_ | refine L_val (R_neB rfl rfl) rfl rfl rfl ?_ | refine L_val (R_neIfN rfl rfl) rfl rfl rfl ?_ | refine L_val (R_neIfNN rfl) rfl rfl rfl ?_) | (refine cL_lss ?_; refine L_val (R_ltI rfl rfl) rfl rfl rfl ?_) | (refine cL_makeInterface ?_; refine L_val R_mkI rfl rfl rfl ?_) | (refine cL_not ?_; refine L_val (R_not rfl) rfl rfl rfl ?_) | (refine cL_add ?_; refine L_val (R_addI rfl rfl) rfl rfl rfl ?_) | refine L_nil ?_) | refine G_seq ?_ | refine G_region ?_ | refine G_skip ?_ | refine G_block ?_ | refine G_end ?_ | refine G_true rfl ?_ | refine G_false rfl ?_))
    (refine G_draw No (0 :: 1 :: 2 :: 3 :: 4 :: 5 :: 6 :: 7 :: 8 :: 9 :: 10 :: 11 :: 12 :: 13 :: 14 :: 15 :: 16 :: 17 :: 18 :: 19 :: 20 :: 21 :: 22 :: 23 :: 24 :: []) [] follows (by kernel_rfl) rfl ?_)
    (repeat (first | (refine cD_guard ?_; refine D_unwanted rfl rfl ?_) | (refine cD_move ?_; refine D_val0 (fun _ _ => R_move) rfl rfl ?_) | (refine cD_load ?_; refine D_val0 (fun w he => R_loadH (hAg w he) rfl (by assumption) (by rfl)) rfl rfl ?_) | (refine cD_fieldAddr ?_; refine D_val0 (fun _ _ => R_fa rfl) rfl rfl ?_) | (refine cD_nilCheck ?_; refine D_val0 (fun _ _ => R_nil rfl) rfl rfl ?_) | (refine cD_assign ?_; refine D_val0 (fun _ _ => R_assign) rfl rfl ?_) | (refine cD_extract ?_; refine D_val0 (fun _ _ => R_extract rfl rfl) rfl rfl ?_) | (refine cD_typeAssert ?_; first | refine D_val0 (fun _ _ => R_taY rfl) rfl rfl ?_ | refine D_val0 (fun _ _ => R_taN rfl rfl) rfl rfl ?_ | refine D_val0 (fun _ _ => R_taNil rfl) rfl rfl ?_) | (refine cD_call ?_; first | refine D_callQ (fun w he => ih w (hAg w he)) rfl ?_ | refine D_val0 (fun _ _ => R_len rfl) rfl rfl ?_) | (refine cD_pick ?_; first | refine D_val0 (fun _ _ => R_pickT rfl) rfl rfl ?_ | refine D_val0 (fun _ _ => R_pickF rfl) rfl rfl ?_) | (refine cD_eql ?_; first | refine D_val0 (fun _ _ => R_eqPN rfl rfl) rfl rfl ?_ | refine D_val0 (fun _ _ => R_eqI rfl rfl) rfl rfl ?_ | refine D_val0 (fun _ _ => R_eqB rfl rfl) rfl rfl ?_ | refine D_val0 (fun _ _ => R_eqIfN rfl rfl) rfl rfl ?_ | refine D_val0 (fun _ _ => R_eqIfNN rfl) rfl rfl ?_) | (refine cD_neq ?_; first | refine D_val0 (fun _ _ => R_nePN rfl rfl) rfl rfl ?_ | refine D_val0 (fun _ _ => R_neI rfl rfl) rfl rfl ?_ | refine D_val0 (fun _ _ => R_neB rfl rfl) rfl rfl ?_ | refine D_val0 (fun _ _ => R_neIfN rfl rfl) rfl rfl ?_ | refine D_val0 (fun _ _ => R_neIfNN rfl) rfl rfl ?_) | (refine cD_lss ?_; refine D_val0 (fun _ _ => R_ltI rfl rfl) rfl rfl ?_) | (refine cD_makeInterface ?_; refine D_val0 (fun _ _ => R_mkI) rfl rfl ?_) | (refine cD_not ?_; refine D_val0 (fun _ _ => R_not rfl) rfl rfl ?_) | (refine cD_add ?_; refine D_val0 (fun _ _ => R_addI rfl rfl) rfl rfl ?_)))
    refine D_nil fun w1 hw1 => ?_
    (repeat (first | (refine cL ?_; first | (refine cL_guard ?_; refine L_unwanted rfl rfl rfl ?_) | (refine cL_move ?_; refine L_val R_move rfl rfl rfl ?_) | (refine cL_load ?_; first | refine L_val (R_loadB rfl (by assumption) (by rfl)) rfl rfl rfl ?_ | refine L_val (R_loadH (by assumption) rfl (by assumption) (by rfl)) rfl rfl rfl ?_) | (refine cL_fieldAddr ?_; refine L_val (R_fa rfl) rfl rfl rfl ?_) | (refine cL_nilCheck ?_; refine L_val (R_nil rfl) rfl rfl rfl ?_) | (refine cL_assign ?_; refine L_val R_assign rfl rfl rfl ?_) | (refine cL_extract ?_; refine L_val (R_extract rfl rfl) rfl rfl rfl ?_) | (refine cL_typeAssert ?_; first | refine L_val (R_taY rfl) rfl rfl rfl ?_ | refine L_val (R_taN rfl rfl) rfl rfl rfl ?_ | refine L_val (R_taNil rfl) rfl rfl rfl ?_) | (refine cL_call ?_; refine L_val (R_len rfl) rfl rfl rfl ?_) | (refine cL_pick ?_; first | refine L_val (R_pickT rfl) rfl rfl rfl ?_ | refine L_val (R_pickF rfl) rfl rfl rfl ?_) | (refine cL_eql ?_; first | refine L_val (R_eqPN rfl rfl) rfl rfl rfl ?_ | refine L_val (R_eqI rfl rfl) rfl rfl rfl ?_ | refine L_val (R_eqB rfl rfl) rfl rfl rfl ?_ | refine L_val (R_eqIfN rfl rfl) rfl rfl rfl ?_ | refine L_val (R_eqIfNN rfl) rfl rfl rfl ?_) | (refine cL_neq ?_; first | refine L_val (R_nePN rfl rfl) rfl rfl rfl ?_ | refine L_val (R_neI rfl rfl) rfl rfl rfl ?_ | refine L_val (R_neB rfl rfl) rfl rfl rfl ?_ | refine L_val (R_neIfN rfl rfl) rfl rfl rfl ?_ | refine L_val (R_neIfNN rfl) rfl rfl rfl ?_) | (refine cL_lss ?_; refine L_val (R_ltI rfl rfl) rfl rfl rfl ?_) | (refine cL_makeInterface ?_; refine L_val R_mkI rfl rfl rfl ?_) | (refine cL_not ?_; refine L_val (R_not rfl) rfl rfl rfl ?_) | (refine cL_add ?_; refine L_val (R_addI rfl rfl) rfl rfl rfl ?_) | refine L_nil ?_) | refine G_seq ?_ | refine G_region ?_ | refine G_skip ?_ | refine G_block ?_ | refine G_end ?_ | refine G_true rfl ?_ | refine G_false rfl ?_))
    (refine G_retF rfl ?_)
    exact ⟨_, rfl, rfl, hw1⟩

theorem id_chan {n n' : Int} {v v' : Value} {r : Bool} (hx : H a = some (Ob [.int .i64 n, v] 177)) (hy : H b = some (Ob [.int .i64 n', v'] 177)) (e : (Nat.beq 79 79 && peq (some ⟨a, 0, none⟩) (some ⟨b, 0, none⟩)) = false)
    (ih : ∀ w', Agree H w' → IdSays c v v' r w') : IdSays c (.iface 79 (ptr a)) (.iface 79 (ptr b)) (n == n' && r) w := by
  have hl : LiveH H a := ⟨_, _, _, hx⟩
  have hl' : LiveH H b := ⟨_, _, _, hy⟩
  have hAg : ∀ w', Ext No w w' → Agree H w' := fun _ he => hA.ext0 he
  unfold Cmp at hc
  cases e0 : (n == n') with
  | true =>
    (refine calls_enter Tryz.func24 Tryz.ntmps24 rfl rfl ?_)
    (repeat (first | (refine cL ?_; first | (refine cL_guard ?_; refine L_unwanted rfl rfl rfl ?_) | (refine cL_move ?_; refine L_val R_move rfl rfl rfl ?_) | (refine cL_load ?_; first | refine L_val (R_loadB rfl (by assumption) (by rfl)) rfl rfl rfl ?_ | refine L_val (R_loadH (by assumption) rfl (by assumption) (by rfl)) rfl rfl rfl ?_) | (refine cL_fieldAddr ?_; refine L_val (R_fa rfl) rfl rfl rfl ?_) | (refine cL_nilCheck ?_; refine L_val (R_nil rfl) rfl rfl rfl ?_) | (refine cL_assign ?_; refine L_val R_assign rfl rfl rfl ?_) | (refine cL_extract ?_; refine L_val (R_extract rfl rfl) rfl rfl rfl ?_) | (refine cL_typeAssert ?_; first | refine L_val (R_taY rfl) rfl rfl rfl ?_ | refine L_val (R_taN rfl rfl) rfl rfl rfl ?_ | refine L_val (R_taNil rfl) rfl rfl rfl ?_) | (refine cL_call ?_; first | refine L_callI (unalias_any _ _ _ rfl) rfl rfl ?_ | refine L_val (R_len rfl) rfl rfl rfl ?_) | (refine cL_pick ?_; first | refine L_val (R_pickT rfl) rfl rfl rfl ?_ | refine L_val (R_pickF rfl) rfl rfl rfl ?_) | (refine cL_eql ?_; first | refine L_valB (R_eqIf rfl rfl (hA.live hl) (hA.live hl')) e rfl rfl rfl ?_ | refine L_val (R_eqPN rfl rfl) rfl rfl rfl ?_ | refine L_val (R_eqI rfl rfl) rfl rfl rfl ?_ | refine L_val (R_eqB rfl rfl) rfl rfl rfl ?_ | refine L_val (R_eqIfN rfl rfl) rfl rfl rfl ?_ | refine L_val (R_eqIfNN rfl) rfl rfl rfl ?_) | (refine cL_neq ?_; first | refine L_val (R_nePN rfl rfl) rfl rfl rfl ?_ | refine L_val (R_neI rfl rfl) rfl rfl rfl ?_ | refine L_val (R_neB rfl rfl) rfl rfl rfl ?_ | refine L_val (R_neIfN rfl rfl) rfl rfl rfl ?_ | refine L_val (R_neIfNN rfl) rfl rfl rfl ?_) | (refine cL_lss ?_; refine L_val (R_ltI rfl rfl) rfl rfl rfl ?_) | (refine cL_makeInterface ?_; refine L_val R_mkI rfl rfl rfl ?_) | (refine cL_not ?_; refine L_val (R_not rfl) rfl rfl rfl ?_) | (refine cL_add ?_; refine L_val (R_addI rfl rfl) rfl rfl rfl ?_) | refine L_nil ?_) | refine G_seq ?_ | refine G_region ?_ | refine G_skip ?_ | refine G_block ?_ | refine G_end ?_ | refine G_true rfl ?_ | refine G_false rfl ?_))
    (refine G_draw No (0 :: 1 :: 2 :: 3 :: 4 :: 5 :: 6 :: 7 :: 8 :: 9 :: 10 :: 11 :: 12 :: 13 :: 14 :: 15 :: 16 :: 17 :: 18 :: 19 :: 20 :: 21 :: 22 :: []) [] follows (by kernel_rfl) rfl ?_)
    (repeat (first | (refine cD_guard ?_; refine D_unwanted rfl rfl ?_) | (refine cD_move ?_; refine D_val0 (fun _ _ => R_move) rfl rfl ?_) | (refine cD_load ?_; refine D_val0 (fun w he => R_loadH (hAg w he) rfl (by assumption) (by rfl)) rfl rfl ?_) | (refine cD_fieldAddr ?_; refine D_val0 (fun _ _ => R_fa rfl) rfl rfl ?_) | (refine cD_nilCheck ?_; refine D_val0 (fun _ _ => R_nil rfl) rfl rfl ?_) | (refine cD_assign ?_; refine D_val0 (fun _ _ => R_assign) rfl rfl ?_) | (refine cD_extract ?_; refine D_val0 (fun _ _ => R_extract rfl rfl) rfl rfl ?_) | (refine cD_typeAssert ?_; first | refine D_val0 (fun _ _ => R_taY rfl) rfl rfl ?_ | refine D_val0 (fun _ _ => R_taN rfl rfl) rfl rfl ?_ | refine D_val0 (fun _ _ => R_taNil rfl) rfl rfl ?_) | (refine cD_call ?_; first | refine D_callQ (fun w he => ih w (hAg w he)) rfl ?_ | refine D_val0 (fun _ _ => R_len rfl) rfl rfl ?_) | (refine cD_pick ?_; first | refine D_val0 (fun _ _ => R_pickT rfl) rfl rfl ?_ | refine D_val0 (fun _ _ => R_pickF rfl) rfl rfl ?_) | (refine cD_eql ?_; first | refine D_valB (fun _ _ => R_eqI rfl rfl) e0 rfl rfl ?_ | refine D_val0 (fun _ _ => R_eqPN rfl rfl) rfl rfl ?_ | refine D_val0 (fun _ _ => R_eqI rfl rfl) rfl rfl ?_ | refine D_val0 (fun _ _ => R_eqB rfl rfl) rfl rfl ?_ | refine D_val0 (fun _ _ => R_eqIfN rfl rfl) rfl rfl ?_ | refine D_val0 (fun _ _ => R_eqIfNN rfl) rfl rfl ?_) | (refine cD_neq ?_; first | refine D_val0 (fun _ _ => R_nePN rfl rfl) rfl rfl ?_ | refine D_val0 (fun _ _ => R_neI rfl rfl) rfl rfl ?_ | refine D_val0 (fun _ _ => R_neB rfl rfl) rfl rfl ?_ | refine D_val0 (fun _ _ => R_neIfN rfl rfl) rfl rfl ?_ | refine D_val0 (fun _ _ => R_neIfNN rfl) rfl rfl ?_) | (refine cD_lss ?_; refine D_val0 (fun _ _ => R_ltI rfl rfl) rfl rfl ?_) | (refine cD_makeInterface ?_; refine D_val0 (fun _ _ => R_mkI) rfl rfl ?_) | (refine cD_not ?_; refine D_val0 (fun _ _ => R_not rfl) rfl rfl ?_) | (refine cD_add ?_; refine D_val0 (fun _ _ => R_addI rfl rfl) rfl rfl ?_)))
    refine D_nil fun w1 hw1 => ?_
    (repeat (first | (refine cL ?_; first | (refine cL_guard ?_; refine L_unwanted rfl rfl rfl ?_) | (refine cL_move ?_; refine L_val R_move rfl rfl rfl ?_) | (refine cL_load ?_; first | refine L_val (R_loadB rfl (by assumption) (by rfl)) rfl rfl rfl ?_ | refine L_val (R_loadH (by assumption) rfl (by assumption) (by rfl)) rfl rfl rfl ?_) | (refine cL_fieldAddr ?_; refine L_val (R_fa rfl) rfl rfl rfl ?_) | (refine cL_nilCheck ?_; refine L_val (R_nil rfl) rfl rfl rfl ?_) | (refine cL_assign ?_; refine L_val R_assign rfl rfl rfl ?_) | (refine cL_extract ?_; refine L_val (R_extract rfl rfl) rfl rfl rfl ?_) | (refine cL_typeAssert ?_; first | refine L_val (R_taY rfl) rfl rfl rfl ?_ | refine L_val (R_taN rfl rfl) rfl rfl rfl ?_ | refine L_val (R_taNil rfl) rfl rfl rfl ?_) | (refine cL_call ?_; refine L_val (R_len rfl) rfl rfl rfl ?_) | (refine cL_pick ?_; first | refine L_val (R_pickT rfl) rfl rfl rfl ?_ | refine L_val (R_pickF rfl) rfl rfl rfl ?_) | (refine cL_eql ?_; first | refine L_val (R_eqPN rfl rfl) rfl rfl rfl ?_ | refine L_val (R_eqI rfl rfl) rfl rfl rfl ?_ | refine L_val (R_eqB rfl rfl) rfl rfl rfl ?_ | refine L_val (R_eqIfN rfl rfl) rfl rfl rfl ?_ | refine L_val (R_eqIfNN rfl) rfl rfl rfl ?_) | (refine cL_neq ?_; first | refine L_val (R_nePN rfl rfl) rfl rfl rfl ?_ | refine L_val (R_neI rfl rfl) rfl rfl rfl ?_ | refine L_val (R_neB rfl rfl) rfl rfl rfl ?_ | refine L_val (R_neIfN rfl rfl) rfl rfl rfl ?_ | refine L_val (R_neIfNN rfl) rfl rfl rfl ?_) | (refine cL_lss ?_; refine L_val (R_ltI rfl rfl) rfl rfl rfl ?_) | (refine cL_makeInterface ?_; refine L_val R_mkI rfl rfl rfl ?_) | (refine cL_not ?_; refine L_val (R_not rfl) rfl rfl rfl ?_) | (refine cL_add ?_; refine L_val (R_addI rfl rfl) rfl rfl rfl ?_) | refine L_nil ?_) | refine G_seq ?_ | refine G_region ?_ | refine G_skip ?_ | refine G_block ?_ | refine G_end ?_ | refine G_true rfl ?_ | refine G_false rfl ?_))
    (refine G_retF rfl ?_)
    exact ⟨_, rfl, rfl, hw1⟩
  | false =>
    (refine calls_enter Tryz.func24 Tryz.ntmps24 rfl rfl ?_)
    (repeat (first | (refine cL ?_; first | (refine cL_guard ?_; refine L_unwanted rfl rfl rfl ?_) | (refine cL_move ?_; refine L_val R_move rfl rfl rfl ?_) | (refine cL_load ?_; first | refine L_val (R_loadB rfl (by assumption) (by rfl)) rfl rfl rfl ?_ | refine L_val (R_loadH (by assumption) rfl (by assumption) (by rfl)) rfl rfl rfl ?_) | (refine cL_fieldAddr ?_; refine L_val (R_fa rfl) rfl rfl rfl ?_) | (refine cL_nilCheck ?_; refine L_val (R_nil rfl) rfl rfl rfl ?_) | (refine cL_assign ?_; refine L_val R_assign rfl rfl rfl ?_) | (refine cL_extract ?_; refine L_val (R_extract rfl rfl) rfl rfl rfl ?_) | (refine cL_typeAssert ?_; first | refine L_val (R_taY rfl) rfl rfl rfl ?_ | refine L_val (R_taN rfl rfl) rfl rfl rfl ?_ | refine L_val (R_taNil rfl) rfl rfl rfl ?_) | (refine cL_call ?_; first | refine L_callI (unalias_any _ _ _ rfl) rfl rfl ?_ | refine L_val (R_len rfl) rfl rfl rfl ?_) | (refine cL_pick ?_; first | refine L_val (R_pickT rfl) rfl rfl rfl ?_ | refine L_val (R_pickF rfl) rfl rfl rfl ?_) | (refine cL_eql ?_; first | refine L_valB (R_eqIf rfl rfl (hA.live hl) (hA.live hl')) e rfl rfl rfl ?_ | refine L_val (R_eqPN rfl rfl) rfl rfl rfl ?_ | refine L_val (R_eqI rfl rfl) rfl rfl rfl ?_ | refine L_val (R_eqB rfl rfl) rfl rfl rfl ?_ | refine L_val (R_eqIfN rfl rfl) rfl rfl rfl ?_ | refine L_val (R_eqIfNN rfl) rfl rfl rfl ?_) | (refine cL_neq ?_; first | refine L_val (R_nePN rfl rfl) rfl rfl rfl ?_ | refine L_val (R_neI rfl rfl) rfl rfl rfl ?_ | refine L_val (R_neB rfl rfl) rfl rfl rfl ?_ | refine L_val (R_neIfN rfl rfl) rfl rfl rfl ?_ | refine L_val (R_neIfNN rfl) rfl rfl rfl ?_) | (refine cL_lss ?_; refine L_val (R_ltI rfl rfl) rfl rfl rfl ?_) | (refine cL_makeInterface ?_; refine L_val R_mkI rfl rfl rfl ?_) | (refine cL_not ?_; refine L_val (R_not rfl) rfl rfl rfl ?_) | (refine cL_add ?_; refine L_val (R_addI rfl rfl) rfl rfl rfl ?_) | refine L_nil ?_) | refine G_seq ?_ | refine G_region ?_ | refine G_skip ?_ | refine G_block ?_ | refine G_end ?_ | refine G_true rfl ?_ | refine G_false rfl ?_))
    (refine G_draw No (0 :: 1 :: 2 :: 3 :: 4 :: 5 :: 6 :: 7 :: 8 :: 9 :: 10 :: 11 :: 12 :: 13 :: 14 :: 15 :: 16 :: 17 :: 18 :: 19 :: 20 :: 21 :: 22 :: []) [] follows (by kernel_rfl) rfl ?_)
    (repeat (first | (refine cD_guard ?_; refine D_unwanted rfl rfl ?_) | (refine cD_move ?_; refine D_val0 (fun _ _ => R_move) rfl rfl ?_) | (refine cD_load ?_; refine D_val0 (fun w he => R_loadH (hAg w he) rfl (by assumption) (by rfl)) rfl rfl ?_) | (refine cD_fieldAddr ?_; refine D_val0 (fun _ _ => R_fa rfl) rfl rfl ?_) | (refine cD_nilCheck ?_; refine D_val0 (fun _ _ => R_nil rfl) rfl rfl ?_) | (refine cD_assign ?_; refine D_val0 (fun _ _ => R_assign) rfl rfl ?_) | (refine cD_extract ?_; refine D_val0 (fun _ _ => R_extract rfl rfl) rfl rfl ?_) | (refine cD_typeAssert ?_; first | refine D_val0 (fun _ _ => R_taY rfl) rfl rfl ?_ | refine D_val0 (fun _ _ => R_taN rfl rfl) rfl rfl ?_ | refine D_val0 (fun _ _ => R_taNil rfl) rfl rfl ?_) | (refine cD_call ?_; refine D_val0 (fun _ _ => R_len rfl) rfl rfl ?_) | (refine cD_pick ?_; first | refine D_val0 (fun _ _ => R_pickT rfl) rfl rfl ?_ | refine D_val0 (fun _ _ => R_pickF rfl) rfl rfl ?_) | (refine cD_eql ?_; first | refine D_valB (fun _ _ => R_eqI rfl rfl) e0 rfl rfl ?_ | refine D_val0 (fun _ _ => R_eqPN rfl rfl) rfl rfl ?_ | refine D_val0 (fun _ _ => R_eqI rfl rfl) rfl rfl ?_ | refine D_val0 (fun _ _ => R_eqB rfl rfl) rfl rfl ?_ | refine D_val0 (fun _ _ => R_eqIfN rfl rfl) rfl rfl ?_ | refine D_val0 (fun _ _ => R_eqIfNN rfl) rfl rfl ?_) | (refine cD_neq ?_; first | refine D_val0 (fun _ _ => R_nePN rfl rfl) rfl rfl ?_ | refine D_val0 (fun _ _ => R_neI rfl rfl) rfl rfl ?_ | refine D_val0 (fun _ _ => R_neB rfl rfl) rfl rfl ?_ | refine D_val0 (fun _ _ => R_neIfN rfl rfl) rfl rfl ?_ | refine D_val0 (fun _ _ => R_neIfNN rfl) rfl rfl ?_) | (refine cD_lss ?_; refine D_val0 (fun _ _ => R_ltI rfl rfl) rfl rfl ?_) | (refine cD_makeInterface ?_; refine D_val0 (fun _ _ => R_mkI) rfl rfl ?_) | (refine cD_not ?_; refine D_val0 (fun _ _ => R_not rfl) rfl rfl ?_) | (refine cD_add ?_; refine D_val0 (fun _ _ => R_addI rfl rfl) rfl rfl ?_)))
    refine D_nil fun w1 hw1 => ?_
    (repeat (first | (refine cL ?_; first | (refine cL_guard ?_; refine L_unwanted rfl rfl rfl ?_) | (refine cL_move ?_; refine L_val R_move rfl rfl rfl ?_) | (refine cL_load ?_; first | refine L_val (R_loadB rfl (by assumption) (by rfl)) rfl rfl rfl ?_ | refine L_val (R_loadH (by assumption) rfl (by assumption) (by rfl)) rfl rfl rfl ?_) | (refine cL_fieldAddr ?_; refine L_val (R_fa rfl) rfl rfl rfl ?_) | (refine cL_nilCheck ?_; refine L_val (R_nil rfl) rfl rfl rfl ?_) | (refine cL_assign ?_; refine L_val R_assign rfl rfl rfl ?_) | (refine cL_extract ?_; refine L_val (R_extract rfl rfl) rfl rfl rfl ?_) | (refine cL_typeAssert ?_; first | refine L_val (R_taY rfl) rfl rfl rfl ?_ | refine L_val (R_taN rfl rfl) rfl rfl rfl ?_ | refine L_val (R_taNil rfl) rfl rfl rfl ?_) | (refine cL_call ?_; refine L_val (R_len rfl) rfl rfl rfl ?_) | (refine cL_pick ?_; first | refine L_val (R_pickT rfl) rfl rfl rfl ?_ | refine L_val (R_pickF rfl) rfl rfl rfl ?_) | (refine cL_eql ?_; first | refine L_val (R_eqPN rfl rfl) rfl rfl rfl ?_ | refine L_val (R_eqI rfl rfl) rfl rfl rfl ?_ | refine L_val (R_eqB rfl rfl) rfl rfl rfl ?_ | refine L_val (R_eqIfN rfl rfl) rfl rfl rfl ?_ | refine L_val (R_eqIfNN rfl) rfl rfl rfl ?_) | (refine cL_neq ?_; first | refine L_val (R_nePN rfl rfl) rfl rfl rfl ?_ | refine L_val (R_neI rfl rfl) rfl rfl rfl ?_ | refine L_val (R_neB rfl rfl) rfl rfl rfl ?_ | refine L_val (R_neIfN rfl rfl) rfl rfl rfl ?_ | refine L_val (R_neIfNN rfl) rfl rfl rfl ?_) | (refine cL_lss ?_; refine L_val (R_ltI rfl rfl) rfl rfl rfl ?_) | (refine cL_makeInterface ?_; refine L_val R_mkI rfl rfl rfl ?_) | (refine cL_not ?_; refine L_val (R_not rfl) rfl rfl rfl ?_) | (refine cL_add ?_; refine L_val (R_addI rfl rfl) rfl rfl rfl ?_) | refine L_nil ?_) | refine G_seq ?_ | refine G_region ?_ | refine G_skip ?_ | refine G_block ?_ | refine G_end ?_ | refine G_true rfl ?_ | refine G_false rfl ?_))
    (refine G_retF rfl ?_)
    exact ⟨_, rfl, rfl, hw1⟩
end
end Go.Proofs.YtmmcjnfgcaefpaaGreatDoor

/-
  The walk's own rules, sixth part: frames at the head of a loop.
-/
namespace Go.Proofs.YtmmcjnfgcaefpaaGreatDoor

/-- a frame whose listed slots hold these values -/
def with_ : List (Nat × Value) → Fm → Fm
  | [], f => f
  | (d, v) :: l, f => upd (with_ l f) d v
def hasL : List (Nat × Value) → Fm → Prop
  | [], _ => True
  | (d, v) :: l, f => f d = v ∧ hasL l f
theorem upd_id (f : Fm) (d : Nat) : upd f d (f d) = f := by
  funext t
  unfold upd
  cases h : Nat.beq t d with
  | true => rw [Nat.eq_of_beq_eq_true h]; rfl
  | false => rfl
theorem with_self : ∀ {l : List (Nat × Value)} {f : Fm}, hasL l f → f = with_ l f
  | [], _, _ => rfl
  | (d, v) :: l, f, ⟨h1, h2⟩ => by
    show f = upd (with_ l f) d v
    rw [← with_self h2, ← h1, upd_id]

def intOf : Value → Int
  | .int _ n => n
  | _ => 0

theorem ia0 (b i : Nat) : (Value.pointer (some ⟨b, 0 + ((i : Nat) : Int).toNat * 1, none⟩)) = .pointer (some ⟨b, i, none⟩) := by simp
theorem wrap_i64 {n : Int} (h0 : -9223372036854775808 ≤ n) (h1 : n < 9223372036854775808) : IntKind.i64.wrap n = n := by
  simp [IntKind.wrap, IntKind.signed, IntKind.bits]
  omega
theorem succ_i64 {i len : Nat} (h : i < len) (hl : len < 9223372036854775808) : Value.int .i64 (IntKind.i64.wrap ((i : Int) + 1)) = .int .i64 ((i + 1 : Nat) : Int) := by
  rw [wrap_i64 (by omega) (by omega)]; rfl

theorem allR_true {p : Nat → Bool} {n : Nat} (h : ∀ j, j < n → p j = true) : (List.range n).all p = true := by
  simp only [List.all_eq_true, List.mem_range]; exact h
theorem allR_false {p : Nat → Bool} {n i : Nat} (hi : i < n) (h : p i = false) : (List.range n).all p = false := by
  rw [List.all_eq_false]; exact ⟨i, List.mem_range.2 hi, by simp [h]⟩

/-- a loop over 0, 1 .. len - 1 that looks: the listed slots stand, nothing is turned -/
def CountI (s0 sl : Nat) (len : Nat) (l : List (Nat × Value)) (wb : World) (J : Nat → Prop) (f : Fm) (ds : List Deferred) (w : World) : Prop :=
  ds = [] ∧ Ext No wb w ∧ ∃ (f0 : Fm) (i : Nat), f = with_ ((s0, .int .i64 (i : Int)) :: (sl, .int .i64 (len : Int)) :: l) f0 ∧ i ≤ len ∧ J i
def countM (s0 sl : Nat) (f : Fm) : Nat := (intOf (f sl) - intOf (f s0)).toNat
end Go.Proofs.YtmmcjnfgcaefpaaGreatDoor

/-
  Identical types, third part: fields, parameters.
-/
namespace Go.Proofs.YtmmcjnfgcaefpaaGreatDoor
set_option maxRecDepth 100000
set_option maxHeartbeats 4000000
attribute [local irreducible] Calls execOp

theorem VarsIs.get {H : Hp} : ∀ {vs : List Value} {nms : List ByteArray} {xs : List Value} {i : Nat} {v : Value}, VarsIs H nms vs xs → vs[i]? = some v →
    ∃ nm a pos pkg kd, nms[i]? = some nm ∧ lget xs i = some (ptr a) ∧ H a = some (Ob [pos, pkg, .string nm, v, kd, .bool false] 148)
  | [], _, _, _, _, _, hv => by simp at hv
  | _ :: _, [], xs, _, _, h, _ => by cases xs <;> exact h.elim
  | _ :: _, _ :: _, [], _, _, h, _ => h.elim
  | v :: vs, nm :: nms, x :: xs, 0, u, ⟨⟨a, pos, pkg, kd, h1, h2⟩, _⟩, hv => by
    simp only [List.getElem?_cons_zero, Option.some.injEq] at hv
    subst hv
    exact ⟨nm, a, pos, pkg, kd, rfl, by rw [h1]; rfl, h2⟩
  | v :: vs, nm :: nms, x :: xs, i + 1, u, ⟨_, h3⟩, hv => by
    obtain ⟨nm', a, pos, pkg, kd, e1, e2, e3⟩ := VarsIs.get (i := i) h3 (by simpa using hv)
    exact ⟨nm', a, pos, pkg, kd, by simpa using e1, e2, e3⟩

def fieldB (nms nms' : List ByteArray) (r : Nat → Bool) (j : Nat) : Bool := beqB (nms[j]?.getD ⟨#[]⟩) (nms'[j]?.getD ⟨#[]⟩) && r j

section
variable {H : Hp} {c a b : Nat} (w : World) (hA : Agree H w) (hc : Cmp H c)
include hA hc

theorem id_struct {nms nms' : List ByteArray} {vs vs' : List Value} {sl sl' : Value} {r : Nat → Bool} (hp : Props H) (hx : H a = some (Ob [sl, .slice none 0 0] 146)) (hy : H b = some (Ob [sl', .slice none 0 0] 146))
    (hs : VarSl H nms vs sl) (hs' : VarSl H nms' vs' sl') (hcap : ∀ s ∈ nms, capital s) (hbd : vs.length < 9223372036854775808)
    (e : (Nat.beq 87 87 && peq (some ⟨a, 0, none⟩) (some ⟨b, 0, none⟩)) = false)
    (ih : ∀ i v v', vs[i]? = some v → vs'[i]? = some v' → ∀ w', Agree H w' → IdSays c v v' (r i) w') :
    IdSays c (.iface 87 (ptr a)) (.iface 87 (ptr b)) (decide (vs.length = vs'.length) && (List.range vs.length).all (fieldB nms nms' r)) w := by
  have hl : LiveH H a := ⟨_, _, _, hx⟩
  have hl' : LiveH H b := ⟨_, _, _, hy⟩
  unfold Cmp at hc
  obtain ⟨b1, cap, xs, rfl, h2, h3⟩ := hs
  obtain ⟨b1', cap', xs', rfl, h2', h3'⟩ := hs'
  cases hlen : decide (vs.length = vs'.length) with
  | false =>
    have en : ((vs.length : Int) == (vs'.length : Int)) = false := by
      have := of_decide_eq_false hlen
      simp
      omega
    (refine calls_enter Tryz.func24 Tryz.ntmps24 rfl rfl ?_)
    (repeat (first | (refine cL ?_; first | (refine cL_guard ?_; refine L_unwanted rfl rfl rfl ?_) | (refine cL_move ?_; refine L_val R_move rfl rfl rfl ?_) | (refine cL_load ?_; first | refine L_val (R_loadB rfl (by assumption) (by rfl)) rfl rfl rfl ?_ | refine L_val (R_loadH (by assumption) rfl (by assumption) (by rfl)) rfl rfl rfl ?_) | (refine cL_fieldAddr ?_; refine L_val (R_fa rfl) rfl rfl rfl ?_) | (refine cL_nilCheck ?_; refine L_val (R_nil rfl) rfl rfl rfl ?_) | (refine cL_assign ?_; refine L_val R_assign rfl rfl rfl ?_) | (refine cL_extract ?_; refine L_val (R_extract rfl rfl) rfl rfl rfl ?_) | (refine cL_typeAssert ?_; first | refine L_val (R_taY rfl) rfl rfl rfl ?_ | refine L_val (R_taN rfl rfl) rfl rfl rfl ?_ | refine L_val (R_taNil rfl) rfl rfl rfl ?_) | (refine cL_call ?_; first | refine L_callI (unalias_any _ _ _ rfl) rfl rfl ?_ | refine L_callI (numFields_any _ hA hx) rfl rfl ?_ | refine L_callI (numFields_any _ hA hy) rfl rfl ?_ | refine L_val (R_len rfl) rfl rfl rfl ?_) | (refine cL_pick ?_; first | refine L_val (R_pickT rfl) rfl rfl rfl ?_ | refine L_val (R_pickF rfl) rfl rfl rfl ?_) | (refine cL_eql ?_; first | refine L_valB (R_eqIf rfl rfl (hA.live hl) (hA.live hl')) e rfl rfl rfl ?_ | refine L_valB (R_eqI rfl rfl) en rfl rfl rfl ?_ | refine L_val (R_eqPN rfl rfl) rfl rfl rfl ?_ | refine L_val (R_eqI rfl rfl) rfl rfl rfl ?_ | refine L_val (R_eqB rfl rfl) rfl rfl rfl ?_ | refine L_val (R_eqIfN rfl rfl) rfl rfl rfl ?_ | refine L_val (R_eqIfNN rfl) rfl rfl rfl ?_) | (refine cL_neq ?_; first | refine L_val (R_nePN rfl rfl) rfl rfl rfl ?_ | refine L_val (R_neI rfl rfl) rfl rfl rfl ?_ | refine L_val (R_neB rfl rfl) rfl rfl rfl ?_ | refine L_val (R_neIfN rfl rfl) rfl rfl rfl ?_ | refine L_val (R_neIfNN rfl) rfl rfl rfl ?_) | (refine cL_lss ?_; refine L_val (R_ltI rfl rfl) rfl rfl rfl ?_) | (refine cL_makeInterface ?_; refine L_val R_mkI rfl rfl rfl ?_) | (refine cL_not ?_; refine L_val (R_not rfl) rfl rfl rfl ?_) | (refine cL_add ?_; refine L_val (R_addI rfl rfl) rfl rfl rfl ?_) | refine L_nil ?_) | refine G_seq ?_ | refine G_region ?_ | refine G_skip ?_ | refine G_block ?_ | refine G_end ?_ | refine G_true rfl ?_ | refine G_false rfl ?_))
    (refine G_retF rfl ?_)
    exact ⟨_, rfl, rfl, Ext.refl _ _⟩
  | true =>
    have hle := of_decide_eq_true hlen
    have en : ((vs.length : Int) == (vs'.length : Int)) = true := by rw [hle]; simp
    simp only [Bool.true_and]
    (refine calls_enter Tryz.func24 Tryz.ntmps24 rfl rfl ?_)
    (repeat (first | (refine cL ?_; first | (refine cL_guard ?_; refine L_unwanted rfl rfl rfl ?_) | (refine cL_move ?_; refine L_val R_move rfl rfl rfl ?_) | (refine cL_load ?_; first | refine L_val (R_loadB rfl (by assumption) (by rfl)) rfl rfl rfl ?_ | refine L_val (R_loadH (by assumption) rfl (by assumption) (by rfl)) rfl rfl rfl ?_) | (refine cL_fieldAddr ?_; refine L_val (R_fa rfl) rfl rfl rfl ?_) | (refine cL_nilCheck ?_; refine L_val (R_nil rfl) rfl rfl rfl ?_) | (refine cL_assign ?_; refine L_val R_assign rfl rfl rfl ?_) | (refine cL_extract ?_; refine L_val (R_extract rfl rfl) rfl rfl rfl ?_) | (refine cL_typeAssert ?_; first | refine L_val (R_taY rfl) rfl rfl rfl ?_ | refine L_val (R_taN rfl rfl) rfl rfl rfl ?_ | refine L_val (R_taNil rfl) rfl rfl rfl ?_) | (refine cL_call ?_; first | refine L_callI (unalias_any _ _ _ rfl) rfl rfl ?_ | refine L_callI (numFields_any _ hA hx) rfl rfl ?_ | refine L_callI (numFields_any _ hA hy) rfl rfl ?_ | refine L_val (R_len rfl) rfl rfl rfl ?_) | (refine cL_pick ?_; first | refine L_val (R_pickT rfl) rfl rfl rfl ?_ | refine L_val (R_pickF rfl) rfl rfl rfl ?_) | (refine cL_eql ?_; first | refine L_valB (R_eqIf rfl rfl (hA.live hl) (hA.live hl')) e rfl rfl rfl ?_ | refine L_valB (R_eqI rfl rfl) en rfl rfl rfl ?_ | refine L_val (R_eqPN rfl rfl) rfl rfl rfl ?_ | refine L_val (R_eqI rfl rfl) rfl rfl rfl ?_ | refine L_val (R_eqB rfl rfl) rfl rfl rfl ?_ | refine L_val (R_eqIfN rfl rfl) rfl rfl rfl ?_ | refine L_val (R_eqIfNN rfl) rfl rfl rfl ?_) | (refine cL_neq ?_; first | refine L_val (R_nePN rfl rfl) rfl rfl rfl ?_ | refine L_val (R_neI rfl rfl) rfl rfl rfl ?_ | refine L_val (R_neB rfl rfl) rfl rfl rfl ?_ | refine L_val (R_neIfN rfl rfl) rfl rfl rfl ?_ | refine L_val (R_neIfNN rfl) rfl rfl rfl ?_) | (refine cL_lss ?_; refine L_val (R_ltI rfl rfl) rfl rfl rfl ?_) | (refine cL_makeInterface ?_; refine L_val R_mkI rfl rfl rfl ?_) | (refine cL_not ?_; refine L_val (R_not rfl) rfl rfl rfl ?_) | (refine cL_add ?_; refine L_val (R_addI rfl rfl) rfl rfl rfl ?_) | refine L_nil ?_) | refine G_seq ?_ | refine G_region ?_ | refine G_skip ?_ | refine G_block ?_ | refine G_end ?_ | refine G_true rfl ?_ | refine G_false rfl ?_))
    refine G_loop (CountI 195 194 vs.length [(0, ptr c), (3, .pointer none), (18, ptr a), (19, ptr b), (193, .slice (some ⟨b1, 0, none⟩) vs.length cap)] w fun i => ∀ j, j < i → fieldB nms nms' r j = true) (fun f _ _ => countM 195 194 f)
      ⟨rfl, Ext.refl _ _, _, 0, with_self ⟨rfl, rfl, rfl, rfl, rfl, rfl, rfl, trivial⟩, Nat.zero_le _, fun j hj => absurd hj (Nat.not_lt_zero j)⟩ ?_
    rintro f ds wr ⟨rfl, hext, f0, i, rfl, hi, hJ⟩
    have hAr : Agree H wr := hA.ext0 hext
    by_cases h : i < vs.length
    · have hb : decide ((i : Int) < (vs.length : Int)) = true := decide_eq_true (by omega)
      obtain ⟨v, hv⟩ : ∃ v, vs[i]? = some v := ⟨_, List.getElem?_eq_getElem h⟩
      obtain ⟨v', hv'⟩ : ∃ v', vs'[i]? = some v' := ⟨_, List.getElem?_eq_getElem (by omega)⟩
      obtain ⟨nm, av, pos, pkg, kd, n1, n2, n3⟩ := h3.get hv
      obtain ⟨nm', av', pos', pkg', kd', n1', n2', n3'⟩ := h3'.get hv'
      have hcn : capital nm := hcap _ (List.mem_of_getElem? n1)
      have hih := ih i v v' hv hv'
      have hfb : fieldB nms nms' r i = (beqB nm nm' && r i) := by simp [fieldB, n1, n1']
      have hneT : (!(((⟨#[]⟩ : ByteArray).toList) == ((⟨#[]⟩ : ByteArray).toList))) = false := by simp
      (repeat (first | (refine cL ?_; first | (refine cL_guard ?_; refine L_unwanted rfl rfl rfl ?_) | (refine cL_move ?_; refine L_val R_move rfl rfl rfl ?_) | (refine cL_load ?_; first | refine L_val (R_loadH hAr rfl h2 n2) rfl rfl rfl ?_ | refine L_val (R_loadH hAr rfl h2' n2') rfl rfl rfl ?_ | refine L_val (R_loadB rfl (by assumption) (by rfl)) rfl rfl rfl ?_ | refine L_val (R_loadH (by assumption) rfl (by assumption) (by rfl)) rfl rfl rfl ?_) | (refine cL_fieldAddr ?_; refine L_val (R_fa rfl) rfl rfl rfl ?_) | (refine cL_nilCheck ?_; refine L_val (R_nil rfl) rfl rfl rfl ?_) | (refine cL_assign ?_; refine L_val R_assign rfl rfl rfl ?_) | (refine cL_extract ?_; refine L_val (R_extract rfl rfl) rfl rfl rfl ?_) | (refine cL_typeAssert ?_; first | refine L_val (R_taY rfl) rfl rfl rfl ?_ | refine L_val (R_taN rfl rfl) rfl rfl rfl ?_ | refine L_val (R_taNil rfl) rfl rfl rfl ?_) | (refine cL_call ?_; refine L_val (R_len rfl) rfl rfl rfl ?_) | (refine cL_pick ?_; first | refine L_val (R_pickT rfl) rfl rfl rfl ?_ | refine L_val (R_pickF rfl) rfl rfl rfl ?_) | (refine cL_eql ?_; first | refine L_val (R_eqPN rfl rfl) rfl rfl rfl ?_ | refine L_val (R_eqI rfl rfl) rfl rfl rfl ?_ | refine L_val (R_eqB rfl rfl) rfl rfl rfl ?_ | refine L_val (R_eqIfN rfl rfl) rfl rfl rfl ?_ | refine L_val (R_eqIfNN rfl) rfl rfl rfl ?_) | (refine cL_neq ?_; first | refine L_val (R_nePN rfl rfl) rfl rfl rfl ?_ | refine L_val (R_neI rfl rfl) rfl rfl rfl ?_ | refine L_val (R_neB rfl rfl) rfl rfl rfl ?_ | refine L_val (R_neIfN rfl rfl) rfl rfl rfl ?_ | refine L_val (R_neIfNN rfl) rfl rfl rfl ?_) | (refine cL_lss ?_; first | refine L_valB (R_ltI rfl rfl) hb rfl rfl rfl ?_ | refine L_val (R_ltI rfl rfl) rfl rfl rfl ?_) | (refine cL_indexAddr ?_; refine L_valE (R_ia rfl rfl (by omega) (by omega)) (ia0 _ _) rfl rfl rfl ?_) | (refine cL_makeInterface ?_; refine L_val R_mkI rfl rfl rfl ?_) | (refine cL_not ?_; refine L_val (R_not rfl) rfl rfl rfl ?_) | (refine cL_add ?_; refine L_val (R_addI rfl rfl) rfl rfl rfl ?_) | refine L_nil ?_) | refine G_seq ?_ | refine G_region ?_ | refine G_skip ?_ | refine G_block ?_ | refine G_end ?_ | refine G_true rfl ?_ | refine G_false rfl ?_))
      (refine G_draw No (0 :: 1 :: 2 :: 3 :: 4 :: 5 :: 6 :: 7 :: 8 :: 9 :: 10 :: 11 :: 12 :: 13 :: 14 :: 15 :: 16 :: 17 :: 18 :: 19 :: 20 :: 21 :: 22 :: 23 :: 24 :: 25 :: 26 :: 27 :: 28 :: 29 :: 30 :: 31 :: 32 :: 33 :: 34 :: 35 :: 36 :: 37 :: 38 :: 39 :: 40 :: 41 :: 42 :: 43 :: 44 :: 45 :: 46 :: 47 :: 48 :: 49 :: 50 :: 51 :: 52 :: 53 :: 54 :: 55 :: 56 :: 57 :: []) [] follows (by kernel_rfl) rfl ?_)
      have hAg : ∀ w', Ext No wr w' → Agree H w' := fun _ he => hAr.ext0 he
      cases hbn : beqB nm nm' with
      | false =>
        rw [hbn, Bool.false_and] at hfb
        (repeat (first | (refine cD_guard ?_; refine D_unwanted rfl rfl ?_) | (refine cD_move ?_; refine D_val0 (fun _ _ => R_move) rfl rfl ?_) | (refine cD_load ?_; refine D_val0 (fun w he => R_loadH (hAg w he) rfl (by assumption) (by rfl)) rfl rfl ?_) | (refine cD_fieldAddr ?_; refine D_val0 (fun _ _ => R_fa rfl) rfl rfl ?_) | (refine cD_nilCheck ?_; refine D_val0 (fun _ _ => R_nil rfl) rfl rfl ?_) | (refine cD_assign ?_; refine D_val0 (fun _ _ => R_assign) rfl rfl ?_) | (refine cD_extract ?_; refine D_val0 (fun _ _ => R_extract rfl rfl) rfl rfl ?_) | (refine cD_typeAssert ?_; first | refine D_val0 (fun _ _ => R_taY rfl) rfl rfl ?_ | refine D_val0 (fun _ _ => R_taN rfl rfl) rfl rfl ?_ | refine D_val0 (fun _ _ => R_taNil rfl) rfl rfl ?_) | (refine cD_call ?_; first | refine D_callQ (fun w he => Is.qt (tag_any w (by omega) (hAg w he) hx)) rfl ?_ | refine D_callQ (fun w he => Is.qt (tag_any w (by omega) (hAg w he) hy)) rfl ?_ | refine D_callQ (fun w he => Is.qt (hbn ▸ sameId_any w (hAg w he) hp hcn n3)) rfl ?_ | refine D_val0 (fun _ _ => R_len rfl) rfl rfl ?_) | (refine cD_pick ?_; first | refine D_val0 (fun _ _ => R_pickT rfl) rfl rfl ?_ | refine D_val0 (fun _ _ => R_pickF rfl) rfl rfl ?_) | (refine cD_eql ?_; first | refine D_val0 (fun _ _ => R_eqPN rfl rfl) rfl rfl ?_ | refine D_val0 (fun _ _ => R_eqI rfl rfl) rfl rfl ?_ | refine D_val0 (fun _ _ => R_eqB rfl rfl) rfl rfl ?_ | refine D_val0 (fun _ _ => R_eqIfN rfl rfl) rfl rfl ?_ | refine D_val0 (fun _ _ => R_eqIfNN rfl) rfl rfl ?_) | (refine cD_neq ?_; first | refine D_valB (fun _ _ => R_neS rfl rfl) hneT rfl rfl ?_ | refine D_val0 (fun _ _ => R_nePN rfl rfl) rfl rfl ?_ | refine D_val0 (fun _ _ => R_neI rfl rfl) rfl rfl ?_ | refine D_val0 (fun _ _ => R_neB rfl rfl) rfl rfl ?_ | refine D_val0 (fun _ _ => R_neIfN rfl rfl) rfl rfl ?_ | refine D_val0 (fun _ _ => R_neIfNN rfl) rfl rfl ?_) | (refine cD_lss ?_; refine D_val0 (fun _ _ => R_ltI rfl rfl) rfl rfl ?_) | (refine cD_makeInterface ?_; refine D_val0 (fun _ _ => R_mkI) rfl rfl ?_) | (refine cD_not ?_; refine D_val0 (fun _ _ => R_not rfl) rfl rfl ?_) | (refine cD_add ?_; refine D_val0 (fun _ _ => R_addI rfl rfl) rfl rfl ?_)))
        refine D_nil fun w1 hw1 => ?_
        (repeat (first | (refine cL ?_; first | (refine cL_guard ?_; refine L_unwanted rfl rfl rfl ?_) | (refine cL_move ?_; refine L_val R_move rfl rfl rfl ?_) | (refine cL_load ?_; first | refine L_val (R_loadB rfl (by assumption) (by rfl)) rfl rfl rfl ?_ | refine L_val (R_loadH (by assumption) rfl (by assumption) (by rfl)) rfl rfl rfl ?_) | (refine cL_fieldAddr ?_; refine L_val (R_fa rfl) rfl rfl rfl ?_) | (refine cL_nilCheck ?_; refine L_val (R_nil rfl) rfl rfl rfl ?_) | (refine cL_assign ?_; refine L_val R_assign rfl rfl rfl ?_) | (refine cL_extract ?_; refine L_val (R_extract rfl rfl) rfl rfl rfl ?_) | (refine cL_typeAssert ?_; first | refine L_val (R_taY rfl) rfl rfl rfl ?_ | refine L_val (R_taN rfl rfl) rfl rfl rfl ?_ | refine L_val (R_taNil rfl) rfl rfl rfl ?_) | (refine cL_call ?_; refine L_val (R_len rfl) rfl rfl rfl ?_) | (refine cL_pick ?_; first | refine L_val (R_pickT rfl) rfl rfl rfl ?_ | refine L_val (R_pickF rfl) rfl rfl rfl ?_) | (refine cL_eql ?_; first | refine L_val (R_eqPN rfl rfl) rfl rfl rfl ?_ | refine L_val (R_eqI rfl rfl) rfl rfl rfl ?_ | refine L_val (R_eqB rfl rfl) rfl rfl rfl ?_ | refine L_val (R_eqIfN rfl rfl) rfl rfl rfl ?_ | refine L_val (R_eqIfNN rfl) rfl rfl rfl ?_) | (refine cL_neq ?_; first | refine L_val (R_nePN rfl rfl) rfl rfl rfl ?_ | refine L_val (R_neI rfl rfl) rfl rfl rfl ?_ | refine L_val (R_neB rfl rfl) rfl rfl rfl ?_ | refine L_val (R_neIfN rfl rfl) rfl rfl rfl ?_ | refine L_val (R_neIfNN rfl) rfl rfl rfl ?_) | (refine cL_lss ?_; refine L_val (R_ltI rfl rfl) rfl rfl rfl ?_) | (refine cL_makeInterface ?_; refine L_val R_mkI rfl rfl rfl ?_) | (refine cL_not ?_; refine L_val (R_not rfl) rfl rfl rfl ?_) | (refine cL_add ?_; refine L_val (R_addI rfl rfl) rfl rfl rfl ?_) | refine L_nil ?_) | refine G_seq ?_ | refine G_region ?_ | refine G_skip ?_ | refine G_block ?_ | refine G_end ?_ | refine G_true rfl ?_ | refine G_false rfl ?_))
        (refine G_retF rfl ?_)
        exact ⟨_, rfl, congrArg Value.bool (allR_false h hfb).symm, hext.trans hw1⟩
      | true =>
        rw [hbn, Bool.true_and] at hfb
        cases hr : r i with
        | false =>
          rw [hr] at hfb hih
          (repeat (first | (refine cD_guard ?_; refine D_unwanted rfl rfl ?_) | (refine cD_move ?_; refine D_val0 (fun _ _ => R_move) rfl rfl ?_) | (refine cD_load ?_; refine D_val0 (fun w he => R_loadH (hAg w he) rfl (by assumption) (by rfl)) rfl rfl ?_) | (refine cD_fieldAddr ?_; refine D_val0 (fun _ _ => R_fa rfl) rfl rfl ?_) | (refine cD_nilCheck ?_; refine D_val0 (fun _ _ => R_nil rfl) rfl rfl ?_) | (refine cD_assign ?_; refine D_val0 (fun _ _ => R_assign) rfl rfl ?_) | (refine cD_extract ?_; refine D_val0 (fun _ _ => R_extract rfl rfl) rfl rfl ?_) | (refine cD_typeAssert ?_; first | refine D_val0 (fun _ _ => R_taY rfl) rfl rfl ?_ | refine D_val0 (fun _ _ => R_taN rfl rfl) rfl rfl ?_ | refine D_val0 (fun _ _ => R_taNil rfl) rfl rfl ?_) | (refine cD_call ?_; first | refine D_callQ (fun w he => Is.qt (tag_any w (by omega) (hAg w he) hx)) rfl ?_ | refine D_callQ (fun w he => Is.qt (tag_any w (by omega) (hAg w he) hy)) rfl ?_ | refine D_callQ (fun w he => Is.qt (hbn ▸ sameId_any w (hAg w he) hp hcn n3)) rfl ?_ | refine D_callQ (fun w he => hih w (hAg w he)) rfl ?_ | refine D_val0 (fun _ _ => R_len rfl) rfl rfl ?_) | (refine cD_pick ?_; first | refine D_val0 (fun _ _ => R_pickT rfl) rfl rfl ?_ | refine D_val0 (fun _ _ => R_pickF rfl) rfl rfl ?_) | (refine cD_eql ?_; first | refine D_val0 (fun _ _ => R_eqPN rfl rfl) rfl rfl ?_ | refine D_val0 (fun _ _ => R_eqI rfl rfl) rfl rfl ?_ | refine D_val0 (fun _ _ => R_eqB rfl rfl) rfl rfl ?_ | refine D_val0 (fun _ _ => R_eqIfN rfl rfl) rfl rfl ?_ | refine D_val0 (fun _ _ => R_eqIfNN rfl) rfl rfl ?_) | (refine cD_neq ?_; first | refine D_valB (fun _ _ => R_neS rfl rfl) hneT rfl rfl ?_ | refine D_val0 (fun _ _ => R_nePN rfl rfl) rfl rfl ?_ | refine D_val0 (fun _ _ => R_neI rfl rfl) rfl rfl ?_ | refine D_val0 (fun _ _ => R_neB rfl rfl) rfl rfl ?_ | refine D_val0 (fun _ _ => R_neIfN rfl rfl) rfl rfl ?_ | refine D_val0 (fun _ _ => R_neIfNN rfl) rfl rfl ?_) | (refine cD_lss ?_; refine D_val0 (fun _ _ => R_ltI rfl rfl) rfl rfl ?_) | (refine cD_makeInterface ?_; refine D_val0 (fun _ _ => R_mkI) rfl rfl ?_) | (refine cD_not ?_; refine D_val0 (fun _ _ => R_not rfl) rfl rfl ?_) | (refine cD_add ?_; refine D_val0 (fun _ _ => R_addI rfl rfl) rfl rfl ?_)))
          refine D_nil fun w1 hw1 => ?_
          (repeat (first | (refine cL ?_; first | (refine cL_guard ?_; refine L_unwanted rfl rfl rfl ?_) | (refine cL_move ?_; refine L_val R_move rfl rfl rfl ?_) | (refine cL_load ?_; first | refine L_val (R_loadB rfl (by assumption) (by rfl)) rfl rfl rfl ?_ | refine L_val (R_loadH (by assumption) rfl (by assumption) (by rfl)) rfl rfl rfl ?_) | (refine cL_fieldAddr ?_; refine L_val (R_fa rfl) rfl rfl rfl ?_) | (refine cL_nilCheck ?_; refine L_val (R_nil rfl) rfl rfl rfl ?_) | (refine cL_assign ?_; refine L_val R_assign rfl rfl rfl ?_) | (refine cL_extract ?_; refine L_val (R_extract rfl rfl) rfl rfl rfl ?_) | (refine cL_typeAssert ?_; first | refine L_val (R_taY rfl) rfl rfl rfl ?_ | refine L_val (R_taN rfl rfl) rfl rfl rfl ?_ | refine L_val (R_taNil rfl) rfl rfl rfl ?_) | (refine cL_call ?_; refine L_val (R_len rfl) rfl rfl rfl ?_) | (refine cL_pick ?_; first | refine L_val (R_pickT rfl) rfl rfl rfl ?_ | refine L_val (R_pickF rfl) rfl rfl rfl ?_) | (refine cL_eql ?_; first | refine L_val (R_eqPN rfl rfl) rfl rfl rfl ?_ | refine L_val (R_eqI rfl rfl) rfl rfl rfl ?_ | refine L_val (R_eqB rfl rfl) rfl rfl rfl ?_ | refine L_val (R_eqIfN rfl rfl) rfl rfl rfl ?_ | refine L_val (R_eqIfNN rfl) rfl rfl rfl ?_) | (refine cL_neq ?_; first | refine L_val (R_nePN rfl rfl) rfl rfl rfl ?_ | refine L_val (R_neI rfl rfl) rfl rfl rfl ?_ | refine L_val (R_neB rfl rfl) rfl rfl rfl ?_ | refine L_val (R_neIfN rfl rfl) rfl rfl rfl ?_ | refine L_val (R_neIfNN rfl) rfl rfl rfl ?_) | (refine cL_lss ?_; refine L_val (R_ltI rfl rfl) rfl rfl rfl ?_) | (refine cL_makeInterface ?_; refine L_val R_mkI rfl rfl rfl ?_) | (refine cL_not ?_; refine L_val (R_not rfl) rfl rfl rfl ?_) | (refine cL_add ?_; refine L_val (R_addI rfl rfl) rfl rfl rfl ?_) | refine L_nil ?_) | refine G_seq ?_ | refine G_region ?_ | refine G_skip ?_ | refine G_block ?_ | refine G_end ?_ | refine G_true rfl ?_ | refine G_false rfl ?_))
          (refine G_retF rfl ?_)
          exact ⟨_, rfl, congrArg Value.bool (allR_false h hfb).symm, hext.trans hw1⟩
        | true =>
          rw [hr] at hfb hih
          (repeat (first | (refine cD_guard ?_; refine D_unwanted rfl rfl ?_) | (refine cD_move ?_; refine D_val0 (fun _ _ => R_move) rfl rfl ?_) | (refine cD_load ?_; refine D_val0 (fun w he => R_loadH (hAg w he) rfl (by assumption) (by rfl)) rfl rfl ?_) | (refine cD_fieldAddr ?_; refine D_val0 (fun _ _ => R_fa rfl) rfl rfl ?_) | (refine cD_nilCheck ?_; refine D_val0 (fun _ _ => R_nil rfl) rfl rfl ?_) | (refine cD_assign ?_; refine D_val0 (fun _ _ => R_assign) rfl rfl ?_) | (refine cD_extract ?_; refine D_val0 (fun _ _ => R_extract rfl rfl) rfl rfl ?_) | (refine cD_typeAssert ?_; first | refine D_val0 (fun _ _ => R_taY rfl) rfl rfl ?_ | refine D_val0 (fun _ _ => R_taN rfl rfl) rfl rfl ?_ | refine D_val0 (fun _ _ => R_taNil rfl) rfl rfl ?_) | (refine cD_call ?_; first | refine D_callQ (fun w he => Is.qt (tag_any w (by omega) (hAg w he) hx)) rfl ?_ | refine D_callQ (fun w he => Is.qt (tag_any w (by omega) (hAg w he) hy)) rfl ?_ | refine D_callQ (fun w he => Is.qt (hbn ▸ sameId_any w (hAg w he) hp hcn n3)) rfl ?_ | refine D_callQ (fun w he => hih w (hAg w he)) rfl ?_ | refine D_val0 (fun _ _ => R_len rfl) rfl rfl ?_) | (refine cD_pick ?_; first | refine D_val0 (fun _ _ => R_pickT rfl) rfl rfl ?_ | refine D_val0 (fun _ _ => R_pickF rfl) rfl rfl ?_) | (refine cD_eql ?_; first | refine D_val0 (fun _ _ => R_eqPN rfl rfl) rfl rfl ?_ | refine D_val0 (fun _ _ => R_eqI rfl rfl) rfl rfl ?_ | refine D_val0 (fun _ _ => R_eqB rfl rfl) rfl rfl ?_ | refine D_val0 (fun _ _ => R_eqIfN rfl rfl) rfl rfl ?_ | refine D_val0 (fun _ _ => R_eqIfNN rfl) rfl rfl ?_) | (refine cD_neq ?_; first | refine D_valB (fun _ _ => R_neS rfl rfl) hneT rfl rfl ?_ | refine D_val0 (fun _ _ => R_nePN rfl rfl) rfl rfl ?_ | refine D_val0 (fun _ _ => R_neI rfl rfl) rfl rfl ?_ | refine D_val0 (fun _ _ => R_neB rfl rfl) rfl rfl ?_ | refine D_val0 (fun _ _ => R_neIfN rfl rfl) rfl rfl ?_ | refine D_val0 (fun _ _ => R_neIfNN rfl) rfl rfl ?_) | (refine cD_lss ?_; refine D_val0 (fun _ _ => R_ltI rfl rfl) rfl rfl ?_) | (refine cD_makeInterface ?_; refine D_val0 (fun _ _ => R_mkI) rfl rfl ?_) | (refine cD_not ?_; refine D_val0 (fun _ _ => R_not rfl) rfl rfl ?_) | (refine cD_add ?_; refine D_val0 (fun _ _ => R_addI rfl rfl) rfl rfl ?_)))
          refine D_nil fun w1 hw1 => ?_
          (repeat (first | (refine cL ?_; first | (refine cL_guard ?_; refine L_unwanted rfl rfl rfl ?_) | (refine cL_move ?_; refine L_val R_move rfl rfl rfl ?_) | (refine cL_load ?_; first | refine L_val (R_loadB rfl (by assumption) (by rfl)) rfl rfl rfl ?_ | refine L_val (R_loadH (by assumption) rfl (by assumption) (by rfl)) rfl rfl rfl ?_) | (refine cL_fieldAddr ?_; refine L_val (R_fa rfl) rfl rfl rfl ?_) | (refine cL_nilCheck ?_; refine L_val (R_nil rfl) rfl rfl rfl ?_) | (refine cL_assign ?_; refine L_val R_assign rfl rfl rfl ?_) | (refine cL_extract ?_; refine L_val (R_extract rfl rfl) rfl rfl rfl ?_) | (refine cL_typeAssert ?_; first | refine L_val (R_taY rfl) rfl rfl rfl ?_ | refine L_val (R_taN rfl rfl) rfl rfl rfl ?_ | refine L_val (R_taNil rfl) rfl rfl rfl ?_) | (refine cL_call ?_; refine L_val (R_len rfl) rfl rfl rfl ?_) | (refine cL_pick ?_; first | refine L_val (R_pickT rfl) rfl rfl rfl ?_ | refine L_val (R_pickF rfl) rfl rfl rfl ?_) | (refine cL_eql ?_; first | refine L_val (R_eqPN rfl rfl) rfl rfl rfl ?_ | refine L_val (R_eqI rfl rfl) rfl rfl rfl ?_ | refine L_val (R_eqB rfl rfl) rfl rfl rfl ?_ | refine L_val (R_eqIfN rfl rfl) rfl rfl rfl ?_ | refine L_val (R_eqIfNN rfl) rfl rfl rfl ?_) | (refine cL_neq ?_; first | refine L_val (R_nePN rfl rfl) rfl rfl rfl ?_ | refine L_val (R_neI rfl rfl) rfl rfl rfl ?_ | refine L_val (R_neB rfl rfl) rfl rfl rfl ?_ | refine L_val (R_neIfN rfl rfl) rfl rfl rfl ?_ | refine L_val (R_neIfNN rfl) rfl rfl rfl ?_) | (refine cL_lss ?_; refine L_val (R_ltI rfl rfl) rfl rfl rfl ?_) | (refine cL_makeInterface ?_; refine L_val R_mkI rfl rfl rfl ?_) | (refine cL_not ?_; refine L_val (R_not rfl) rfl rfl rfl ?_) | (refine cL_add ?_; first | refine L_valE (R_addI rfl rfl) (succ_i64 h hbd) rfl rfl rfl ?_ | refine L_val (R_addI rfl rfl) rfl rfl rfl ?_) | refine L_nil ?_) | refine G_seq ?_ | refine G_region ?_ | refine G_skip ?_ | refine G_block ?_ | refine G_end ?_ | refine G_true rfl ?_ | refine G_false rfl ?_))
          refine G_inv ⟨⟨rfl, hext.trans hw1, _, i + 1, with_self ⟨rfl, rfl, rfl, rfl, rfl, rfl, rfl, trivial⟩, h, fun j hj => ?_⟩, ?_⟩
          · rcases Nat.lt_succ_iff_lt_or_eq.1 hj with hj | rfl
            · exact hJ j hj
            · exact hfb
          · show ((vs.length : Int) - ((i + 1 : Nat) : Int)).toNat < ((vs.length : Int) - (i : Int)).toNat
            omega
    · have hb : decide ((i : Int) < (vs.length : Int)) = false := decide_eq_false (by omega)
      (repeat (first | (refine cL ?_; first | (refine cL_guard ?_; refine L_unwanted rfl rfl rfl ?_) | (refine cL_move ?_; refine L_val R_move rfl rfl rfl ?_) | (refine cL_load ?_; first | refine L_val (R_loadB rfl (by assumption) (by rfl)) rfl rfl rfl ?_ | refine L_val (R_loadH (by assumption) rfl (by assumption) (by rfl)) rfl rfl rfl ?_) | (refine cL_fieldAddr ?_; refine L_val (R_fa rfl) rfl rfl rfl ?_) | (refine cL_nilCheck ?_; refine L_val (R_nil rfl) rfl rfl rfl ?_) | (refine cL_assign ?_; refine L_val R_assign rfl rfl rfl ?_) | (refine cL_extract ?_; refine L_val (R_extract rfl rfl) rfl rfl rfl ?_) | (refine cL_typeAssert ?_; first | refine L_val (R_taY rfl) rfl rfl rfl ?_ | refine L_val (R_taN rfl rfl) rfl rfl rfl ?_ | refine L_val (R_taNil rfl) rfl rfl rfl ?_) | (refine cL_call ?_; refine L_val (R_len rfl) rfl rfl rfl ?_) | (refine cL_pick ?_; first | refine L_val (R_pickT rfl) rfl rfl rfl ?_ | refine L_val (R_pickF rfl) rfl rfl rfl ?_) | (refine cL_eql ?_; first | refine L_val (R_eqPN rfl rfl) rfl rfl rfl ?_ | refine L_val (R_eqI rfl rfl) rfl rfl rfl ?_ | refine L_val (R_eqB rfl rfl) rfl rfl rfl ?_ | refine L_val (R_eqIfN rfl rfl) rfl rfl rfl ?_ | refine L_val (R_eqIfNN rfl) rfl rfl rfl ?_) | (refine cL_neq ?_; first | refine L_val (R_nePN rfl rfl) rfl rfl rfl ?_ | refine L_val (R_neI rfl rfl) rfl rfl rfl ?_ | refine L_val (R_neB rfl rfl) rfl rfl rfl ?_ | refine L_val (R_neIfN rfl rfl) rfl rfl rfl ?_ | refine L_val (R_neIfNN rfl) rfl rfl rfl ?_) | (refine cL_lss ?_; first | refine L_valB (R_ltI rfl rfl) hb rfl rfl rfl ?_ | refine L_val (R_ltI rfl rfl) rfl rfl rfl ?_) | (refine cL_makeInterface ?_; refine L_val R_mkI rfl rfl rfl ?_) | (refine cL_not ?_; refine L_val (R_not rfl) rfl rfl rfl ?_) | (refine cL_add ?_; refine L_val (R_addI rfl rfl) rfl rfl rfl ?_) | refine L_nil ?_) | refine G_exit rfl ?_ | refine G_seq ?_ | refine G_region ?_ | refine G_skip ?_ | refine G_block ?_ | refine G_end ?_ | refine G_true rfl ?_ | refine G_false rfl ?_))
      (refine G_retF rfl ?_)
      exact ⟨_, rfl, congrArg Value.bool (allR_true fun j hj => hJ j (by omega)).symm, hext⟩
end
end Go.Proofs.YtmmcjnfgcaefpaaGreatDoor

/-
  Identical types, fourth part: parameters, functions, defined types.
-/
namespace Go.Proofs.YtmmcjnfgcaefpaaGreatDoor
set_option maxRecDepth 100000
set_option maxHeartbeats 4000000
attribute [local irreducible] Calls execOp

section
variable {H : Hp} {c : Nat} (w : World) (hA : Agree H w) (hc : Cmp H c)
include hA hc

theorem id_tuple {vs vs' : List Value} {x y : Value} {r : Nat → Bool} (hx : TupIs H vs x) (hy : TupIs H vs' y) (hbd : vs.length < 9223372036854775808)
    (hsame : x = y → (decide (vs.length = vs'.length) && (List.range vs.length).all r) = true)
    (ih : ∀ i v v', vs[i]? = some v → vs'[i]? = some v' → ∀ w', Agree H w' → IdSays c v v' (r i) w') :
    IdSays c (.iface 91 x) (.iface 91 y) (decide (vs.length = vs'.length) && (List.range vs.length).all r) w := by
  unfold Cmp at hc
  rcases hx with ⟨rfl, rfl⟩ | ⟨a, sl, rfl, hx, hs, hne⟩
  · rcases hy with ⟨rfl, rfl⟩ | ⟨b, sl', rfl, hy, hs', hne'⟩
    · rw [hsame rfl]
      have e : (Nat.beq 91 91 && peq none none) = true := rfl
      (refine calls_enter Tryz.func24 Tryz.ntmps24 rfl rfl ?_)
      (repeat (first | (refine cL ?_; first | (refine cL_guard ?_; refine L_unwanted rfl rfl rfl ?_) | (refine cL_move ?_; refine L_val R_move rfl rfl rfl ?_) | (refine cL_load ?_; first | refine L_val (R_loadB rfl (by assumption) (by rfl)) rfl rfl rfl ?_ | refine L_val (R_loadH (by assumption) rfl (by assumption) (by rfl)) rfl rfl rfl ?_) | (refine cL_fieldAddr ?_; refine L_val (R_fa rfl) rfl rfl rfl ?_) | (refine cL_nilCheck ?_; refine L_val (R_nil rfl) rfl rfl rfl ?_) | (refine cL_assign ?_; refine L_val R_assign rfl rfl rfl ?_) | (refine cL_extract ?_; refine L_val (R_extract rfl rfl) rfl rfl rfl ?_) | (refine cL_typeAssert ?_; first | refine L_val (R_taY rfl) rfl rfl rfl ?_ | refine L_val (R_taN rfl rfl) rfl rfl rfl ?_ | refine L_val (R_taNil rfl) rfl rfl rfl ?_) | (refine cL_call ?_; first | refine L_callI (unalias_any _ _ _ rfl) rfl rfl ?_ | refine L_val (R_len rfl) rfl rfl rfl ?_) | (refine cL_pick ?_; first | refine L_val (R_pickT rfl) rfl rfl rfl ?_ | refine L_val (R_pickF rfl) rfl rfl rfl ?_) | (refine cL_eql ?_; first | refine L_valB (R_eqIf rfl rfl trivial trivial) e rfl rfl rfl ?_ | refine L_val (R_eqPN rfl rfl) rfl rfl rfl ?_ | refine L_val (R_eqI rfl rfl) rfl rfl rfl ?_ | refine L_val (R_eqB rfl rfl) rfl rfl rfl ?_ | refine L_val (R_eqIfN rfl rfl) rfl rfl rfl ?_ | refine L_val (R_eqIfNN rfl) rfl rfl rfl ?_) | (refine cL_neq ?_; first | refine L_val (R_nePN rfl rfl) rfl rfl rfl ?_ | refine L_val (R_neI rfl rfl) rfl rfl rfl ?_ | refine L_val (R_neB rfl rfl) rfl rfl rfl ?_ | refine L_val (R_neIfN rfl rfl) rfl rfl rfl ?_ | refine L_val (R_neIfNN rfl) rfl rfl rfl ?_) | (refine cL_lss ?_; refine L_val (R_ltI rfl rfl) rfl rfl rfl ?_) | (refine cL_makeInterface ?_; refine L_val R_mkI rfl rfl rfl ?_) | (refine cL_not ?_; refine L_val (R_not rfl) rfl rfl rfl ?_) | (refine cL_add ?_; refine L_val (R_addI rfl rfl) rfl rfl rfl ?_) | refine L_nil ?_) | refine G_seq ?_ | refine G_region ?_ | refine G_skip ?_ | refine G_block ?_ | refine G_end ?_ | refine G_true rfl ?_ | refine G_false rfl ?_))
      (refine G_retF rfl ?_)
      exact ⟨_, rfl, rfl, Ext.refl _ _⟩
    · have hl' : LiveH H b := ⟨_, _, _, hy⟩
      have hn : 0 < vs'.length := List.length_pos_iff.2 hne'
      have hd : (decide (([] : List Value).length = vs'.length) && (List.range ([] : List Value).length).all r) = false := by
        rw [decide_eq_false (by simp; omega)]; rfl
      rw [hd]
      obtain ⟨b1', cap', xs', rfl, h2', h3'⟩ := hs'
      have e : (Nat.beq 91 91 && peq none (some ⟨b, 0, none⟩)) = false := rfl
      have en : (((0 : Nat) : Int) == (vs'.length : Int)) = false := by simp; omega
      (refine calls_enter Tryz.func24 Tryz.ntmps24 rfl rfl ?_)
      (repeat (first | (refine cL ?_; first | (refine cL_guard ?_; refine L_unwanted rfl rfl rfl ?_) | (refine cL_move ?_; refine L_val R_move rfl rfl rfl ?_) | (refine cL_load ?_; first | refine L_val (R_loadB rfl (by assumption) (by rfl)) rfl rfl rfl ?_ | refine L_val (R_loadH (by assumption) rfl (by assumption) (by rfl)) rfl rfl rfl ?_) | (refine cL_fieldAddr ?_; refine L_val (R_fa rfl) rfl rfl rfl ?_) | (refine cL_nilCheck ?_; refine L_val (R_nil rfl) rfl rfl rfl ?_) | (refine cL_assign ?_; refine L_val R_assign rfl rfl rfl ?_) | (refine cL_extract ?_; refine L_val (R_extract rfl rfl) rfl rfl rfl ?_) | (refine cL_typeAssert ?_; first | refine L_val (R_taY rfl) rfl rfl rfl ?_ | refine L_val (R_taN rfl rfl) rfl rfl rfl ?_ | refine L_val (R_taNil rfl) rfl rfl rfl ?_) | (refine cL_call ?_; first | refine L_callI (unalias_any _ _ _ rfl) rfl rfl ?_ | refine L_callI (tupLen_nil _) rfl rfl ?_ | refine L_callI (tupLen_any _ hA hy) rfl rfl ?_ | refine L_val (R_len rfl) rfl rfl rfl ?_) | (refine cL_pick ?_; first | refine L_val (R_pickT rfl) rfl rfl rfl ?_ | refine L_val (R_pickF rfl) rfl rfl rfl ?_) | (refine cL_eql ?_; first | refine L_valB (R_eqIf rfl rfl trivial (hA.live hl')) e rfl rfl rfl ?_ | refine L_valB (R_eqI rfl rfl) en rfl rfl rfl ?_ | refine L_val (R_eqPN rfl rfl) rfl rfl rfl ?_ | refine L_val (R_eqI rfl rfl) rfl rfl rfl ?_ | refine L_val (R_eqB rfl rfl) rfl rfl rfl ?_ | refine L_val (R_eqIfN rfl rfl) rfl rfl rfl ?_ | refine L_val (R_eqIfNN rfl) rfl rfl rfl ?_) | (refine cL_neq ?_; first | refine L_val (R_nePN rfl rfl) rfl rfl rfl ?_ | refine L_val (R_neI rfl rfl) rfl rfl rfl ?_ | refine L_val (R_neB rfl rfl) rfl rfl rfl ?_ | refine L_val (R_neIfN rfl rfl) rfl rfl rfl ?_ | refine L_val (R_neIfNN rfl) rfl rfl rfl ?_) | (refine cL_lss ?_; refine L_val (R_ltI rfl rfl) rfl rfl rfl ?_) | (refine cL_makeInterface ?_; refine L_val R_mkI rfl rfl rfl ?_) | (refine cL_not ?_; refine L_val (R_not rfl) rfl rfl rfl ?_) | (refine cL_add ?_; refine L_val (R_addI rfl rfl) rfl rfl rfl ?_) | refine L_nil ?_) | refine G_seq ?_ | refine G_region ?_ | refine G_skip ?_ | refine G_block ?_ | refine G_end ?_ | refine G_true rfl ?_ | refine G_false rfl ?_))
      (refine G_retF rfl ?_)
      exact ⟨_, rfl, rfl, Ext.refl _ _⟩
  · have hl : LiveH H a := ⟨_, _, _, hx⟩
    obtain ⟨b1, cap, xs, rfl, h2, h3⟩ := hs
    rcases hy with ⟨rfl, rfl⟩ | ⟨b, sl', rfl, hy, hs', hne'⟩
    · have hn : 0 < vs.length := List.length_pos_iff.2 hne
      have hd : (decide (vs.length = ([] : List Value).length) && (List.range vs.length).all r) = false := by
        rw [decide_eq_false (by simp; exact hne)]; rfl
      rw [hd]
      have e : (Nat.beq 91 91 && peq (some ⟨a, 0, none⟩) none) = false := rfl
      have en : ((vs.length : Int) == ((0 : Nat) : Int)) = false := by simp; omega
      (refine calls_enter Tryz.func24 Tryz.ntmps24 rfl rfl ?_)
      (repeat (first | (refine cL ?_; first | (refine cL_guard ?_; refine L_unwanted rfl rfl rfl ?_) | (refine cL_move ?_; refine L_val R_move rfl rfl rfl ?_) | (refine cL_load ?_; first | refine L_val (R_loadB rfl (by assumption) (by rfl)) rfl rfl rfl ?_ | refine L_val (R_loadH (by assumption) rfl (by assumption) (by rfl)) rfl rfl rfl ?_) | (refine cL_fieldAddr ?_; refine L_val (R_fa rfl) rfl rfl rfl ?_) | (refine cL_nilCheck ?_; refine L_val (R_nil rfl) rfl rfl rfl ?_) | (refine cL_assign ?_; refine L_val R_assign rfl rfl rfl ?_) | (refine cL_extract ?_; refine L_val (R_extract rfl rfl) rfl rfl rfl ?_) | (refine cL_typeAssert ?_; first | refine L_val (R_taY rfl) rfl rfl rfl ?_ | refine L_val (R_taN rfl rfl) rfl rfl rfl ?_ | refine L_val (R_taNil rfl) rfl rfl rfl ?_) | (refine cL_call ?_; first | refine L_callI (unalias_any _ _ _ rfl) rfl rfl ?_ | refine L_callI (tupLen_nil _) rfl rfl ?_ | refine L_callI (tupLen_any _ hA hx) rfl rfl ?_ | refine L_val (R_len rfl) rfl rfl rfl ?_) | (refine cL_pick ?_; first | refine L_val (R_pickT rfl) rfl rfl rfl ?_ | refine L_val (R_pickF rfl) rfl rfl rfl ?_) | (refine cL_eql ?_; first | refine L_valB (R_eqIf rfl rfl (hA.live hl) trivial) e rfl rfl rfl ?_ | refine L_valB (R_eqI rfl rfl) en rfl rfl rfl ?_ | refine L_val (R_eqPN rfl rfl) rfl rfl rfl ?_ | refine L_val (R_eqI rfl rfl) rfl rfl rfl ?_ | refine L_val (R_eqB rfl rfl) rfl rfl rfl ?_ | refine L_val (R_eqIfN rfl rfl) rfl rfl rfl ?_ | refine L_val (R_eqIfNN rfl) rfl rfl rfl ?_) | (refine cL_neq ?_; first | refine L_val (R_nePN rfl rfl) rfl rfl rfl ?_ | refine L_val (R_neI rfl rfl) rfl rfl rfl ?_ | refine L_val (R_neB rfl rfl) rfl rfl rfl ?_ | refine L_val (R_neIfN rfl rfl) rfl rfl rfl ?_ | refine L_val (R_neIfNN rfl) rfl rfl rfl ?_) | (refine cL_lss ?_; refine L_val (R_ltI rfl rfl) rfl rfl rfl ?_) | (refine cL_makeInterface ?_; refine L_val R_mkI rfl rfl rfl ?_) | (refine cL_not ?_; refine L_val (R_not rfl) rfl rfl rfl ?_) | (refine cL_add ?_; refine L_val (R_addI rfl rfl) rfl rfl rfl ?_) | refine L_nil ?_) | refine G_seq ?_ | refine G_region ?_ | refine G_skip ?_ | refine G_block ?_ | refine G_end ?_ | refine G_true rfl ?_ | refine G_false rfl ?_))
      (refine G_retF rfl ?_)
      exact ⟨_, rfl, rfl, Ext.refl _ _⟩
    · have hl' : LiveH H b := ⟨_, _, _, hy⟩
      obtain ⟨b1', cap', xs', rfl, h2', h3'⟩ := hs'
      cases hpq : peq (some ⟨a, 0, none⟩) (some ⟨b, 0, none⟩) with
      | true =>
        have hab := peq_true hpq
        subst hab
        rw [hsame rfl]
        exact id_eq w hA hl rfl
      | false =>
        have e : (Nat.beq 91 91 && peq (some ⟨a, 0, none⟩) (some ⟨b, 0, none⟩)) = false := by rw [hpq]; rfl
        cases hlen : decide (vs.length = vs'.length) with
        | false =>
          have en : ((vs.length : Int) == (vs'.length : Int)) = false := by
            have := of_decide_eq_false hlen
            simp
            omega
          (refine calls_enter Tryz.func24 Tryz.ntmps24 rfl rfl ?_)
          (repeat (first | (refine cL ?_; first | (refine cL_guard ?_; refine L_unwanted rfl rfl rfl ?_) | (refine cL_move ?_; refine L_val R_move rfl rfl rfl ?_) | (refine cL_load ?_; first | refine L_val (R_loadB rfl (by assumption) (by rfl)) rfl rfl rfl ?_ | refine L_val (R_loadH (by assumption) rfl (by assumption) (by rfl)) rfl rfl rfl ?_) | (refine cL_fieldAddr ?_; refine L_val (R_fa rfl) rfl rfl rfl ?_) | (refine cL_nilCheck ?_; refine L_val (R_nil rfl) rfl rfl rfl ?_) | (refine cL_assign ?_; refine L_val R_assign rfl rfl rfl ?_) | (refine cL_extract ?_; refine L_val (R_extract rfl rfl) rfl rfl rfl ?_) | (refine cL_typeAssert ?_; first | refine L_val (R_taY rfl) rfl rfl rfl ?_ | refine L_val (R_taN rfl rfl) rfl rfl rfl ?_ | refine L_val (R_taNil rfl) rfl rfl rfl ?_) | (refine cL_call ?_; first | refine L_callI (unalias_any _ _ _ rfl) rfl rfl ?_ | refine L_callI (tupLen_any _ hA hx) rfl rfl ?_ | refine L_callI (tupLen_any _ hA hy) rfl rfl ?_ | refine L_val (R_len rfl) rfl rfl rfl ?_) | (refine cL_pick ?_; first | refine L_val (R_pickT rfl) rfl rfl rfl ?_ | refine L_val (R_pickF rfl) rfl rfl rfl ?_) | (refine cL_eql ?_; first | refine L_valB (R_eqIf rfl rfl (hA.live hl) (hA.live hl')) e rfl rfl rfl ?_ | refine L_valB (R_eqI rfl rfl) en rfl rfl rfl ?_ | refine L_val (R_eqPN rfl rfl) rfl rfl rfl ?_ | refine L_val (R_eqI rfl rfl) rfl rfl rfl ?_ | refine L_val (R_eqB rfl rfl) rfl rfl rfl ?_ | refine L_val (R_eqIfN rfl rfl) rfl rfl rfl ?_ | refine L_val (R_eqIfNN rfl) rfl rfl rfl ?_) | (refine cL_neq ?_; first | refine L_val (R_nePN rfl rfl) rfl rfl rfl ?_ | refine L_val (R_neI rfl rfl) rfl rfl rfl ?_ | refine L_val (R_neB rfl rfl) rfl rfl rfl ?_ | refine L_val (R_neIfN rfl rfl) rfl rfl rfl ?_ | refine L_val (R_neIfNN rfl) rfl rfl rfl ?_) | (refine cL_lss ?_; refine L_val (R_ltI rfl rfl) rfl rfl rfl ?_) | (refine cL_makeInterface ?_; refine L_val R_mkI rfl rfl rfl ?_) | (refine cL_not ?_; refine L_val (R_not rfl) rfl rfl rfl ?_) | (refine cL_add ?_; refine L_val (R_addI rfl rfl) rfl rfl rfl ?_) | refine L_nil ?_) | refine G_seq ?_ | refine G_region ?_ | refine G_skip ?_ | refine G_block ?_ | refine G_end ?_ | refine G_true rfl ?_ | refine G_false rfl ?_))
          (refine G_retF rfl ?_)
          exact ⟨_, rfl, rfl, Ext.refl _ _⟩
        | true =>
          have hle := of_decide_eq_true hlen
          have en : ((vs.length : Int) == (vs'.length : Int)) = true := by rw [hle]; simp
          simp only [Bool.true_and]
          (refine calls_enter Tryz.func24 Tryz.ntmps24 rfl rfl ?_)
          (repeat (first | (refine cL ?_; first | (refine cL_guard ?_; refine L_unwanted rfl rfl rfl ?_) | (refine cL_move ?_; refine L_val R_move rfl rfl rfl ?_) | (refine cL_load ?_; first | refine L_val (R_loadB rfl (by assumption) (by rfl)) rfl rfl rfl ?_ | refine L_val (R_loadH (by assumption) rfl (by assumption) (by rfl)) rfl rfl rfl ?_) | (refine cL_fieldAddr ?_; refine L_val (R_fa rfl) rfl rfl rfl ?_) | (refine cL_nilCheck ?_; refine L_val (R_nil rfl) rfl rfl rfl ?_) | (refine cL_assign ?_; refine L_val R_assign rfl rfl rfl ?_) | (refine cL_extract ?_; refine L_val (R_extract rfl rfl) rfl rfl rfl ?_) | (refine cL_typeAssert ?_; first | refine L_val (R_taY rfl) rfl rfl rfl ?_ | refine L_val (R_taN rfl rfl) rfl rfl rfl ?_ | refine L_val (R_taNil rfl) rfl rfl rfl ?_) | (refine cL_call ?_; first | refine L_callI (unalias_any _ _ _ rfl) rfl rfl ?_ | refine L_callI (tupLen_any _ hA hx) rfl rfl ?_ | refine L_callI (tupLen_any _ hA hy) rfl rfl ?_ | refine L_val (R_len rfl) rfl rfl rfl ?_) | (refine cL_pick ?_; first | refine L_val (R_pickT rfl) rfl rfl rfl ?_ | refine L_val (R_pickF rfl) rfl rfl rfl ?_) | (refine cL_eql ?_; first | refine L_valB (R_eqIf rfl rfl (hA.live hl) (hA.live hl')) e rfl rfl rfl ?_ | refine L_valB (R_eqI rfl rfl) en rfl rfl rfl ?_ | refine L_val (R_eqPN rfl rfl) rfl rfl rfl ?_ | refine L_val (R_eqI rfl rfl) rfl rfl rfl ?_ | refine L_val (R_eqB rfl rfl) rfl rfl rfl ?_ | refine L_val (R_eqIfN rfl rfl) rfl rfl rfl ?_ | refine L_val (R_eqIfNN rfl) rfl rfl rfl ?_) | (refine cL_neq ?_; first | refine L_val (R_nePN rfl rfl) rfl rfl rfl ?_ | refine L_val (R_neI rfl rfl) rfl rfl rfl ?_ | refine L_val (R_neB rfl rfl) rfl rfl rfl ?_ | refine L_val (R_neIfN rfl rfl) rfl rfl rfl ?_ | refine L_val (R_neIfNN rfl) rfl rfl rfl ?_) | (refine cL_lss ?_; refine L_val (R_ltI rfl rfl) rfl rfl rfl ?_) | (refine cL_makeInterface ?_; refine L_val R_mkI rfl rfl rfl ?_) | (refine cL_not ?_; refine L_val (R_not rfl) rfl rfl rfl ?_) | (refine cL_add ?_; refine L_val (R_addI rfl rfl) rfl rfl rfl ?_) | refine L_nil ?_) | refine G_seq ?_ | refine G_region ?_ | refine G_skip ?_ | refine G_block ?_ | refine G_end ?_ | refine G_true rfl ?_ | refine G_false rfl ?_))
          refine G_loop (CountI 307 306 vs.length [(0, ptr c), (3, .pointer none), (28, ptr b), (305, .slice (some ⟨b1, 0, none⟩) vs.length cap)] w fun i => ∀ j, j < i → r j = true) (fun f _ _ => countM 307 306 f)
            ⟨rfl, Ext.refl _ _, _, 0, with_self ⟨rfl, rfl, rfl, rfl, rfl, rfl, trivial⟩, Nat.zero_le _, fun j hj => absurd hj (Nat.not_lt_zero j)⟩ ?_
          rintro f ds wr ⟨rfl, hext, f0, i, rfl, hi, hJ⟩
          have hAr : Agree H wr := hA.ext0 hext
          by_cases h : i < vs.length
          · have hb : decide ((i : Int) < (vs.length : Int)) = true := decide_eq_true (by omega)
            obtain ⟨v, hv⟩ : ∃ v, vs[i]? = some v := ⟨_, List.getElem?_eq_getElem h⟩
            obtain ⟨v', hv'⟩ : ∃ v', vs'[i]? = some v' := ⟨_, List.getElem?_eq_getElem (by omega)⟩
            obtain ⟨nm, av, pos, pkg, kd, n1, n2, n3⟩ := h3.get hv
            obtain ⟨nm', av', pos', pkg', kd', n1', n2', n3'⟩ := h3'.get hv'
            have hih := ih i v v' hv hv'
            (repeat (first | (refine cL ?_; first | (refine cL_guard ?_; refine L_unwanted rfl rfl rfl ?_) | (refine cL_move ?_; refine L_val R_move rfl rfl rfl ?_) | (refine cL_load ?_; first | refine L_val (R_loadH hAr rfl h2 n2) rfl rfl rfl ?_ | refine L_val (R_loadH hAr rfl h2' n2') rfl rfl rfl ?_ | refine L_val (R_loadB rfl (by assumption) (by rfl)) rfl rfl rfl ?_ | refine L_val (R_loadH (by assumption) rfl (by assumption) (by rfl)) rfl rfl rfl ?_) | (refine cL_fieldAddr ?_; refine L_val (R_fa rfl) rfl rfl rfl ?_) | (refine cL_nilCheck ?_; refine L_val (R_nil rfl) rfl rfl rfl ?_) | (refine cL_assign ?_; refine L_val R_assign rfl rfl rfl ?_) | (refine cL_extract ?_; refine L_val (R_extract rfl rfl) rfl rfl rfl ?_) | (refine cL_typeAssert ?_; first | refine L_val (R_taY rfl) rfl rfl rfl ?_ | refine L_val (R_taN rfl rfl) rfl rfl rfl ?_ | refine L_val (R_taNil rfl) rfl rfl rfl ?_) | (refine cL_call ?_; refine L_val (R_len rfl) rfl rfl rfl ?_) | (refine cL_pick ?_; first | refine L_val (R_pickT rfl) rfl rfl rfl ?_ | refine L_val (R_pickF rfl) rfl rfl rfl ?_) | (refine cL_eql ?_; first | refine L_val (R_eqPN rfl rfl) rfl rfl rfl ?_ | refine L_val (R_eqI rfl rfl) rfl rfl rfl ?_ | refine L_val (R_eqB rfl rfl) rfl rfl rfl ?_ | refine L_val (R_eqIfN rfl rfl) rfl rfl rfl ?_ | refine L_val (R_eqIfNN rfl) rfl rfl rfl ?_) | (refine cL_neq ?_; first | refine L_val (R_nePN rfl rfl) rfl rfl rfl ?_ | refine L_val (R_neI rfl rfl) rfl rfl rfl ?_ | refine L_val (R_neB rfl rfl) rfl rfl rfl ?_ | refine L_val (R_neIfN rfl rfl) rfl rfl rfl ?_ | refine L_val (R_neIfNN rfl) rfl rfl rfl ?_) | (refine cL_lss ?_; first | refine L_valB (R_ltI rfl rfl) hb rfl rfl rfl ?_ | refine L_val (R_ltI rfl rfl) rfl rfl rfl ?_) | (refine cL_indexAddr ?_; refine L_valE (R_ia rfl rfl (by omega) (by omega)) (ia0 _ _) rfl rfl rfl ?_) | (refine cL_makeInterface ?_; refine L_val R_mkI rfl rfl rfl ?_) | (refine cL_not ?_; refine L_val (R_not rfl) rfl rfl rfl ?_) | (refine cL_add ?_; refine L_val (R_addI rfl rfl) rfl rfl rfl ?_) | refine L_nil ?_) | refine G_seq ?_ | refine G_region ?_ | refine G_skip ?_ | refine G_block ?_ | refine G_end ?_ | refine G_true rfl ?_ | refine G_false rfl ?_))
            (refine G_draw No (0 :: 1 :: 2 :: 3 :: 4 :: 5 :: 6 :: 7 :: 8 :: 9 :: 10 :: 11 :: 12 :: 13 :: []) [] follows (by kernel_rfl) rfl ?_)
            have hAg : ∀ w', Ext No wr w' → Agree H w' := fun _ he => hAr.ext0 he
            cases hr : r i with
            | false =>
              rw [hr] at hih
              (repeat (first | (refine cD_guard ?_; refine D_unwanted rfl rfl ?_) | (refine cD_move ?_; refine D_val0 (fun _ _ => R_move) rfl rfl ?_) | (refine cD_load ?_; refine D_val0 (fun w he => R_loadH (hAg w he) rfl (by assumption) (by rfl)) rfl rfl ?_) | (refine cD_fieldAddr ?_; refine D_val0 (fun _ _ => R_fa rfl) rfl rfl ?_) | (refine cD_nilCheck ?_; refine D_val0 (fun _ _ => R_nil rfl) rfl rfl ?_) | (refine cD_assign ?_; refine D_val0 (fun _ _ => R_assign) rfl rfl ?_) | (refine cD_extract ?_; refine D_val0 (fun _ _ => R_extract rfl rfl) rfl rfl ?_) | (refine cD_typeAssert ?_; first | refine D_val0 (fun _ _ => R_taY rfl) rfl rfl ?_ | refine D_val0 (fun _ _ => R_taN rfl rfl) rfl rfl ?_ | refine D_val0 (fun _ _ => R_taNil rfl) rfl rfl ?_) | (refine cD_call ?_; first | refine D_callQ (fun w he => hih w (hAg w he)) rfl ?_ | refine D_val0 (fun _ _ => R_len rfl) rfl rfl ?_) | (refine cD_pick ?_; first | refine D_val0 (fun _ _ => R_pickT rfl) rfl rfl ?_ | refine D_val0 (fun _ _ => R_pickF rfl) rfl rfl ?_) | (refine cD_eql ?_; first | refine D_val0 (fun _ _ => R_eqPN rfl rfl) rfl rfl ?_ | refine D_val0 (fun _ _ => R_eqI rfl rfl) rfl rfl ?_ | refine D_val0 (fun _ _ => R_eqB rfl rfl) rfl rfl ?_ | refine D_val0 (fun _ _ => R_eqIfN rfl rfl) rfl rfl ?_ | refine D_val0 (fun _ _ => R_eqIfNN rfl) rfl rfl ?_) | (refine cD_neq ?_; first | refine D_val0 (fun _ _ => R_nePN rfl rfl) rfl rfl ?_ | refine D_val0 (fun _ _ => R_neI rfl rfl) rfl rfl ?_ | refine D_val0 (fun _ _ => R_neB rfl rfl) rfl rfl ?_ | refine D_val0 (fun _ _ => R_neIfN rfl rfl) rfl rfl ?_ | refine D_val0 (fun _ _ => R_neIfNN rfl) rfl rfl ?_) | (refine cD_lss ?_; refine D_val0 (fun _ _ => R_ltI rfl rfl) rfl rfl ?_) | (refine cD_makeInterface ?_; refine D_val0 (fun _ _ => R_mkI) rfl rfl ?_) | (refine cD_not ?_; refine D_val0 (fun _ _ => R_not rfl) rfl rfl ?_) | (refine cD_add ?_; refine D_val0 (fun _ _ => R_addI rfl rfl) rfl rfl ?_)))
              refine D_nil fun w1 hw1 => ?_
              (repeat (first | (refine cL ?_; first | (refine cL_guard ?_; refine L_unwanted rfl rfl rfl ?_) | (refine cL_move ?_; refine L_val R_move rfl rfl rfl ?_) | (refine cL_load ?_; first | refine L_val (R_loadB rfl (by assumption) (by rfl)) rfl rfl rfl ?_ | refine L_val (R_loadH (by assumption) rfl (by assumption) (by rfl)) rfl rfl rfl ?_) | (refine cL_fieldAddr ?_; refine L_val (R_fa rfl) rfl rfl rfl ?_) | (refine cL_nilCheck ?_; refine L_val (R_nil rfl) rfl rfl rfl ?_) | (refine cL_assign ?_; refine L_val R_assign rfl rfl rfl ?_) | (refine cL_extract ?_; refine L_val (R_extract rfl rfl) rfl rfl rfl ?_) | (refine cL_typeAssert ?_; first | refine L_val (R_taY rfl) rfl rfl rfl ?_ | refine L_val (R_taN rfl rfl) rfl rfl rfl ?_ | refine L_val (R_taNil rfl) rfl rfl rfl ?_) | (refine cL_call ?_; refine L_val (R_len rfl) rfl rfl rfl ?_) | (refine cL_pick ?_; first | refine L_val (R_pickT rfl) rfl rfl rfl ?_ | refine L_val (R_pickF rfl) rfl rfl rfl ?_) | (refine cL_eql ?_; first | refine L_val (R_eqPN rfl rfl) rfl rfl rfl ?_ | refine L_val (R_eqI rfl rfl) rfl rfl rfl ?_ | refine L_val (R_eqB rfl rfl) rfl rfl rfl ?_ | refine L_val (R_eqIfN rfl rfl) rfl rfl rfl ?_ | refine L_val (R_eqIfNN rfl) rfl rfl rfl ?_) | (refine cL_neq ?_; first | refine L_val (R_nePN rfl rfl) rfl rfl rfl ?_ | refine L_val (R_neI rfl rfl) rfl rfl rfl ?_ | refine L_val (R_neB rfl rfl) rfl rfl rfl ?_ | refine L_val (R_neIfN rfl rfl) rfl rfl rfl ?_ | refine L_val (R_neIfNN rfl) rfl rfl rfl ?_) | (refine cL_lss ?_; refine L_val (R_ltI rfl rfl) rfl rfl rfl ?_) | (refine cL_makeInterface ?_; refine L_val R_mkI rfl rfl rfl ?_) | (refine cL_not ?_; refine L_val (R_not rfl) rfl rfl rfl ?_) | (refine cL_add ?_; refine L_val (R_addI rfl rfl) rfl rfl rfl ?_) | refine L_nil ?_) | refine G_seq ?_ | refine G_region ?_ | refine G_skip ?_ | refine G_block ?_ | refine G_end ?_ | refine G_true rfl ?_ | refine G_false rfl ?_))
              (refine G_retF rfl ?_)
              exact ⟨_, rfl, congrArg Value.bool (allR_false h hr).symm, hext.trans hw1⟩
            | true =>
              rw [hr] at hih
              (repeat (first | (refine cD_guard ?_; refine D_unwanted rfl rfl ?_) | (refine cD_move ?_; refine D_val0 (fun _ _ => R_move) rfl rfl ?_) | (refine cD_load ?_; refine D_val0 (fun w he => R_loadH (hAg w he) rfl (by assumption) (by rfl)) rfl rfl ?_) | (refine cD_fieldAddr ?_; refine D_val0 (fun _ _ => R_fa rfl) rfl rfl ?_) | (refine cD_nilCheck ?_; refine D_val0 (fun _ _ => R_nil rfl) rfl rfl ?_) | (refine cD_assign ?_; refine D_val0 (fun _ _ => R_assign) rfl rfl ?_) | (refine cD_extract ?_; refine D_val0 (fun _ _ => R_extract rfl rfl) rfl rfl ?_) | (refine cD_typeAssert ?_; first | refine D_val0 (fun _ _ => R_taY rfl) rfl rfl ?_ | refine D_val0 (fun _ _ => R_taN rfl rfl) rfl rfl ?_ | refine D_val0 (fun _ _ => R_taNil rfl) rfl rfl ?_) | (refine cD_call ?_; first | refine D_callQ (fun w he => hih w (hAg w he)) rfl ?_ | refine D_val0 (fun _ _ => R_len rfl) rfl rfl ?_) | (refine cD_pick ?_; first | refine D_val0 (fun _ _ => R_pickT rfl) rfl rfl ?_ | refine D_val0 (fun _ _ => R_pickF rfl) rfl rfl ?_) | (refine cD_eql ?_; first | refine D_val0 (fun _ _ => R_eqPN rfl rfl) rfl rfl ?_ | refine D_val0 (fun _ _ => R_eqI rfl rfl) rfl rfl ?_ | refine D_val0 (fun _ _ => R_eqB rfl rfl) rfl rfl ?_ | refine D_val0 (fun _ _ => R_eqIfN rfl rfl) rfl rfl ?_ | refine D_val0 (fun _ _ => R_eqIfNN rfl) rfl rfl ?_) | (refine cD_neq ?_; first | refine D_val0 (fun _ _ => R_nePN rfl rfl) rfl rfl ?_ | refine D_val0 (fun _ _ => R_neI rfl rfl) rfl rfl ?_ | refine D_val0 (fun _ _ => R_neB rfl rfl) rfl rfl ?_ | refine D_val0 (fun _ _ => R_neIfN rfl rfl) rfl rfl ?_ | refine D_val0 (fun _ _ => R_neIfNN rfl) rfl rfl ?_) | (refine cD_lss ?_; refine D_val0 (fun _ _ => R_ltI rfl rfl) rfl rfl ?_) | (refine cD_makeInterface ?_; refine D_val0 (fun _ _ => R_mkI) rfl rfl ?_) | (refine cD_not ?_; refine D_val0 (fun _ _ => R_not rfl) rfl rfl ?_) | (refine cD_add ?_; refine D_val0 (fun _ _ => R_addI rfl rfl) rfl rfl ?_)))
              refine D_nil fun w1 hw1 => ?_
              (repeat (first | (refine cL ?_; first | (refine cL_guard ?_; refine L_unwanted rfl rfl rfl ?_) | (refine cL_move ?_; refine L_val R_move rfl rfl rfl ?_) | (refine cL_load ?_; first | refine L_val (R_loadB rfl (by assumption) (by rfl)) rfl rfl rfl ?_ | refine L_val (R_loadH (by assumption) rfl (by assumption) (by rfl)) rfl rfl rfl ?_) | (refine cL_fieldAddr ?_; refine L_val (R_fa rfl) rfl rfl rfl ?_) | (refine cL_nilCheck ?_; refine L_val (R_nil rfl) rfl rfl rfl ?_) | (refine cL_assign ?_; refine L_val R_assign rfl rfl rfl ?_) | (refine cL_extract ?_; refine L_val (R_extract rfl rfl) rfl rfl rfl ?_) | (refine cL_typeAssert ?_; first | refine L_val (R_taY rfl) rfl rfl rfl ?_ | refine L_val (R_taN rfl rfl) rfl rfl rfl ?_ | refine L_val (R_taNil rfl) rfl rfl rfl ?_) | (refine cL_call ?_; refine L_val (R_len rfl) rfl rfl rfl ?_) | (refine cL_pick ?_; first | refine L_val (R_pickT rfl) rfl rfl rfl ?_ | refine L_val (R_pickF rfl) rfl rfl rfl ?_) | (refine cL_eql ?_; first | refine L_val (R_eqPN rfl rfl) rfl rfl rfl ?_ | refine L_val (R_eqI rfl rfl) rfl rfl rfl ?_ | refine L_val (R_eqB rfl rfl) rfl rfl rfl ?_ | refine L_val (R_eqIfN rfl rfl) rfl rfl rfl ?_ | refine L_val (R_eqIfNN rfl) rfl rfl rfl ?_) | (refine cL_neq ?_; first | refine L_val (R_nePN rfl rfl) rfl rfl rfl ?_ | refine L_val (R_neI rfl rfl) rfl rfl rfl ?_ | refine L_val (R_neB rfl rfl) rfl rfl rfl ?_ | refine L_val (R_neIfN rfl rfl) rfl rfl rfl ?_ | refine L_val (R_neIfNN rfl) rfl rfl rfl ?_) | (refine cL_lss ?_; refine L_val (R_ltI rfl rfl) rfl rfl rfl ?_) | (refine cL_makeInterface ?_; refine L_val R_mkI rfl rfl rfl ?_) | (refine cL_not ?_; refine L_val (R_not rfl) rfl rfl rfl ?_) | (refine cL_add ?_; first | refine L_valE (R_addI rfl rfl) (succ_i64 h hbd) rfl rfl rfl ?_ | refine L_val (R_addI rfl rfl) rfl rfl rfl ?_) | refine L_nil ?_) | refine G_seq ?_ | refine G_region ?_ | refine G_skip ?_ | refine G_block ?_ | refine G_end ?_ | refine G_true rfl ?_ | refine G_false rfl ?_))
              refine G_inv ⟨⟨rfl, hext.trans hw1, _, i + 1, with_self ⟨rfl, rfl, rfl, rfl, rfl, rfl, trivial⟩, h, fun j hj => ?_⟩, ?_⟩
              · rcases Nat.lt_succ_iff_lt_or_eq.1 hj with hj | rfl
                · exact hJ j hj
                · exact hr
              · show ((vs.length : Int) - ((i + 1 : Nat) : Int)).toNat < ((vs.length : Int) - (i : Int)).toNat
                omega
          · have hb : decide ((i : Int) < (vs.length : Int)) = false := decide_eq_false (by omega)
            (repeat (first | (refine cL ?_; first | (refine cL_guard ?_; refine L_unwanted rfl rfl rfl ?_) | (refine cL_move ?_; refine L_val R_move rfl rfl rfl ?_) | (refine cL_load ?_; first | refine L_val (R_loadB rfl (by assumption) (by rfl)) rfl rfl rfl ?_ | refine L_val (R_loadH (by assumption) rfl (by assumption) (by rfl)) rfl rfl rfl ?_) | (refine cL_fieldAddr ?_; refine L_val (R_fa rfl) rfl rfl rfl ?_) | (refine cL_nilCheck ?_; refine L_val (R_nil rfl) rfl rfl rfl ?_) | (refine cL_assign ?_; refine L_val R_assign rfl rfl rfl ?_) | (refine cL_extract ?_; refine L_val (R_extract rfl rfl) rfl rfl rfl ?_) | (refine cL_typeAssert ?_; first | refine L_val (R_taY rfl) rfl rfl rfl ?_ | refine L_val (R_taN rfl rfl) rfl rfl rfl ?_ | refine L_val (R_taNil rfl) rfl rfl rfl ?_) | (refine cL_call ?_; refine L_val (R_len rfl) rfl rfl rfl ?_) | (refine cL_pick ?_; first | refine L_val (R_pickT rfl) rfl rfl rfl ?_ | refine L_val (R_pickF rfl) rfl rfl rfl ?_) | (refine cL_eql ?_; first | refine L_val (R_eqPN rfl rfl) rfl rfl rfl ?_ | refine L_val (R_eqI rfl rfl) rfl rfl rfl ?_ | refine L_val (R_eqB rfl rfl) rfl rfl rfl ?_ | refine L_val (R_eqIfN rfl rfl) rfl rfl rfl ?_ | refine L_val (R_eqIfNN rfl) rfl rfl rfl ?_) | (refine cL_neq ?_; first | refine L_val (R_nePN rfl rfl) rfl rfl rfl ?_ | refine L_val (R_neI rfl rfl) rfl rfl rfl ?_ | refine L_val (R_neB rfl rfl) rfl rfl rfl ?_ | refine L_val (R_neIfN rfl rfl) rfl rfl rfl ?_ | refine L_val (R_neIfNN rfl) rfl rfl rfl ?_) | (refine cL_lss ?_; first | refine L_valB (R_ltI rfl rfl) hb rfl rfl rfl ?_ | refine L_val (R_ltI rfl rfl) rfl rfl rfl ?_) | (refine cL_makeInterface ?_; refine L_val R_mkI rfl rfl rfl ?_) | (refine cL_not ?_; refine L_val (R_not rfl) rfl rfl rfl ?_) | (refine cL_add ?_; refine L_val (R_addI rfl rfl) rfl rfl rfl ?_) | refine L_nil ?_) | refine G_exit rfl ?_ | refine G_seq ?_ | refine G_region ?_ | refine G_skip ?_ | refine G_block ?_ | refine G_end ?_ | refine G_true rfl ?_ | refine G_false rfl ?_))
            (refine G_retF rfl ?_)
            exact ⟨_, rfl, congrArg Value.bool (allR_true fun j hj => hJ j (by omega)).symm, hext⟩

theorem id_func {a b : Nat} {x y x' y' : Value} {d d' r q : Bool} (hx : H a = some (Ob [.pointer none, .pointer none, x, y, .bool d] 110)) (hy : H b = some (Ob [.pointer none, .pointer none, x', y', .bool d'] 110))
    (e : (Nat.beq 89 89 && peq (some ⟨a, 0, none⟩) (some ⟨b, 0, none⟩)) = false)
    (ih : ∀ w', Agree H w' → IdSays c (.iface 91 x) (.iface 91 x') r w') (ih2 : ∀ w', Agree H w' → IdSays c (.iface 91 y) (.iface 91 y') q w') :
    IdSays c (.iface 89 (ptr a)) (.iface 89 (ptr b)) ((d == d') && (r && q)) w := by
  have hl : LiveH H a := ⟨_, _, _, hx⟩
  have hl' : LiveH H b := ⟨_, _, _, hy⟩
  have hAg : ∀ w', Ext No w w' → Agree H w' := fun _ he => hA.ext0 he
  unfold Cmp at hc
  (refine calls_enter Tryz.func24 Tryz.ntmps24 rfl rfl ?_)
  (repeat (first | (refine cL ?_; first | (refine cL_guard ?_; refine L_unwanted rfl rfl rfl ?_) | (refine cL_move ?_; refine L_val R_move rfl rfl rfl ?_) | (refine cL_load ?_; first | refine L_val (R_loadB rfl (by assumption) (by rfl)) rfl rfl rfl ?_ | refine L_val (R_loadH (by assumption) rfl (by assumption) (by rfl)) rfl rfl rfl ?_) | (refine cL_fieldAddr ?_; refine L_val (R_fa rfl) rfl rfl rfl ?_) | (refine cL_nilCheck ?_; refine L_val (R_nil rfl) rfl rfl rfl ?_) | (refine cL_assign ?_; refine L_val R_assign rfl rfl rfl ?_) | (refine cL_extract ?_; refine L_val (R_extract rfl rfl) rfl rfl rfl ?_) | (refine cL_typeAssert ?_; first | refine L_val (R_taY rfl) rfl rfl rfl ?_ | refine L_val (R_taN rfl rfl) rfl rfl rfl ?_ | refine L_val (R_taNil rfl) rfl rfl rfl ?_) | (refine cL_call ?_; first | refine L_callI (unalias_any _ _ _ rfl) rfl rfl ?_ | refine L_val (R_len rfl) rfl rfl rfl ?_) | (refine cL_pick ?_; first | refine L_val (R_pickT rfl) rfl rfl rfl ?_ | refine L_val (R_pickF rfl) rfl rfl rfl ?_) | (refine cL_eql ?_; first | refine L_valB (R_eqIf rfl rfl (hA.live hl) (hA.live hl')) e rfl rfl rfl ?_ | refine L_val (R_eqPN rfl rfl) rfl rfl rfl ?_ | refine L_val (R_eqI rfl rfl) rfl rfl rfl ?_ | refine L_val (R_eqB rfl rfl) rfl rfl rfl ?_ | refine L_val (R_eqIfN rfl rfl) rfl rfl rfl ?_ | refine L_val (R_eqIfNN rfl) rfl rfl rfl ?_) | (refine cL_neq ?_; first | refine L_val (R_nePN rfl rfl) rfl rfl rfl ?_ | refine L_val (R_neI rfl rfl) rfl rfl rfl ?_ | refine L_val (R_neB rfl rfl) rfl rfl rfl ?_ | refine L_val (R_neIfN rfl rfl) rfl rfl rfl ?_ | refine L_val (R_neIfNN rfl) rfl rfl rfl ?_) | (refine cL_lss ?_; refine L_val (R_ltI rfl rfl) rfl rfl rfl ?_) | (refine cL_makeInterface ?_; refine L_val R_mkI rfl rfl rfl ?_) | (refine cL_not ?_; refine L_val (R_not rfl) rfl rfl rfl ?_) | (refine cL_add ?_; refine L_val (R_addI rfl rfl) rfl rfl rfl ?_) | refine L_nil ?_) | refine G_seq ?_ | refine G_region ?_ | refine G_skip ?_ | refine G_block ?_ | refine G_end ?_ | refine G_true rfl ?_ | refine G_false rfl ?_))
  (refine G_draw No (0 :: 1 :: 2 :: 3 :: 4 :: 5 :: 6 :: 7 :: 8 :: 9 :: 10 :: 11 :: 12 :: 13 :: 14 :: 15 :: 16 :: 17 :: 18 :: 19 :: 20 :: 21 :: 22 :: 23 :: 24 :: 25 :: 26 :: 27 :: 28 :: 29 :: 30 :: 31 :: 32 :: 33 :: []) [] follows (by kernel_rfl) rfl ?_)
  cases e0 : (d == d') with
  | false =>
    (repeat (first | (refine cD_guard ?_; refine D_unwanted rfl rfl ?_) | (refine cD_move ?_; refine D_val0 (fun _ _ => R_move) rfl rfl ?_) | (refine cD_load ?_; refine D_val0 (fun w he => R_loadH (hAg w he) rfl (by assumption) (by rfl)) rfl rfl ?_) | (refine cD_fieldAddr ?_; refine D_val0 (fun _ _ => R_fa rfl) rfl rfl ?_) | (refine cD_nilCheck ?_; refine D_val0 (fun _ _ => R_nil rfl) rfl rfl ?_) | (refine cD_assign ?_; refine D_val0 (fun _ _ => R_assign) rfl rfl ?_) | (refine cD_extract ?_; refine D_val0 (fun _ _ => R_extract rfl rfl) rfl rfl ?_) | (refine cD_typeAssert ?_; first | refine D_val0 (fun _ _ => R_taY rfl) rfl rfl ?_ | refine D_val0 (fun _ _ => R_taN rfl rfl) rfl rfl ?_ | refine D_val0 (fun _ _ => R_taNil rfl) rfl rfl ?_) | (refine cD_call ?_; refine D_val0 (fun _ _ => R_len rfl) rfl rfl ?_) | (refine cD_pick ?_; first | refine D_val0 (fun _ _ => R_pickT rfl) rfl rfl ?_ | refine D_val0 (fun _ _ => R_pickF rfl) rfl rfl ?_) | (refine cD_eql ?_; first | refine D_valB (fun _ _ => R_eqB rfl rfl) e0 rfl rfl ?_ | refine D_val0 (fun _ _ => R_eqPN rfl rfl) rfl rfl ?_ | refine D_val0 (fun _ _ => R_eqI rfl rfl) rfl rfl ?_ | refine D_val0 (fun _ _ => R_eqB rfl rfl) rfl rfl ?_ | refine D_val0 (fun _ _ => R_eqIfN rfl rfl) rfl rfl ?_ | refine D_val0 (fun _ _ => R_eqIfNN rfl) rfl rfl ?_) | (refine cD_neq ?_; first | refine D_val0 (fun _ _ => R_nePN rfl rfl) rfl rfl ?_ | refine D_val0 (fun _ _ => R_neI rfl rfl) rfl rfl ?_ | refine D_val0 (fun _ _ => R_neB rfl rfl) rfl rfl ?_ | refine D_val0 (fun _ _ => R_neIfN rfl rfl) rfl rfl ?_ | refine D_val0 (fun _ _ => R_neIfNN rfl) rfl rfl ?_) | (refine cD_lss ?_; refine D_val0 (fun _ _ => R_ltI rfl rfl) rfl rfl ?_) | (refine cD_makeInterface ?_; refine D_val0 (fun _ _ => R_mkI) rfl rfl ?_) | (refine cD_not ?_; refine D_val0 (fun _ _ => R_not rfl) rfl rfl ?_) | (refine cD_add ?_; refine D_val0 (fun _ _ => R_addI rfl rfl) rfl rfl ?_)))
    refine D_nil fun w1 hw1 => ?_
    (repeat (first | (refine cL ?_; first | (refine cL_guard ?_; refine L_unwanted rfl rfl rfl ?_) | (refine cL_move ?_; refine L_val R_move rfl rfl rfl ?_) | (refine cL_load ?_; first | refine L_val (R_loadB rfl (by assumption) (by rfl)) rfl rfl rfl ?_ | refine L_val (R_loadH (by assumption) rfl (by assumption) (by rfl)) rfl rfl rfl ?_) | (refine cL_fieldAddr ?_; refine L_val (R_fa rfl) rfl rfl rfl ?_) | (refine cL_nilCheck ?_; refine L_val (R_nil rfl) rfl rfl rfl ?_) | (refine cL_assign ?_; refine L_val R_assign rfl rfl rfl ?_) | (refine cL_extract ?_; refine L_val (R_extract rfl rfl) rfl rfl rfl ?_) | (refine cL_typeAssert ?_; first | refine L_val (R_taY rfl) rfl rfl rfl ?_ | refine L_val (R_taN rfl rfl) rfl rfl rfl ?_ | refine L_val (R_taNil rfl) rfl rfl rfl ?_) | (refine cL_call ?_; refine L_val (R_len rfl) rfl rfl rfl ?_) | (refine cL_pick ?_; first | refine L_val (R_pickT rfl) rfl rfl rfl ?_ | refine L_val (R_pickF rfl) rfl rfl rfl ?_) | (refine cL_eql ?_; first | refine L_val (R_eqPN rfl rfl) rfl rfl rfl ?_ | refine L_val (R_eqI rfl rfl) rfl rfl rfl ?_ | refine L_val (R_eqB rfl rfl) rfl rfl rfl ?_ | refine L_val (R_eqIfN rfl rfl) rfl rfl rfl ?_ | refine L_val (R_eqIfNN rfl) rfl rfl rfl ?_) | (refine cL_neq ?_; first | refine L_val (R_nePN rfl rfl) rfl rfl rfl ?_ | refine L_val (R_neI rfl rfl) rfl rfl rfl ?_ | refine L_val (R_neB rfl rfl) rfl rfl rfl ?_ | refine L_val (R_neIfN rfl rfl) rfl rfl rfl ?_ | refine L_val (R_neIfNN rfl) rfl rfl rfl ?_) | (refine cL_lss ?_; refine L_val (R_ltI rfl rfl) rfl rfl rfl ?_) | (refine cL_makeInterface ?_; refine L_val R_mkI rfl rfl rfl ?_) | (refine cL_not ?_; refine L_val (R_not rfl) rfl rfl rfl ?_) | (refine cL_add ?_; refine L_val (R_addI rfl rfl) rfl rfl rfl ?_) | refine L_nil ?_) | refine G_seq ?_ | refine G_region ?_ | refine G_skip ?_ | refine G_block ?_ | refine G_end ?_ | refine G_true rfl ?_ | refine G_false rfl ?_))
    (refine G_retF rfl ?_)
    exact ⟨_, rfl, rfl, hw1⟩
  | true =>
    cases r with
    | false =>
      (repeat (first | (refine cD_guard ?_; refine D_unwanted rfl rfl ?_) | (refine cD_move ?_; refine D_val0 (fun _ _ => R_move) rfl rfl ?_) | (refine cD_load ?_; refine D_val0 (fun w he => R_loadH (hAg w he) rfl (by assumption) (by rfl)) rfl rfl ?_) | (refine cD_fieldAddr ?_; refine D_val0 (fun _ _ => R_fa rfl) rfl rfl ?_) | (refine cD_nilCheck ?_; refine D_val0 (fun _ _ => R_nil rfl) rfl rfl ?_) | (refine cD_assign ?_; refine D_val0 (fun _ _ => R_assign) rfl rfl ?_) | (refine cD_extract ?_; refine D_val0 (fun _ _ => R_extract rfl rfl) rfl rfl ?_) | (refine cD_typeAssert ?_; first | refine D_val0 (fun _ _ => R_taY rfl) rfl rfl ?_ | refine D_val0 (fun _ _ => R_taN rfl rfl) rfl rfl ?_ | refine D_val0 (fun _ _ => R_taNil rfl) rfl rfl ?_) | (refine cD_call ?_; first | refine D_callQ (fun w he => ih w (hAg w he)) rfl ?_ | refine D_val0 (fun _ _ => R_len rfl) rfl rfl ?_) | (refine cD_pick ?_; first | refine D_val0 (fun _ _ => R_pickT rfl) rfl rfl ?_ | refine D_val0 (fun _ _ => R_pickF rfl) rfl rfl ?_) | (refine cD_eql ?_; first | refine D_valB (fun _ _ => R_eqB rfl rfl) e0 rfl rfl ?_ | refine D_val0 (fun _ _ => R_eqPN rfl rfl) rfl rfl ?_ | refine D_val0 (fun _ _ => R_eqI rfl rfl) rfl rfl ?_ | refine D_val0 (fun _ _ => R_eqB rfl rfl) rfl rfl ?_ | refine D_val0 (fun _ _ => R_eqIfN rfl rfl) rfl rfl ?_ | refine D_val0 (fun _ _ => R_eqIfNN rfl) rfl rfl ?_) | (refine cD_neq ?_; first | refine D_val0 (fun _ _ => R_nePN rfl rfl) rfl rfl ?_ | refine D_val0 (fun _ _ => R_neI rfl rfl) rfl rfl ?_ | refine D_val0 (fun _ _ => R_neB rfl rfl) rfl rfl ?_ | refine D_val0 (fun _ _ => R_neIfN rfl rfl) rfl rfl ?_ | refine D_val0 (fun _ _ => R_neIfNN rfl) rfl rfl ?_) | (refine cD_lss ?_; refine D_val0 (fun _ _ => R_ltI rfl rfl) rfl rfl ?_) | (refine cD_makeInterface ?_; refine D_val0 (fun _ _ => R_mkI) rfl rfl ?_) | (refine cD_not ?_; refine D_val0 (fun _ _ => R_not rfl) rfl rfl ?_) | (refine cD_add ?_; refine D_val0 (fun _ _ => R_addI rfl rfl) rfl rfl ?_)))
      refine D_nil fun w1 hw1 => ?_
      (repeat (first | (refine cL ?_; first | (refine cL_guard ?_; refine L_unwanted rfl rfl rfl ?_) | (refine cL_move ?_; refine L_val R_move rfl rfl rfl ?_) | (refine cL_load ?_; first | refine L_val (R_loadB rfl (by assumption) (by rfl)) rfl rfl rfl ?_ | refine L_val (R_loadH (by assumption) rfl (by assumption) (by rfl)) rfl rfl rfl ?_) | (refine cL_fieldAddr ?_; refine L_val (R_fa rfl) rfl rfl rfl ?_) | (refine cL_nilCheck ?_; refine L_val (R_nil rfl) rfl rfl rfl ?_) | (refine cL_assign ?_; refine L_val R_assign rfl rfl rfl ?_) | (refine cL_extract ?_; refine L_val (R_extract rfl rfl) rfl rfl rfl ?_) | (refine cL_typeAssert ?_; first | refine L_val (R_taY rfl) rfl rfl rfl ?_ | refine L_val (R_taN rfl rfl) rfl rfl rfl ?_ | refine L_val (R_taNil rfl) rfl rfl rfl ?_) | (refine cL_call ?_; refine L_val (R_len rfl) rfl rfl rfl ?_) | (refine cL_pick ?_; first | refine L_val (R_pickT rfl) rfl rfl rfl ?_ | refine L_val (R_pickF rfl) rfl rfl rfl ?_) | (refine cL_eql ?_; first | refine L_val (R_eqPN rfl rfl) rfl rfl rfl ?_ | refine L_val (R_eqI rfl rfl) rfl rfl rfl ?_ | refine L_val (R_eqB rfl rfl) rfl rfl rfl ?_ | refine L_val (R_eqIfN rfl rfl) rfl rfl rfl ?_ | refine L_val (R_eqIfNN rfl) rfl rfl rfl ?_) | (refine cL_neq ?_; first | refine L_val (R_nePN rfl rfl) rfl rfl rfl ?_ | refine L_val (R_neI rfl rfl) rfl rfl rfl ?_ | refine L_val (R_neB rfl rfl) rfl rfl rfl ?_ | refine L_val (R_neIfN rfl rfl) rfl rfl rfl ?_ | refine L_val (R_neIfNN rfl) rfl rfl rfl ?_) | (refine cL_lss ?_; refine L_val (R_ltI rfl rfl) rfl rfl rfl ?_) | (refine cL_makeInterface ?_; refine L_val R_mkI rfl rfl rfl ?_) | (refine cL_not ?_; refine L_val (R_not rfl) rfl rfl rfl ?_) | (refine cL_add ?_; refine L_val (R_addI rfl rfl) rfl rfl rfl ?_) | refine L_nil ?_) | refine G_seq ?_ | refine G_region ?_ | refine G_skip ?_ | refine G_block ?_ | refine G_end ?_ | refine G_true rfl ?_ | refine G_false rfl ?_))
      (refine G_retF rfl ?_)
      exact ⟨_, rfl, rfl, hw1⟩
    | true =>
      (repeat (first | (refine cD_guard ?_; refine D_unwanted rfl rfl ?_) | (refine cD_move ?_; refine D_val0 (fun _ _ => R_move) rfl rfl ?_) | (refine cD_load ?_; refine D_val0 (fun w he => R_loadH (hAg w he) rfl (by assumption) (by rfl)) rfl rfl ?_) | (refine cD_fieldAddr ?_; refine D_val0 (fun _ _ => R_fa rfl) rfl rfl ?_) | (refine cD_nilCheck ?_; refine D_val0 (fun _ _ => R_nil rfl) rfl rfl ?_) | (refine cD_assign ?_; refine D_val0 (fun _ _ => R_assign) rfl rfl ?_) | (refine cD_extract ?_; refine D_val0 (fun _ _ => R_extract rfl rfl) rfl rfl ?_) | (refine cD_typeAssert ?_; first | refine D_val0 (fun _ _ => R_taY rfl) rfl rfl ?_ | refine D_val0 (fun _ _ => R_taN rfl rfl) rfl rfl ?_ | refine D_val0 (fun _ _ => R_taNil rfl) rfl rfl ?_) | (refine cD_call ?_; first | refine D_callQ (fun w he => ih w (hAg w he)) rfl ?_ | refine D_callQ (fun w he => ih2 w (hAg w he)) rfl ?_ | refine D_val0 (fun _ _ => R_len rfl) rfl rfl ?_) | (refine cD_pick ?_; first | refine D_val0 (fun _ _ => R_pickT rfl) rfl rfl ?_ | refine D_val0 (fun _ _ => R_pickF rfl) rfl rfl ?_) | (refine cD_eql ?_; first | refine D_valB (fun _ _ => R_eqB rfl rfl) e0 rfl rfl ?_ | refine D_val0 (fun _ _ => R_eqPN rfl rfl) rfl rfl ?_ | refine D_val0 (fun _ _ => R_eqI rfl rfl) rfl rfl ?_ | refine D_val0 (fun _ _ => R_eqB rfl rfl) rfl rfl ?_ | refine D_val0 (fun _ _ => R_eqIfN rfl rfl) rfl rfl ?_ | refine D_val0 (fun _ _ => R_eqIfNN rfl) rfl rfl ?_) | (refine cD_neq ?_; first | refine D_val0 (fun _ _ => R_nePN rfl rfl) rfl rfl ?_ | refine D_val0 (fun _ _ => R_neI rfl rfl) rfl rfl ?_ | refine D_val0 (fun _ _ => R_neB rfl rfl) rfl rfl ?_ | refine D_val0 (fun _ _ => R_neIfN rfl rfl) rfl rfl ?_ | refine D_val0 (fun _ _ => R_neIfNN rfl) rfl rfl ?_) | (refine cD_lss ?_; refine D_val0 (fun _ _ => R_ltI rfl rfl) rfl rfl ?_) | (refine cD_makeInterface ?_; refine D_val0 (fun _ _ => R_mkI) rfl rfl ?_) | (refine cD_not ?_; refine D_val0 (fun _ _ => R_not rfl) rfl rfl ?_) | (refine cD_add ?_; refine D_val0 (fun _ _ => R_addI rfl rfl) rfl rfl ?_)))
      refine D_nil fun w1 hw1 => ?_
      (repeat (first | (refine cL ?_; first | (refine cL_guard ?_; refine L_unwanted rfl rfl rfl ?_) | (refine cL_move ?_; refine L_val R_move rfl rfl rfl ?_) | (refine cL_load ?_; first | refine L_val (R_loadB rfl (by assumption) (by rfl)) rfl rfl rfl ?_ | refine L_val (R_loadH (by assumption) rfl (by assumption) (by rfl)) rfl rfl rfl ?_) | (refine cL_fieldAddr ?_; refine L_val (R_fa rfl) rfl rfl rfl ?_) | (refine cL_nilCheck ?_; refine L_val (R_nil rfl) rfl rfl rfl ?_) | (refine cL_assign ?_; refine L_val R_assign rfl rfl rfl ?_) | (refine cL_extract ?_; refine L_val (R_extract rfl rfl) rfl rfl rfl ?_) | (refine cL_typeAssert ?_; first | refine L_val (R_taY rfl) rfl rfl rfl ?_ | refine L_val (R_taN rfl rfl) rfl rfl rfl ?_ | refine L_val (R_taNil rfl) rfl rfl rfl ?_) | (refine cL_call ?_; refine L_val (R_len rfl) rfl rfl rfl ?_) | (refine cL_pick ?_; first | refine L_val (R_pickT rfl) rfl rfl rfl ?_ | refine L_val (R_pickF rfl) rfl rfl rfl ?_) | (refine cL_eql ?_; first | refine L_val (R_eqPN rfl rfl) rfl rfl rfl ?_ | refine L_val (R_eqI rfl rfl) rfl rfl rfl ?_ | refine L_val (R_eqB rfl rfl) rfl rfl rfl ?_ | refine L_val (R_eqIfN rfl rfl) rfl rfl rfl ?_ | refine L_val (R_eqIfNN rfl) rfl rfl rfl ?_) | (refine cL_neq ?_; first | refine L_val (R_nePN rfl rfl) rfl rfl rfl ?_ | refine L_val (R_neI rfl rfl) rfl rfl rfl ?_ | refine L_val (R_neB rfl rfl) rfl rfl rfl ?_ | refine L_val (R_neIfN rfl rfl) rfl rfl rfl ?_ | refine L_val (R_neIfNN rfl) rfl rfl rfl ?_) | (refine cL_lss ?_; refine L_val (R_ltI rfl rfl) rfl rfl rfl ?_) | (refine cL_makeInterface ?_; refine L_val R_mkI rfl rfl rfl ?_) | (refine cL_not ?_; refine L_val (R_not rfl) rfl rfl rfl ?_) | (refine cL_add ?_; refine L_val (R_addI rfl rfl) rfl rfl rfl ?_) | refine L_nil ?_) | refine G_seq ?_ | refine G_region ?_ | refine G_skip ?_ | refine G_block ?_ | refine G_end ?_ | refine G_true rfl ?_ | refine G_false rfl ?_))
      (refine G_retF rfl ?_)
      exact ⟨_, rfl, rfl, hw1⟩
end
end Go.Proofs.YtmmcjnfgcaefpaaGreatDoor

/-
  What lies in memory for good grows.
-/
namespace Go.Proofs.YtmmcjnfgcaefpaaGreatDoor

def Hp.put (H : Hp) (b : Nat) (o : Obj) : Hp := fun k => if k = b then some o else H k
theorem Hp.put_same (H : Hp) (b : Nat) (o : Obj) : H.put b o b = some o := if_pos rfl
theorem Hp.put_other (H : Hp) {b k : Nat} (o : Obj) (h : k ≠ b) : H.put b o k = H k := if_neg h

theorem Agree.lt {H : Hp} {w : World} (hA : Agree H w) {b : Nat} {o : Obj} (h : H b = some o) : b < w.heap.size := (Array.getElem?_eq_some_iff.1 (hA b o h)).1

theorem Hp.le_refl (H : Hp) : Hp.le H H := fun _ _ h => h
theorem Hp.le_trans {H H' H'' : Hp} (h : Hp.le H H') (h' : Hp.le H' H'') : Hp.le H H'' := fun b o hb => h' b o (h b o hb)

/-- from the one memory to the other: what is known for good grows by blocks that are new; nothing else is turned -/
structure Grow (H : Hp) (w : World) (H' : Hp) (w' : World) : Prop where
  le : Hp.le H H'
  ag : Agree H' w'
  new : ∀ b o, H' b = some o → H b = some o ∨ w.heap.size ≤ b
  ext : Ext No w w'

theorem Grow.refl {H : Hp} {w : World} (hA : Agree H w) : Grow H w H w := ⟨Hp.le_refl H, hA, fun _ _ h => .inl h, Ext.refl _ _⟩
theorem Grow.trans {H H' H'' : Hp} {w w' w'' : World} (h : Grow H w H' w') (h' : Grow H' w' H'' w'') : Grow H w H'' w'' where
  le := Hp.le_trans h.le h'.le
  ag := h'.ag
  new := fun b o hb => by
    rcases h'.new b o hb with h1 | h1
    · exact h.new b o h1
    · exact .inr (Nat.le_trans h.ext.size h1)
  ext := h.ext.trans h'.ext
theorem Grow.quiet {H : Hp} {w w' : World} (hA : Agree H w) (he : Ext No w w') : Grow H w H w' := ⟨Hp.le_refl H, hA.ext0 he, fun _ _ h => .inl h, he⟩

theorem Grow.put {H : Hp} {w w' : World} {b : Nat} {o : Obj} (hA : Agree H w) (hn : NewB w w' b o) : Grow H w (H.put b o) w' where
  le := fun k p hk => by
    have h1 := hA.lt hk
    have h2 := hn.fresh
    rw [Hp.put_other _ _ (by omega)]
    exact hk
  ag := fun k p hk => by
    by_cases hb : k = b
    · subst hb
      rw [Hp.put_same] at hk
      rw [hn.here, hk]
    · rw [Hp.put_other _ _ hb] at hk
      exact hA.ext0 hn.ext k p hk
  new := fun k p hk => by
    by_cases hb : k = b
    · exact .inr (by rw [hb, hn.fresh]; exact Nat.le_refl _)
    · rw [Hp.put_other _ _ hb] at hk
      exact .inl hk
  ext := hn.ext
theorem Grow.ofNew {H : Hp} {w w' : World} {b : Nat} {o : Obj} (hA : Agree H w) (hn : NewB w w' b o) : ∃ H', Grow H w H' w' ∧ H' b = some o := ⟨_, Grow.put hA hn, Hp.put_same _ _ _⟩
theorem Grow.add {H H' : Hp} {w w' : World} {b : Nat} {o : Obj} (g : Grow H w H' w') (hb : w'.heap[b]? = some o) (hs : w.heap.size ≤ b) : ∃ H'', Grow H w H'' w' ∧ Hp.le H' H'' ∧ H'' b = some o := by
  have hle : Hp.le H' (H'.put b o) := fun k p hk => by
    by_cases hkb : k = b
    · subst hkb
      have := g.ag k p hk
      rw [hb] at this
      rw [Hp.put_same, this]
    · rw [Hp.put_other _ _ hkb]; exact hk
  refine ⟨H'.put b o, ⟨Hp.le_trans g.le hle, fun k p hk => ?_, fun k p hk => ?_, g.ext⟩, hle, Hp.put_same _ _ _⟩
  · by_cases hkb : k = b
    · subst hkb
      rw [Hp.put_same] at hk
      rw [hb, hk]
    · rw [Hp.put_other _ _ hkb] at hk
      exact g.ag k p hk
  · by_cases hkb : k = b
    · exact .inr (by rw [hkb]; exact hs)
    · rw [Hp.put_other _ _ hkb] at hk
      exact g.new k p hk
end Go.Proofs.YtmmcjnfgcaefpaaGreatDoor

/-
  Identical types, fifth part: defined types; and the whole: the comparer says whether two types are identical.
-/
namespace Go.Proofs.YtmmcjnfgcaefpaaGreatDoor
set_option maxRecDepth 100000
set_option maxHeartbeats 4000000
attribute [local irreducible] Calls execOp

/-- the type arguments of a defined type, as the package hands them out -/
def ArgsOf (H : Hp) (a : Nat) (vs : List Value) : Prop :=
  ∃ (tl : Value) (p : Option Addr) (cap : Nat), (∀ w, Agree H w → Calls Tryz.prog 58 #[ptr a] w (Ret (Is tl w))) ∧
    (∀ w, Agree H w → Calls Tryz.prog 59 #[tl] w (Ret (Is (.slice p vs.length cap) w))) ∧
    ∀ i v, vs[i]? = some v → ∃ b cs, p = some ⟨b, 0, none⟩ ∧ H b = some (Ob cs 43) ∧ lget cs i = some v

theorem argsOf_none {H : Hp} {a : Nat} {obj m1 m2 fr und vz me : Value} (h : H a = some (Ob (namedCells obj (.pointer none) m1 m2 fr und vz me) 124)) : ArgsOf H a [] :=
  ⟨.pointer none, none, 0, fun w hA => typeArgs_none w hA h, fun w _ => list_none w, fun i v hv => by simp at hv⟩
theorem argsOf_inst {H : Hp} {a i tl d : Nat} {obj m1 m2 fr und vz me sl : Value} {vs : List Value} (h : H a = some (Ob (namedCells obj (ptr i) m1 m2 fr und vz me) 124)) (hi : H i = some (Ob [ptr d, ptr tl] 199)) (ht : H tl = some (Ob [sl] 230)) (hs : TySl H vs sl) : ArgsOf H a vs := by
  obtain ⟨b, cap, r, rfl, hb⟩ := hs
  refine ⟨ptr tl, some ⟨b, 0, none⟩, cap, fun w hA => typeArgs_some w hA h hi, fun w hA => list_some w hA ht, fun i v hv => ⟨b, _, rfl, hb, ?_⟩⟩
  rw [lget_eq, List.getElem?_append_left (List.getElem?_eq_some_iff.1 hv).1]
  exact hv

section
variable {H : Hp} {c a b : Nat} (w : World) (hA : Agree H w) (hc : Cmp H c)
include hA hc

theorem id_named {vs vs' : List Value} {d d' o o' : Nat} {cc cc' : Value} {rr rr' : List Value} {r : Nat → Bool} (hx : ArgsOf H a vs) (hy : ArgsOf H b vs') (ho : Orig H a d) (ho' : Orig H b d')
    (hd : H d = some (Ob (cc :: ptr o :: rr) 124)) (hd' : H d' = some (Ob (cc' :: ptr o' :: rr') 124)) (hol : LiveH H o) (hol' : LiveH H o') (hl : LiveH H a) (hl' : LiveH H b)
    (hbd : vs.length < 9223372036854775808)
    (e : (Nat.beq 63 63 && peq (some ⟨a, 0, none⟩) (some ⟨b, 0, none⟩)) = false)
    (ih : ∀ i v v', vs[i]? = some v → vs'[i]? = some v' → ∀ w', Agree H w' → Calls Tryz.prog 12 #[v, v'] w' (Ret (Qt (.bool (r i)) w'))) :
    IdSays c (.iface 63 (ptr a)) (.iface 63 (ptr b)) (decide (vs.length = vs'.length) && ((List.range vs.length).all r && peq (some ⟨o, 0, none⟩) (some ⟨o', 0, none⟩))) w := by
  unfold Cmp at hc
  obtain ⟨tx, px, capx, hx1, hx2, hx3⟩ := hx
  obtain ⟨ty', py, capy, hy1, hy2, hy3⟩ := hy
  cases hlen : decide (vs.length = vs'.length) with
  | false =>
    have en : ((vs.length : Int) != (vs'.length : Int)) = true := by
      have := of_decide_eq_false hlen
      simp
      omega
    (refine calls_enter Tryz.func24 Tryz.ntmps24 rfl rfl ?_)
    (repeat (first | (refine cL ?_; first | (refine cL_guard ?_; refine L_unwanted rfl rfl rfl ?_) | (refine cL_move ?_; refine L_val R_move rfl rfl rfl ?_) | (refine cL_load ?_; first | refine L_val (R_loadB rfl (by assumption) (by rfl)) rfl rfl rfl ?_ | refine L_val (R_loadH (by assumption) rfl (by assumption) (by rfl)) rfl rfl rfl ?_) | (refine cL_fieldAddr ?_; refine L_val (R_fa rfl) rfl rfl rfl ?_) | (refine cL_nilCheck ?_; refine L_val (R_nil rfl) rfl rfl rfl ?_) | (refine cL_assign ?_; refine L_val R_assign rfl rfl rfl ?_) | (refine cL_extract ?_; refine L_val (R_extract rfl rfl) rfl rfl rfl ?_) | (refine cL_typeAssert ?_; first | refine L_val (R_taY rfl) rfl rfl rfl ?_ | refine L_val (R_taN rfl rfl) rfl rfl rfl ?_ | refine L_val (R_taNil rfl) rfl rfl rfl ?_) | (refine cL_call ?_; first | refine L_callI (unalias_any _ _ _ rfl) rfl rfl ?_ | refine L_callI (asNamed_yes _ _) rfl rfl ?_ | refine L_callI (hx1 _ hA) rfl rfl ?_ | refine L_callI (hx2 _ hA) rfl rfl ?_ | refine L_callI (hy1 _ hA) rfl rfl ?_ | refine L_callI (hy2 _ hA) rfl rfl ?_ | refine L_val (R_len rfl) rfl rfl rfl ?_) | (refine cL_pick ?_; first | refine L_val (R_pickT rfl) rfl rfl rfl ?_ | refine L_val (R_pickF rfl) rfl rfl rfl ?_) | (refine cL_eql ?_; first | refine L_valB (R_eqIf rfl rfl (hA.live hl) (hA.live hl')) e rfl rfl rfl ?_ | refine L_val (R_eqPN rfl rfl) rfl rfl rfl ?_ | refine L_val (R_eqI rfl rfl) rfl rfl rfl ?_ | refine L_val (R_eqB rfl rfl) rfl rfl rfl ?_ | refine L_val (R_eqIfN rfl rfl) rfl rfl rfl ?_ | refine L_val (R_eqIfNN rfl) rfl rfl rfl ?_) | (refine cL_neq ?_; first | refine L_valB (R_neI rfl rfl) en rfl rfl rfl ?_ | refine L_val (R_nePN rfl rfl) rfl rfl rfl ?_ | refine L_val (R_neI rfl rfl) rfl rfl rfl ?_ | refine L_val (R_neB rfl rfl) rfl rfl rfl ?_ | refine L_val (R_neIfN rfl rfl) rfl rfl rfl ?_ | refine L_val (R_neIfNN rfl) rfl rfl rfl ?_) | (refine cL_lss ?_; refine L_val (R_ltI rfl rfl) rfl rfl rfl ?_) | (refine cL_makeInterface ?_; refine L_val R_mkI rfl rfl rfl ?_) | (refine cL_not ?_; refine L_val (R_not rfl) rfl rfl rfl ?_) | (refine cL_add ?_; refine L_val (R_addI rfl rfl) rfl rfl rfl ?_) | refine L_nil ?_) | refine G_seq ?_ | refine G_region ?_ | refine G_skip ?_ | refine G_block ?_ | refine G_end ?_ | refine G_true rfl ?_ | refine G_false rfl ?_))
    (refine G_retF rfl ?_)
    exact ⟨_, rfl, rfl, Ext.refl _ _⟩
  | true =>
    have hle := of_decide_eq_true hlen
    have en : ((vs.length : Int) != (vs'.length : Int)) = false := by rw [hle]; simp
    simp only [Bool.true_and]
    (refine calls_enter Tryz.func24 Tryz.ntmps24 rfl rfl ?_)
    (repeat (first | (refine cL ?_; first | (refine cL_guard ?_; refine L_unwanted rfl rfl rfl ?_) | (refine cL_move ?_; refine L_val R_move rfl rfl rfl ?_) | (refine cL_load ?_; first | refine L_val (R_loadB rfl (by assumption) (by rfl)) rfl rfl rfl ?_ | refine L_val (R_loadH (by assumption) rfl (by assumption) (by rfl)) rfl rfl rfl ?_) | (refine cL_fieldAddr ?_; refine L_val (R_fa rfl) rfl rfl rfl ?_) | (refine cL_nilCheck ?_; refine L_val (R_nil rfl) rfl rfl rfl ?_) | (refine cL_assign ?_; refine L_val R_assign rfl rfl rfl ?_) | (refine cL_extract ?_; refine L_val (R_extract rfl rfl) rfl rfl rfl ?_) | (refine cL_typeAssert ?_; first | refine L_val (R_taY rfl) rfl rfl rfl ?_ | refine L_val (R_taN rfl rfl) rfl rfl rfl ?_ | refine L_val (R_taNil rfl) rfl rfl rfl ?_) | (refine cL_call ?_; first | refine L_callI (unalias_any _ _ _ rfl) rfl rfl ?_ | refine L_callI (asNamed_yes _ _) rfl rfl ?_ | refine L_callI (hx1 _ hA) rfl rfl ?_ | refine L_callI (hx2 _ hA) rfl rfl ?_ | refine L_callI (hy1 _ hA) rfl rfl ?_ | refine L_callI (hy2 _ hA) rfl rfl ?_ | refine L_val (R_len rfl) rfl rfl rfl ?_) | (refine cL_pick ?_; first | refine L_val (R_pickT rfl) rfl rfl rfl ?_ | refine L_val (R_pickF rfl) rfl rfl rfl ?_) | (refine cL_eql ?_; first | refine L_valB (R_eqIf rfl rfl (hA.live hl) (hA.live hl')) e rfl rfl rfl ?_ | refine L_val (R_eqPN rfl rfl) rfl rfl rfl ?_ | refine L_val (R_eqI rfl rfl) rfl rfl rfl ?_ | refine L_val (R_eqB rfl rfl) rfl rfl rfl ?_ | refine L_val (R_eqIfN rfl rfl) rfl rfl rfl ?_ | refine L_val (R_eqIfNN rfl) rfl rfl rfl ?_) | (refine cL_neq ?_; first | refine L_valB (R_neI rfl rfl) en rfl rfl rfl ?_ | refine L_val (R_nePN rfl rfl) rfl rfl rfl ?_ | refine L_val (R_neI rfl rfl) rfl rfl rfl ?_ | refine L_val (R_neB rfl rfl) rfl rfl rfl ?_ | refine L_val (R_neIfN rfl rfl) rfl rfl rfl ?_ | refine L_val (R_neIfNN rfl) rfl rfl rfl ?_) | (refine cL_lss ?_; refine L_val (R_ltI rfl rfl) rfl rfl rfl ?_) | (refine cL_makeInterface ?_; refine L_val R_mkI rfl rfl rfl ?_) | (refine cL_not ?_; refine L_val (R_not rfl) rfl rfl rfl ?_) | (refine cL_add ?_; refine L_val (R_addI rfl rfl) rfl rfl rfl ?_) | refine L_nil ?_) | refine G_seq ?_ | refine G_region ?_ | refine G_skip ?_ | refine G_block ?_ | refine G_end ?_ | refine G_true rfl ?_ | refine G_false rfl ?_))
    refine G_loop (CountI 591 590 vs.length [(61, ptr a), (62, ptr b), (64, .slice py vs'.length capy), (589, .slice px vs.length capx)] w fun i => ∀ j, j < i → r j = true) (fun f _ _ => countM 591 590 f)
      ⟨rfl, Ext.refl _ _, _, 0, with_self ⟨rfl, rfl, rfl, rfl, rfl, rfl, trivial⟩, Nat.zero_le _, fun j hj => absurd hj (Nat.not_lt_zero j)⟩ ?_
    rintro f ds wr ⟨rfl, hext, f0, i, rfl, hi, hJ⟩
    have hAr : Agree H wr := hA.ext0 hext
    by_cases h : i < vs.length
    · have hb : decide ((i : Int) < (vs.length : Int)) = true := decide_eq_true (by omega)
      obtain ⟨v, hv⟩ : ∃ v, vs[i]? = some v := ⟨_, List.getElem?_eq_getElem h⟩
      obtain ⟨v', hv'⟩ : ∃ v', vs'[i]? = some v' := ⟨_, List.getElem?_eq_getElem (by omega)⟩
      obtain ⟨b1, cs, rfl, n1, n2⟩ := hx3 i v hv
      obtain ⟨b1', cs', rfl, n1', n2'⟩ := hy3 i v' hv'
      have hih := ih i v v' hv hv' wr hAr
      cases hr : r i with
      | false =>
        rw [hr] at hih
        (repeat (first | (refine cL ?_; first | (refine cL_guard ?_; refine L_unwanted rfl rfl rfl ?_) | (refine cL_move ?_; refine L_val R_move rfl rfl rfl ?_) | (refine cL_load ?_; first | refine L_val (R_loadH hAr rfl n1 n2) rfl rfl rfl ?_ | refine L_val (R_loadH hAr rfl n1' n2') rfl rfl rfl ?_ | refine L_val (R_loadB rfl (by assumption) (by rfl)) rfl rfl rfl ?_ | refine L_val (R_loadH (by assumption) rfl (by assumption) (by rfl)) rfl rfl rfl ?_) | (refine cL_fieldAddr ?_; refine L_val (R_fa rfl) rfl rfl rfl ?_) | (refine cL_nilCheck ?_; refine L_val (R_nil rfl) rfl rfl rfl ?_) | (refine cL_assign ?_; refine L_val R_assign rfl rfl rfl ?_) | (refine cL_extract ?_; refine L_val (R_extract rfl rfl) rfl rfl rfl ?_) | (refine cL_typeAssert ?_; first | refine L_val (R_taY rfl) rfl rfl rfl ?_ | refine L_val (R_taN rfl rfl) rfl rfl rfl ?_ | refine L_val (R_taNil rfl) rfl rfl rfl ?_) | (refine cL_call ?_; refine L_val (R_len rfl) rfl rfl rfl ?_) | (refine cL_pick ?_; first | refine L_val (R_pickT rfl) rfl rfl rfl ?_ | refine L_val (R_pickF rfl) rfl rfl rfl ?_) | (refine cL_eql ?_; first | refine L_val (R_eqPN rfl rfl) rfl rfl rfl ?_ | refine L_val (R_eqI rfl rfl) rfl rfl rfl ?_ | refine L_val (R_eqB rfl rfl) rfl rfl rfl ?_ | refine L_val (R_eqIfN rfl rfl) rfl rfl rfl ?_ | refine L_val (R_eqIfNN rfl) rfl rfl rfl ?_) | (refine cL_neq ?_; first | refine L_val (R_nePN rfl rfl) rfl rfl rfl ?_ | refine L_val (R_neI rfl rfl) rfl rfl rfl ?_ | refine L_val (R_neB rfl rfl) rfl rfl rfl ?_ | refine L_val (R_neIfN rfl rfl) rfl rfl rfl ?_ | refine L_val (R_neIfNN rfl) rfl rfl rfl ?_) | (refine cL_lss ?_; first | refine L_valB (R_ltI rfl rfl) hb rfl rfl rfl ?_ | refine L_val (R_ltI rfl rfl) rfl rfl rfl ?_) | (refine cL_indexAddr ?_; refine L_valE (R_ia rfl rfl (by omega) (by omega)) (ia0 _ _) rfl rfl rfl ?_) | (refine cL_makeInterface ?_; refine L_val R_mkI rfl rfl rfl ?_) | (refine cL_not ?_; refine L_val (R_not rfl) rfl rfl rfl ?_) | (refine cL_add ?_; refine L_val (R_addI rfl rfl) rfl rfl rfl ?_) | refine L_nil ?_) | refine G_seq ?_ | refine G_region ?_ | refine G_skip ?_ | refine G_block ?_ | refine G_end ?_ | refine G_true rfl ?_ | refine G_false rfl ?_))
        refine L_callQ hih rfl rfl fun w1 hw1 => ?_
        (repeat (first | (refine cL ?_; first | (refine cL_guard ?_; refine L_unwanted rfl rfl rfl ?_) | (refine cL_move ?_; refine L_val R_move rfl rfl rfl ?_) | (refine cL_load ?_; first | refine L_val (R_loadB rfl (by assumption) (by rfl)) rfl rfl rfl ?_ | refine L_val (R_loadH (by assumption) rfl (by assumption) (by rfl)) rfl rfl rfl ?_) | (refine cL_fieldAddr ?_; refine L_val (R_fa rfl) rfl rfl rfl ?_) | (refine cL_nilCheck ?_; refine L_val (R_nil rfl) rfl rfl rfl ?_) | (refine cL_assign ?_; refine L_val R_assign rfl rfl rfl ?_) | (refine cL_extract ?_; refine L_val (R_extract rfl rfl) rfl rfl rfl ?_) | (refine cL_typeAssert ?_; first | refine L_val (R_taY rfl) rfl rfl rfl ?_ | refine L_val (R_taN rfl rfl) rfl rfl rfl ?_ | refine L_val (R_taNil rfl) rfl rfl rfl ?_) | (refine cL_call ?_; refine L_val (R_len rfl) rfl rfl rfl ?_) | (refine cL_pick ?_; first | refine L_val (R_pickT rfl) rfl rfl rfl ?_ | refine L_val (R_pickF rfl) rfl rfl rfl ?_) | (refine cL_eql ?_; first | refine L_val (R_eqPN rfl rfl) rfl rfl rfl ?_ | refine L_val (R_eqI rfl rfl) rfl rfl rfl ?_ | refine L_val (R_eqB rfl rfl) rfl rfl rfl ?_ | refine L_val (R_eqIfN rfl rfl) rfl rfl rfl ?_ | refine L_val (R_eqIfNN rfl) rfl rfl rfl ?_) | (refine cL_neq ?_; first | refine L_val (R_nePN rfl rfl) rfl rfl rfl ?_ | refine L_val (R_neI rfl rfl) rfl rfl rfl ?_ | refine L_val (R_neB rfl rfl) rfl rfl rfl ?_ | refine L_val (R_neIfN rfl rfl) rfl rfl rfl ?_ | refine L_val (R_neIfNN rfl) rfl rfl rfl ?_) | (refine cL_lss ?_; refine L_val (R_ltI rfl rfl) rfl rfl rfl ?_) | (refine cL_makeInterface ?_; refine L_val R_mkI rfl rfl rfl ?_) | (refine cL_not ?_; refine L_val (R_not rfl) rfl rfl rfl ?_) | (refine cL_add ?_; refine L_val (R_addI rfl rfl) rfl rfl rfl ?_) | refine L_nil ?_) | refine G_seq ?_ | refine G_region ?_ | refine G_skip ?_ | refine G_block ?_ | refine G_end ?_ | refine G_true rfl ?_ | refine G_false rfl ?_))
        (refine G_retF rfl ?_)
        refine ⟨_, rfl, ?_, hext.trans hw1⟩
        rw [allR_false h hr]
        rfl
      | true =>
        rw [hr] at hih
        (repeat (first | (refine cL ?_; first | (refine cL_guard ?_; refine L_unwanted rfl rfl rfl ?_) | (refine cL_move ?_; refine L_val R_move rfl rfl rfl ?_) | (refine cL_load ?_; first | refine L_val (R_loadH hAr rfl n1 n2) rfl rfl rfl ?_ | refine L_val (R_loadH hAr rfl n1' n2') rfl rfl rfl ?_ | refine L_val (R_loadB rfl (by assumption) (by rfl)) rfl rfl rfl ?_ | refine L_val (R_loadH (by assumption) rfl (by assumption) (by rfl)) rfl rfl rfl ?_) | (refine cL_fieldAddr ?_; refine L_val (R_fa rfl) rfl rfl rfl ?_) | (refine cL_nilCheck ?_; refine L_val (R_nil rfl) rfl rfl rfl ?_) | (refine cL_assign ?_; refine L_val R_assign rfl rfl rfl ?_) | (refine cL_extract ?_; refine L_val (R_extract rfl rfl) rfl rfl rfl ?_) | (refine cL_typeAssert ?_; first | refine L_val (R_taY rfl) rfl rfl rfl ?_ | refine L_val (R_taN rfl rfl) rfl rfl rfl ?_ | refine L_val (R_taNil rfl) rfl rfl rfl ?_) | (refine cL_call ?_; refine L_val (R_len rfl) rfl rfl rfl ?_) | (refine cL_pick ?_; first | refine L_val (R_pickT rfl) rfl rfl rfl ?_ | refine L_val (R_pickF rfl) rfl rfl rfl ?_) | (refine cL_eql ?_; first | refine L_val (R_eqPN rfl rfl) rfl rfl rfl ?_ | refine L_val (R_eqI rfl rfl) rfl rfl rfl ?_ | refine L_val (R_eqB rfl rfl) rfl rfl rfl ?_ | refine L_val (R_eqIfN rfl rfl) rfl rfl rfl ?_ | refine L_val (R_eqIfNN rfl) rfl rfl rfl ?_) | (refine cL_neq ?_; first | refine L_val (R_nePN rfl rfl) rfl rfl rfl ?_ | refine L_val (R_neI rfl rfl) rfl rfl rfl ?_ | refine L_val (R_neB rfl rfl) rfl rfl rfl ?_ | refine L_val (R_neIfN rfl rfl) rfl rfl rfl ?_ | refine L_val (R_neIfNN rfl) rfl rfl rfl ?_) | (refine cL_lss ?_; first | refine L_valB (R_ltI rfl rfl) hb rfl rfl rfl ?_ | refine L_val (R_ltI rfl rfl) rfl rfl rfl ?_) | (refine cL_indexAddr ?_; refine L_valE (R_ia rfl rfl (by omega) (by omega)) (ia0 _ _) rfl rfl rfl ?_) | (refine cL_makeInterface ?_; refine L_val R_mkI rfl rfl rfl ?_) | (refine cL_not ?_; refine L_val (R_not rfl) rfl rfl rfl ?_) | (refine cL_add ?_; refine L_val (R_addI rfl rfl) rfl rfl rfl ?_) | refine L_nil ?_) | refine G_seq ?_ | refine G_region ?_ | refine G_skip ?_ | refine G_block ?_ | refine G_end ?_ | refine G_true rfl ?_ | refine G_false rfl ?_))
        refine L_callQ hih rfl rfl fun w1 hw1 => ?_
        (repeat (first | (refine cL ?_; first | (refine cL_guard ?_; refine L_unwanted rfl rfl rfl ?_) | (refine cL_move ?_; refine L_val R_move rfl rfl rfl ?_) | (refine cL_load ?_; first | refine L_val (R_loadB rfl (by assumption) (by rfl)) rfl rfl rfl ?_ | refine L_val (R_loadH (by assumption) rfl (by assumption) (by rfl)) rfl rfl rfl ?_) | (refine cL_fieldAddr ?_; refine L_val (R_fa rfl) rfl rfl rfl ?_) | (refine cL_nilCheck ?_; refine L_val (R_nil rfl) rfl rfl rfl ?_) | (refine cL_assign ?_; refine L_val R_assign rfl rfl rfl ?_) | (refine cL_extract ?_; refine L_val (R_extract rfl rfl) rfl rfl rfl ?_) | (refine cL_typeAssert ?_; first | refine L_val (R_taY rfl) rfl rfl rfl ?_ | refine L_val (R_taN rfl rfl) rfl rfl rfl ?_ | refine L_val (R_taNil rfl) rfl rfl rfl ?_) | (refine cL_call ?_; refine L_val (R_len rfl) rfl rfl rfl ?_) | (refine cL_pick ?_; first | refine L_val (R_pickT rfl) rfl rfl rfl ?_ | refine L_val (R_pickF rfl) rfl rfl rfl ?_) | (refine cL_eql ?_; first | refine L_val (R_eqPN rfl rfl) rfl rfl rfl ?_ | refine L_val (R_eqI rfl rfl) rfl rfl rfl ?_ | refine L_val (R_eqB rfl rfl) rfl rfl rfl ?_ | refine L_val (R_eqIfN rfl rfl) rfl rfl rfl ?_ | refine L_val (R_eqIfNN rfl) rfl rfl rfl ?_) | (refine cL_neq ?_; first | refine L_val (R_nePN rfl rfl) rfl rfl rfl ?_ | refine L_val (R_neI rfl rfl) rfl rfl rfl ?_ | refine L_val (R_neB rfl rfl) rfl rfl rfl ?_ | refine L_val (R_neIfN rfl rfl) rfl rfl rfl ?_ | refine L_val (R_neIfNN rfl) rfl rfl rfl ?_) | (refine cL_lss ?_; refine L_val (R_ltI rfl rfl) rfl rfl rfl ?_) | (refine cL_makeInterface ?_; refine L_val R_mkI rfl rfl rfl ?_) | (refine cL_not ?_; refine L_val (R_not rfl) rfl rfl rfl ?_) | (refine cL_add ?_; first | refine L_valE (R_addI rfl rfl) (succ_i64 h hbd) rfl rfl rfl ?_ | refine L_val (R_addI rfl rfl) rfl rfl rfl ?_) | refine L_nil ?_) | refine G_seq ?_ | refine G_region ?_ | refine G_skip ?_ | refine G_block ?_ | refine G_end ?_ | refine G_true rfl ?_ | refine G_false rfl ?_))
        refine G_inv ⟨⟨rfl, hext.trans hw1, _, i + 1, with_self ⟨rfl, rfl, rfl, rfl, rfl, rfl, trivial⟩, h, fun j hj => ?_⟩, ?_⟩
        · rcases Nat.lt_succ_iff_lt_or_eq.1 hj with hj | rfl
          · exact hJ j hj
          · exact hr
        · show ((vs.length : Int) - ((i + 1 : Nat) : Int)).toNat < ((vs.length : Int) - (i : Int)).toNat
          omega
    · have hb : decide ((i : Int) < (vs.length : Int)) = false := decide_eq_false (by omega)
      have hor := identicalOrigin_any wr hAr ho ho' hd hd' hol hol'
      (repeat (first | (refine cL ?_; first | (refine cL_guard ?_; refine L_unwanted rfl rfl rfl ?_) | (refine cL_move ?_; refine L_val R_move rfl rfl rfl ?_) | (refine cL_load ?_; first | refine L_val (R_loadB rfl (by assumption) (by rfl)) rfl rfl rfl ?_ | refine L_val (R_loadH (by assumption) rfl (by assumption) (by rfl)) rfl rfl rfl ?_) | (refine cL_fieldAddr ?_; refine L_val (R_fa rfl) rfl rfl rfl ?_) | (refine cL_nilCheck ?_; refine L_val (R_nil rfl) rfl rfl rfl ?_) | (refine cL_assign ?_; refine L_val R_assign rfl rfl rfl ?_) | (refine cL_extract ?_; refine L_val (R_extract rfl rfl) rfl rfl rfl ?_) | (refine cL_typeAssert ?_; first | refine L_val (R_taY rfl) rfl rfl rfl ?_ | refine L_val (R_taN rfl rfl) rfl rfl rfl ?_ | refine L_val (R_taNil rfl) rfl rfl rfl ?_) | (refine cL_call ?_; refine L_val (R_len rfl) rfl rfl rfl ?_) | (refine cL_pick ?_; first | refine L_val (R_pickT rfl) rfl rfl rfl ?_ | refine L_val (R_pickF rfl) rfl rfl rfl ?_) | (refine cL_eql ?_; first | refine L_val (R_eqPN rfl rfl) rfl rfl rfl ?_ | refine L_val (R_eqI rfl rfl) rfl rfl rfl ?_ | refine L_val (R_eqB rfl rfl) rfl rfl rfl ?_ | refine L_val (R_eqIfN rfl rfl) rfl rfl rfl ?_ | refine L_val (R_eqIfNN rfl) rfl rfl rfl ?_) | (refine cL_neq ?_; first | refine L_val (R_nePN rfl rfl) rfl rfl rfl ?_ | refine L_val (R_neI rfl rfl) rfl rfl rfl ?_ | refine L_val (R_neB rfl rfl) rfl rfl rfl ?_ | refine L_val (R_neIfN rfl rfl) rfl rfl rfl ?_ | refine L_val (R_neIfNN rfl) rfl rfl rfl ?_) | (refine cL_lss ?_; first | refine L_valB (R_ltI rfl rfl) hb rfl rfl rfl ?_ | refine L_val (R_ltI rfl rfl) rfl rfl rfl ?_) | (refine cL_makeInterface ?_; refine L_val R_mkI rfl rfl rfl ?_) | (refine cL_not ?_; refine L_val (R_not rfl) rfl rfl rfl ?_) | (refine cL_add ?_; refine L_val (R_addI rfl rfl) rfl rfl rfl ?_) | refine L_nil ?_) | refine G_exit rfl ?_ | refine G_seq ?_ | refine G_region ?_ | refine G_skip ?_ | refine G_block ?_ | refine G_end ?_ | refine G_true rfl ?_ | refine G_false rfl ?_))
      refine L_callQ hor rfl rfl fun w1 hw1 => ?_
      (repeat (first | (refine cL ?_; first | (refine cL_guard ?_; refine L_unwanted rfl rfl rfl ?_) | (refine cL_move ?_; refine L_val R_move rfl rfl rfl ?_) | (refine cL_load ?_; first | refine L_val (R_loadB rfl (by assumption) (by rfl)) rfl rfl rfl ?_ | refine L_val (R_loadH (by assumption) rfl (by assumption) (by rfl)) rfl rfl rfl ?_) | (refine cL_fieldAddr ?_; refine L_val (R_fa rfl) rfl rfl rfl ?_) | (refine cL_nilCheck ?_; refine L_val (R_nil rfl) rfl rfl rfl ?_) | (refine cL_assign ?_; refine L_val R_assign rfl rfl rfl ?_) | (refine cL_extract ?_; refine L_val (R_extract rfl rfl) rfl rfl rfl ?_) | (refine cL_typeAssert ?_; first | refine L_val (R_taY rfl) rfl rfl rfl ?_ | refine L_val (R_taN rfl rfl) rfl rfl rfl ?_ | refine L_val (R_taNil rfl) rfl rfl rfl ?_) | (refine cL_call ?_; refine L_val (R_len rfl) rfl rfl rfl ?_) | (refine cL_pick ?_; first | refine L_val (R_pickT rfl) rfl rfl rfl ?_ | refine L_val (R_pickF rfl) rfl rfl rfl ?_) | (refine cL_eql ?_; first | refine L_val (R_eqPN rfl rfl) rfl rfl rfl ?_ | refine L_val (R_eqI rfl rfl) rfl rfl rfl ?_ | refine L_val (R_eqB rfl rfl) rfl rfl rfl ?_ | refine L_val (R_eqIfN rfl rfl) rfl rfl rfl ?_ | refine L_val (R_eqIfNN rfl) rfl rfl rfl ?_) | (refine cL_neq ?_; first | refine L_val (R_nePN rfl rfl) rfl rfl rfl ?_ | refine L_val (R_neI rfl rfl) rfl rfl rfl ?_ | refine L_val (R_neB rfl rfl) rfl rfl rfl ?_ | refine L_val (R_neIfN rfl rfl) rfl rfl rfl ?_ | refine L_val (R_neIfNN rfl) rfl rfl rfl ?_) | (refine cL_lss ?_; refine L_val (R_ltI rfl rfl) rfl rfl rfl ?_) | (refine cL_makeInterface ?_; refine L_val R_mkI rfl rfl rfl ?_) | (refine cL_not ?_; refine L_val (R_not rfl) rfl rfl rfl ?_) | (refine cL_add ?_; refine L_val (R_addI rfl rfl) rfl rfl rfl ?_) | refine L_nil ?_) | refine G_seq ?_ | refine G_region ?_ | refine G_skip ?_ | refine G_block ?_ | refine G_end ?_ | refine G_true rfl ?_ | refine G_false rfl ?_))
      (refine G_retF rfl ?_)
      refine ⟨_, rfl, ?_, hext.trans hw1⟩
      rw [allR_true fun j hj => hJ j (by omega)]
      rfl
end

/-- 'Identical' out of the comparer's word -/
theorem identical_of {H : Hp} {x y : Value} {r : Bool} (w : World) (hA : Agree H w) (h : ∀ H' c w', Hp.le H H' → Agree H' w' → Cmp H' c → IdSays c x y r w') :
    Calls Tryz.prog 12 #[x, y] w (Ret (Qt (.bool r) w)) := by
  (refine calls_enter Tryz.func12 Tryz.ntmps12 rfl rfl ?_)
  (repeat (first | (refine cL ?_; first | (refine cL_move ?_; refine L_val R_move rfl rfl rfl ?_) | (refine cL_assign ?_; refine L_val R_assign rfl rfl rfl ?_) | refine L_nil ?_) | refine G_seq ?_ | refine G_region ?_ | refine G_skip ?_ | refine G_block ?_ | refine G_end ?_ | refine G_true rfl ?_ | refine G_false rfl ?_))
  refine L_allocS rfl rfl fun c w1 hw1 => ?_
  (repeat (first | (refine cL ?_; first | (refine cL_move ?_; refine L_val R_move rfl rfl rfl ?_) | (refine cL_assign ?_; refine L_val R_assign rfl rfl rfl ?_) | refine L_nil ?_) | refine G_seq ?_ | refine G_region ?_ | refine G_skip ?_ | refine G_block ?_ | refine G_end ?_ | refine G_true rfl ?_ | refine G_false rfl ?_))
  have hg := Grow.put hA hw1
  refine L_callQ (h _ c w1 hg.le hg.ag (Hp.put_same _ _ _)) rfl rfl fun w2 hw2 => ?_
  (repeat (first | (refine cL ?_; first | (refine cL_move ?_; refine L_val R_move rfl rfl rfl ?_) | (refine cL_assign ?_; refine L_val R_assign rfl rfl rfl ?_) | refine L_nil ?_) | refine G_seq ?_ | refine G_region ?_ | refine G_skip ?_ | refine G_block ?_ | refine G_end ?_ | refine G_true rfl ?_ | refine G_false rfl ?_))
  (refine G_retF rfl ?_)
  exact ⟨_, rfl, rfl, hw1.ext.trans hw2⟩
end Go.Proofs.YtmmcjnfgcaefpaaGreatDoor

/-
  Identical types, the whole: the package says of two types in memory what the rules say of them as data.
-/
namespace Go.Proofs.YtmmcjnfgcaefpaaGreatDoor
set_option maxRecDepth 100000
set_option maxHeartbeats 4000000
attribute [local irreducible] Calls execOp

def tyOf (k : Int) : Nat :=
  if k = 0 then 130 else if k = 1 then 63 else if k = 2 then 55 else if k = 4 then 71 else if k = 5 then 73 else if k = 6 then 75 else if k = 7 then 77 else if k = 8 then 79 else if k = 9 then 87 else 89

theorem Sh.kind {E : Env} {H : Hp} {k n c : Int} {b : Bool} {nms : List ByteArray} {vs : List Value} {v : Value} (h : Sh E H k n c b nms vs v) : ∃ a, v = .iface (tyOf k) (ptr a) ∧ Nat.beq (tyOf k) 211 = false := by
  cases h <;> exact ⟨_, rfl, rfl⟩

theorem ident_kind {k n c k' n' c' : Int} {b b' : Bool} {nm nm' : ByteArray} {es es' : List Ty} (h : k ≠ k') : ident (.mk k n c b nm es) (.mk k' n' c' b' nm' es') = false := by
  simp [ident, alikeP, h]

def identR (es es' : List Ty) (i : Nat) : Bool := match es[i]?, es'[i]? with
  | some e, some e' => ident e e'
  | _, _ => true

theorem range_all_succ (n : Nat) (p : Nat → Bool) : (List.range (n + 1)).all p = (p 0 && (List.range n).all fun i => p (i + 1)) := by
  rw [List.range_succ_eq_map, List.all_cons, List.all_map]
  rfl

theorem identL_eq : ∀ {es es' : List Ty}, es.length = es'.length → identL es es' = (List.range es.length).all (identR es es')
  | [], [], _ => rfl
  | e :: es, e' :: es', h => by
    rw [List.length_cons, range_all_succ, identL, identL_eq (by simpa using h)]
    rfl
  | [], _ :: _, h => by simp at h
  | _ :: _, [], h => by simp at h

theorem fields_eq : ∀ {es es' : List Ty}, es.length = es'.length → (List.range es.length).all (fieldB (es.map Ty.nm) (es'.map Ty.nm) (identR es es')) = (namesEq es es' && identL es es')
  | [], [], _ => rfl
  | e :: es, e' :: es', h => by
    have ih := fields_eq (es := es) (es' := es') (by simpa using h)
    rw [List.length_cons, range_all_succ, identL, namesEq]
    have e1 : (fun i => fieldB ((e :: es).map Ty.nm) ((e' :: es').map Ty.nm) (identR (e :: es) (e' :: es')) (i + 1)) = fieldB (es.map Ty.nm) (es'.map Ty.nm) (identR es es') := by
      funext i
      simp [fieldB, identR]
    rw [e1, ih]
    simp only [fieldB, identR, List.map_cons, List.getElem?_cons_zero, Option.getD_some]
    cases beqB e.nm e'.nm <;> cases ident e e' <;> cases namesEq es es' <;> rfl
  | [], _ :: _, h => by simp at h
  | _ :: _, [], h => by simp at h

theorem identL_app : ∀ {es es' fs fs' : List Ty}, es.length = es'.length → identL (es ++ fs) (es' ++ fs') = (identL es es' && identL fs fs')
  | [], [], _, _, _ => by simp [identL]
  | e :: es, e' :: es', fs, fs', h => by
    simp only [List.cons_append, identL]
    rw [identL_app (by simpa using h), Bool.and_assoc]
  | [], _ :: _, _, _, h => by simp at h
  | _ :: _, [], _, _, h => by simp at h

theorem RepL.get {E : Env} {H : Hp} : ∀ {es : List Ty} {vs : List Value} {i : Nat} {v : Value}, RepL E H es vs → vs[i]? = some v → ∃ e, es[i]? = some e ∧ Rep E H e v
  | [], vs, i, v, h, hv => by simp only [RepL] at h; subst h; simp at hv
  | e :: es, vs, i, v, h, hv => by
    simp only [RepL] at h
    obtain ⟨v0, vs', rfl, h1, h2⟩ := h
    cases i with
    | zero =>
      simp only [List.getElem?_cons_zero, Option.some.injEq] at hv
      subst hv
      exact ⟨e, rfl, h1⟩
    | succ i => exact RepL.get (i := i) h2 (by simpa using hv)

theorem RepL.take {E : Env} {H : Hp} : ∀ {es : List Ty} {vs : List Value} (n : Nat), RepL E H es vs → RepL E H (es.take n) (vs.take n)
  | [], vs, n, h => by simp only [RepL] at h; subst h; simp [RepL]
  | e :: es, vs, 0, _ => by simp [RepL]
  | e :: es, vs, n + 1, h => by
    simp only [RepL] at h
    obtain ⟨v0, vs', rfl, h1, h2⟩ := h
    simp only [List.take_succ_cons, RepL]
    exact ⟨_, _, rfl, h1, RepL.take n h2⟩
theorem RepL.drop {E : Env} {H : Hp} : ∀ {es : List Ty} {vs : List Value} (n : Nat), RepL E H es vs → RepL E H (es.drop n) (vs.drop n)
  | [], vs, n, h => by simp only [RepL] at h; subst h; simp [RepL]
  | e :: es, vs, 0, h => by simpa using h
  | e :: es, vs, n + 1, h => by
    simp only [RepL] at h
    obtain ⟨v0, vs', rfl, h1, h2⟩ := h
    simpa using RepL.drop n h2

theorem Ty.len_sizeL : ∀ (es : List Ty), es.length ≤ Ty.sizeL es
  | [] => Nat.le_refl _
  | e :: es => by
    have := Ty.len_sizeL es
    have : 1 ≤ Ty.size e := by cases e; simp [Ty.size]
    simp only [List.length_cons, Ty.sizeL]
    omega

/-- what is known of the parts -/
def IdAll (E : Env) (e : Ty) : Prop := Ty.size e < 9223372036854775808 → ∀ (t' : Ty) (v v' : Value) (H : Hp) (c : Nat) (w : World), EnvOK E H → Props H → Agree H w → Cmp H c → Rep E H e v → Rep E H t' v' → IdSays c v v' (ident e t') w

theorem id_parts {E : Env} {es es' : List Ty} {vs vs' : List Value} {H : Hp} {c : Nat} (ih : ∀ e ∈ es, IdAll E e) (hsz : Ty.sizeL es < 9223372036854775808) (hE : EnvOK E H) (hp : Props H) (hc : Cmp H c) (hL : RepL E H es vs) (hL' : RepL E H es' vs') :
    ∀ i v v', vs[i]? = some v → vs'[i]? = some v' → ∀ w', Agree H w' → IdSays c v v' (identR es es' i) w' := by
  intro i v v' hv hv' w' hA
  obtain ⟨e, h1, h2⟩ := hL.get hv
  obtain ⟨e', h1', h2'⟩ := hL'.get hv'
  have hr : identR es es' i = ident e e' := by simp [identR, h1, h1']
  rw [hr]
  have hm := List.mem_of_getElem? h1
  have := Ty.size_mem hm
  exact ih e hm (by omega) e' v v' H c w' hE hp hA hc h2 h2'

theorem orig_named {E : Env} {H : Hp} (hE : EnvOK E H) {n : Nat} {d : Nat} (h : E.decls[n]? = some d) : ∃ c o r, E.objs[n]? = some o ∧ H d = some (Ob (c :: ptr o :: r) 124) ∧ LiveH H o :=
  let ⟨c, o, r, h1, h2⟩ := hE.dl n d h
  ⟨c, o, r, h1, h2, hE.ol o (List.mem_of_getElem? h1)⟩

theorem len2 {α : Type} : ∀ {l : List α}, l.length = 2 → ∃ a b, l = [a, b]
  | [a, b], _ => ⟨a, b, rfl⟩

theorem Props.mono {H H' : Hp} (hh : Hp.le H H') : Props H → Props H'
  | ⟨cs, T, fz, h1, h2⟩ => ⟨cs, T, fz, hh _ _ h1, h2⟩

theorem Ty.sizeL_take : ∀ (es : List Ty) (n : Nat), Ty.sizeL (es.take n) ≤ Ty.sizeL es
  | [], n => by simp
  | e :: es, 0 => by simp [Ty.sizeL]
  | e :: es, n + 1 => by
    have := Ty.sizeL_take es n
    simp only [List.take_succ_cons, Ty.sizeL]
    omega
theorem Ty.sizeL_drop : ∀ (es : List Ty) (n : Nat), Ty.sizeL (es.drop n) ≤ Ty.sizeL es
  | [], n => by simp
  | e :: es, 0 => by simp
  | e :: es, n + 1 => by
    have := Ty.sizeL_drop es n
    simp only [List.drop_succ_cons, Ty.sizeL]
    omega

theorem tup_val {E : Env} {H : Hp} {es es' : List Ty} {vs vs' : List Value} (hL : RepL E H es vs) (hL' : RepL E H es' vs') :
    (decide (vs.length = vs'.length) && (List.range vs.length).all (identR es es')) = (decide (es.length = es'.length) && identL es es') := by
  rw [← hL.length, ← hL'.length]
  by_cases h : es.length = es'.length
  · rw [identL_eq h]
  · simp [h]

theorem tup_same {E : Env} {H : Hp} {es es' : List Ty} {vs vs' : List Value} {x y : Value} (hE : EnvOK E H) (hx : TupIs H vs x) (hy : TupIs H vs' y) (hL : RepL E H es vs) (hL' : RepL E H es' vs') (h : x = y) :
    (decide (vs.length = vs'.length) && (List.range vs.length).all (identR es es')) = true := by
  subst h
  have e := hx.same hy
  subst e
  rw [tup_val hL hL', hL.length, hL'.length]
  simp only [decide_true, Bool.true_and]
  exact identL_same (fun e _ t v => ident_same hE e t v) hL hL'

theorem func_val {n c n' c' : Int} {b b' : Bool} {nm nm' : ByteArray} {es es' : List Ty} (h0 : 0 ≤ c) (h0' : 0 ≤ c') (h1 : c ≤ es.length) (h1' : c' ≤ es'.length) :
    ident (.mk 10 n c b nm es) (.mk 10 n' c' b' nm' es') = (b == b' && ((decide ((es.take c.toNat).length = (es'.take c'.toNat).length) && identL (es.take c.toNat) (es'.take c'.toNat)) && (decide ((es.drop c.toNat).length = (es'.drop c'.toNat).length) && identL (es.drop c.toNat) (es'.drop c'.toNat)))) := by
  have e1 : (es.take c.toNat).length = c.toNat := by rw [List.length_take]; omega
  have e2 : (es'.take c'.toNat).length = c'.toNat := by rw [List.length_take]; omega
  have e3 : (es.drop c.toNat).length = es.length - c.toNat := List.length_drop
  have e4 : (es'.drop c'.toNat).length = es'.length - c'.toNat := List.length_drop
  by_cases hc : c = c'
  · by_cases hl : es.length = es'.length
    · have hid : identL es es' = (identL (es.take c.toNat) (es'.take c'.toNat) && identL (es.drop c.toNat) (es'.drop c'.toNat)) := by
        rw [← identL_app (by omega), List.take_append_drop, List.take_append_drop]
      have d1 : (es.take c.toNat).length = (es'.take c'.toNat).length := by omega
      have d2 : (es.drop c.toNat).length = (es'.drop c'.toNat).length := by omega
      rw [decide_eq_true d1, decide_eq_true d2]
      simp [ident, alikeP, hl, hc, hid]
    · have d2 : ¬ (es.drop c.toNat).length = (es'.drop c'.toNat).length := by omega
      rw [decide_eq_false d2]
      simp [ident, alikeP, hl]
  · have d1 : ¬ (es.take c.toNat).length = (es'.take c'.toNat).length := by omega
    rw [decide_eq_false d1]
    simp [ident, alikeP, hc]

theorem named_val {E : Env} {H : Hp} {n c n' c' : Int} {b b' : Bool} {nm nm' : ByteArray} {es es' : List Ty} {vs vs' : List Value} {o o' : Nat} (hE : EnvOK E H) (hl : es.length = vs.length) (hl' : es'.length = vs'.length) (h0 : 0 ≤ n) (h0' : 0 ≤ n')
    (ho : E.objs[n.toNat]? = some o) (ho' : E.objs[n'.toNat]? = some o') :
    ident (.mk 1 n c b nm es) (.mk 1 n' c' b' nm' es') = (decide (vs.length = vs'.length) && ((List.range vs.length).all (identR es es') && peq (some ⟨o, 0, none⟩) (some ⟨o', 0, none⟩))) := by
  have hp : peq (some ⟨o, 0, none⟩) (some ⟨o', 0, none⟩) = (n == n') := by
    by_cases hn : n = n'
    · subst hn
      rw [ho] at ho'
      injection ho' with ho'
      subst ho'
      rw [peq_self]
      simp
    · have hoo : o ≠ o' := fun h => hn (toNat_inj h0 h0' (nodup_inj hE.on ho (h ▸ ho')))
      rw [peq_false hoo]
      simp [hn]
  rw [hp, ← hl, ← hl']
  by_cases h : es.length = es'.length
  · rw [← identL_eq h]
    simp [ident, alikeP, h, Bool.and_comm]
  · simp [ident, alikeP, h]

theorem id_gate {H : Hp} {c a b T k' : Nat} {kk : Int} [PtrEq Tryz.prog T] [CmpT Tryz.prog T] {r : Bool} (w : World) (hA : Agree H w) (hl : LiveH H a) (hTa : Nat.beq T 211 = false) (hk : tyOf kk = k')
    (hid : T = k' → a = b → r = true) (hr : T ≠ k' → r = false)
    (ne : Nat.beq k' T = false → Nat.beq T k' = false → IdSays c (.iface T (ptr a)) (.iface k' (ptr b)) false w)
    (go : T = k' → (Nat.beq T T && peq (some ⟨a, 0, none⟩) (some ⟨b, 0, none⟩)) = false → IdSays c (.iface T (ptr a)) (.iface T (ptr b)) r w) : IdSays c (.iface T (ptr a)) (.iface k' (ptr b)) r w := by
  cases hT : Nat.beq T k' with
  | false =>
    have hne : T ≠ k' := fun h => by rw [h, nbeq_self] at hT; cases hT
    rw [hr hne]
    refine ne ?_ hT
    cases hh : Nat.beq k' T with
    | false => rfl
    | true => exact absurd (Nat.eq_of_beq_eq_true hh).symm hne
  | true =>
    have h := Nat.eq_of_beq_eq_true hT
    subst h
    cases hpq : peq (some ⟨a, 0, none⟩) (some ⟨b, 0, none⟩) with
    | true =>
      have hab := peq_true hpq
      subst hab
      rw [hid rfl rfl]
      exact id_eq w hA hl hTa
    | false => exact go rfl (by rw [hpq, Bool.and_false])

theorem identical_all {E : Env} : ∀ t, IdAll E t := by
  refine Ty.ind fun k n c b nm es ih => ?_
  intro hsz t' v v' H cm w hE hp hA hc h h'
  obtain ⟨k', n', c', b', nm', es'⟩ := t'
  have hid := fun hvv : v = v' => ident_same hE _ _ _ h (hvv ▸ h')
  simp only [Rep] at h h'
  obtain ⟨vs, hL, hS⟩ := h
  obtain ⟨vs', hL', hS'⟩ := h'
  have hse : Ty.sizeL es < 9223372036854775808 := by simp only [Ty.size] at hsz; omega
  have hbd : vs.length < 9223372036854775808 := by
    have := Ty.len_sizeL es
    have := hL.length
    omega
  have hparts := id_parts ih hse hE hp hc hL hL'
  have hlen := hL.length
  have hlen' := hL'.length
  have hlive' := hS'.live hE
  obtain ⟨b0, hb0, hna⟩ := hS'.kind
  subst hb0
  obtain ⟨_, _, hb1, hl'⟩ := hlive'
  injection hb1 with hb1 hb2
  have hb3 := ptr_inj hb2
  subst hb3
  clear hb1 hb2
  cases hS with
  | basic h h0 =>
    refine id_gate (kk := k') w hA (⟨_, _, _, h⟩) rfl rfl (fun h1 h2 => hid (by rw [h1, h2])) (fun h1 => ident_kind fun h2 => h1 (by rw [← h2]; rfl)) (fun h1 h2 => id_ne_basic w hA hc (⟨_, _, _, h⟩) hl' hna h1 h2) (fun hT e => ?_)
    rw [← hT] at hS'
    obtain ⟨rfl, rfl, h0', i', s', q'⟩ := hS'.inv_basic rfl
    have hes := List.length_eq_zero_iff.1 hlen
    have hes' := List.length_eq_zero_iff.1 hlen'
    subst hes
    subst hes'
    have hi : ident (.mk 0 n c b nm []) (.mk 0 n' c' b' nm' []) = (n + 1 == n' + 1) := by
      rw [Bool.eq_iff_iff]
      simp [ident, identL, alikeP]
    rw [hi]
    exact id_basic w hA hc h q' e
  | pointer h =>
    refine id_gate (kk := k') w hA (⟨_, _, _, h⟩) rfl rfl (fun h1 h2 => hid (by rw [h1, h2])) (fun h1 => ident_kind fun h2 => h1 (by rw [← h2]; rfl)) (fun h1 h2 => id_ne_pointer w hA hc (⟨_, _, _, h⟩) hl' hna h1 h2) (fun hT e => ?_)
    rw [← hT] at hS'
    obtain ⟨rfl, u', rfl, q'⟩ := hS'.inv_pointer rfl
    obtain ⟨e1, rfl⟩ : ∃ e1, es = [e1] := List.length_eq_one_iff.1 hlen
    obtain ⟨e1', rfl⟩ : ∃ e1', es' = [e1'] := List.length_eq_one_iff.1 hlen'
    have ih0 := hparts 0 _ _ rfl rfl
    have hr0 : identR [e1] [e1'] 0 = ident e1 e1' := rfl
    rw [hr0] at ih0
    have hi : ident (.mk 4 n c b nm [e1]) (.mk 4 n' c' b' nm' [e1']) = ident e1 e1' := by simp [ident, identL, alikeP]
    rw [hi]
    exact id_pointer w hA hc h q' e ih0
  | slice h =>
    refine id_gate (kk := k') w hA (⟨_, _, _, h⟩) rfl rfl (fun h1 h2 => hid (by rw [h1, h2])) (fun h1 => ident_kind fun h2 => h1 (by rw [← h2]; rfl)) (fun h1 h2 => id_ne_slice w hA hc (⟨_, _, _, h⟩) hl' hna h1 h2) (fun hT e => ?_)
    rw [← hT] at hS'
    obtain ⟨rfl, u', rfl, q'⟩ := hS'.inv_slice rfl
    obtain ⟨e1, rfl⟩ : ∃ e1, es = [e1] := List.length_eq_one_iff.1 hlen
    obtain ⟨e1', rfl⟩ : ∃ e1', es' = [e1'] := List.length_eq_one_iff.1 hlen'
    have ih0 := hparts 0 _ _ rfl rfl
    have hr0 : identR [e1] [e1'] 0 = ident e1 e1' := rfl
    rw [hr0] at ih0
    have hi : ident (.mk 5 n c b nm [e1]) (.mk 5 n' c' b' nm' [e1']) = ident e1 e1' := by simp [ident, identL, alikeP]
    rw [hi]
    exact id_slice w hA hc h q' e ih0
  | array h h0 =>
    refine id_gate (kk := k') w hA (⟨_, _, _, h⟩) rfl rfl (fun h1 h2 => hid (by rw [h1, h2])) (fun h1 => ident_kind fun h2 => h1 (by rw [← h2]; rfl)) (fun h1 h2 => id_ne_array w hA hc (⟨_, _, _, h⟩) hl' hna h1 h2) (fun hT e => ?_)
    rw [← hT] at hS'
    obtain ⟨rfl, h0', u', rfl, q'⟩ := hS'.inv_array rfl
    obtain ⟨e1, rfl⟩ : ∃ e1, es = [e1] := List.length_eq_one_iff.1 hlen
    obtain ⟨e1', rfl⟩ : ∃ e1', es' = [e1'] := List.length_eq_one_iff.1 hlen'
    have ih0 := hparts 0 _ _ rfl rfl
    have hr0 : identR [e1] [e1'] 0 = ident e1 e1' := rfl
    rw [hr0] at ih0
    have hi : ident (.mk 6 n c b nm [e1]) (.mk 6 n' c' b' nm' [e1']) = (n == n' && ident e1 e1') := by simp [ident, identL, alikeP]
    rw [hi]
    exact id_array w hA hc h q' h0 h0' e ih0
  | chan h h0 h3 =>
    refine id_gate (kk := k') w hA (⟨_, _, _, h⟩) rfl rfl (fun h1 h2 => hid (by rw [h1, h2])) (fun h1 => ident_kind fun h2 => h1 (by rw [← h2]; rfl)) (fun h1 h2 => id_ne_chan w hA hc (⟨_, _, _, h⟩) hl' hna h1 h2) (fun hT e => ?_)
    rw [← hT] at hS'
    obtain ⟨rfl, u', rfl, q'⟩ := hS'.inv_chan rfl
    obtain ⟨e1, rfl⟩ : ∃ e1, es = [e1] := List.length_eq_one_iff.1 hlen
    obtain ⟨e1', rfl⟩ : ∃ e1', es' = [e1'] := List.length_eq_one_iff.1 hlen'
    have ih0 := hparts 0 _ _ rfl rfl
    have hr0 : identR [e1] [e1'] 0 = ident e1 e1' := rfl
    rw [hr0] at ih0
    have hi : ident (.mk 8 n c b nm [e1]) (.mk 8 n' c' b' nm' [e1']) = (n == n' && ident e1 e1') := by simp [ident, identL, alikeP]
    rw [hi]
    exact id_chan w hA hc h q' e ih0
  | map h =>
    refine id_gate (kk := k') w hA (⟨_, _, _, h⟩) rfl rfl (fun h1 h2 => hid (by rw [h1, h2])) (fun h1 => ident_kind fun h2 => h1 (by rw [← h2]; rfl)) (fun h1 h2 => id_ne_map w hA hc (⟨_, _, _, h⟩) hl' hna h1 h2) (fun hT e => ?_)
    rw [← hT] at hS'
    obtain ⟨rfl, u1', u2', rfl, q'⟩ := hS'.inv_map rfl
    obtain ⟨e1, e2, rfl⟩ : ∃ e1 e2, es = [e1, e2] := len2 hlen
    obtain ⟨e1', e2', rfl⟩ : ∃ e1' e2', es' = [e1', e2'] := len2 hlen'
    have hi : ident (.mk 7 n c b nm [e1, e2]) (.mk 7 n' c' b' nm' [e1', e2']) = (ident e1 e1' && ident e2 e2') := by simp [ident, identL, alikeP]
    rw [hi]
    exact id_map w hA hc h q' e (hparts 0 _ _ rfl rfl) (hparts 1 _ _ rfl rfl)
  | param hn h0 =>
    refine id_gate (kk := k') w hA (hE.pl _ (List.mem_of_getElem? hn)) rfl rfl (fun h1 h2 => hid (by rw [h1, h2])) (fun h1 => ident_kind fun h2 => h1 (by rw [← h2]; rfl)) (fun h1 h2 => id_ne_param w hA hc (hE.pl _ (List.mem_of_getElem? hn)) hl' hna (by rw [h2]; rfl)) (fun hT e => ?_)
    rw [← hT] at hS'
    obtain ⟨rfl, rfl, h0', q'⟩ := hS'.inv_param rfl
    have hes := List.length_eq_zero_iff.1 hlen
    have hes' := List.length_eq_zero_iff.1 hlen'
    subst hes
    subst hes'
    have hne : n ≠ n' := by
      intro hnn
      subst hnn
      rw [hn] at q'
      injection q' with q'
      subst q'
      rw [peq_self, nbeq_self] at e
      cases e
    have hi : ident (.mk 2 n c b nm []) (.mk 2 n' c' b' nm' []) = false := by simp [ident, alikeP, hne]
    rw [hi]
    exact id_ne_param w hA hc (hE.pl _ (List.mem_of_getElem? hn)) hl' rfl e
  | struct h hs hn hl =>
    refine id_gate (kk := k') w hA (⟨_, _, _, h⟩) rfl rfl (fun h1 h2 => hid (by rw [h1, h2])) (fun h1 => ident_kind fun h2 => h1 (by rw [← h2]; rfl)) (fun h1 h2 => id_ne_struct w hA hc (⟨_, _, _, h⟩) hl' hna h1 h2) (fun hT e => ?_)
    rw [← hT] at hS'
    obtain ⟨rfl, sl', q', hs', hn', hln'⟩ := hS'.inv_struct rfl
    have hi : ident (.mk 9 n c b nm es) (.mk 9 n' c' b' nm' es') = (decide (vs.length = vs'.length) && (List.range vs.length).all (fieldB (es.map Ty.nm) (es'.map Ty.nm) (identR es es'))) := by
      rw [← hlen, ← hlen']
      by_cases hl2 : es.length = es'.length
      · rw [fields_eq hl2]
        simp [ident, alikeP, hl2]
      · simp [ident, alikeP, hl2]
    rw [hi]
    exact id_struct w hA hc hp h q' hs hs' hn hbd e hparts
  | func h hx hy h0 h1 =>
    refine id_gate (kk := k') w hA (⟨_, _, _, h⟩) rfl rfl (fun h1 h2 => hid (by rw [h1, h2])) (fun h1 => ident_kind fun h2 => h1 (by rw [← h2]; rfl)) (fun h1 h2 => id_ne_func w hA hc (⟨_, _, _, h⟩) hl' hna h1 h2) (fun hT e => ?_)
    rw [← hT] at hS'
    obtain ⟨rfl, x', y', q', hx', hy', h0', h1'⟩ := hS'.inv_func rfl
    have hc1 : (vs.take c.toNat).length = c.toNat := by rw [List.length_take]; omega
    have hc1' : (vs'.take c'.toNat).length = c'.toNat := by rw [List.length_take]; omega
    have hd1 : (vs.drop c.toNat).length = vs.length - c.toNat := List.length_drop
    have hd1' : (vs'.drop c'.toNat).length = vs'.length - c'.toNat := List.length_drop
    have hLx := RepL.take c.toNat hL
    have hLx' := RepL.take c'.toNat hL'
    have hLy := RepL.drop c.toNat hL
    have hLy' := RepL.drop c'.toNat hL'
    have hih1 : ∀ e ∈ es.take c.toNat, IdAll E e := fun e he => ih e (List.mem_of_mem_take he)
    have hih2 : ∀ e ∈ es.drop c.toNat, IdAll E e := fun e he => ih e (List.mem_of_mem_drop he)
    have hsz1 : Ty.sizeL (es.take c.toNat) < 9223372036854775808 := Nat.lt_of_le_of_lt (Ty.sizeL_take _ _) hse
    have hsz2 : Ty.sizeL (es.drop c.toNat) < 9223372036854775808 := Nat.lt_of_le_of_lt (Ty.sizeL_drop _ _) hse
    have hp1 := fun w' (hA' : Agree H w') => id_tuple w' hA' hc hx hx' (by omega) (tup_same hE hx hx' hLx hLx') (id_parts hih1 hsz1 hE hp hc hLx hLx')
    have hp2 := fun w' (hA' : Agree H w') => id_tuple w' hA' hc hy hy' (by omega) (tup_same hE hy hy' hLy hLy') (id_parts hih2 hsz2 hE hp hc hLy hLy')
    have hi : ident (.mk 10 n c b nm es) (.mk 10 n' c' b' nm' es') = (b == b' && ((decide ((vs.take c.toNat).length = (vs'.take c'.toNat).length) && (List.range (vs.take c.toNat).length).all (identR (es.take c.toNat) (es'.take c'.toNat))) && (decide ((vs.drop c.toNat).length = (vs'.drop c'.toNat).length) && (List.range (vs.drop c.toNat).length).all (identR (es.drop c.toNat) (es'.drop c'.toNat))))) := by
      rw [tup_val hLx hLx', tup_val hLy hLy']
      exact func_val h0 h0' (by omega) (by omega)
    rw [hi]
    exact id_func w hA hc h q' e hp1 hp2
  | named hn h0 ho h hu =>
    refine id_gate (kk := k') w hA (⟨_, _, _, h⟩) rfl rfl (fun h1 h2 => hid (by rw [h1, h2])) (fun h1 => ident_kind fun h2 => h1 (by rw [← h2]; rfl)) (fun h1 h2 => id_ne_named w hA hc (⟨_, _, _, h⟩) hl' hna h1 h2) (fun hT e => ?_)
    rw [← hT] at hS'
    obtain ⟨rfl, h0', hcs⟩ := hS'.inv_named rfl
    have hparts2 : ∀ i v v', _[i]? = some v → vs'[i]? = some v' → ∀ w', Agree H w' → Calls Tryz.prog 12 #[v, v'] w' (Ret (Qt (.bool (identR es es' i)) w')) := fun i v v' hv hv' w' hA' =>
      identical_of w' hA' fun H2 c2 w2 hle2 hA2 hc2 => id_parts ih hse (hE.mono hle2) (hp.mono hle2) hc2 (RepL.mono hle2 _ _ hL) (RepL.mono hle2 _ _ hL') i v v' hv hv' w2 hA2
    obtain ⟨cd, od, rd, g1, g2, g3⟩ := orig_named hE hn
    rcases hcs with ⟨rfl, o', _, _, _, _, _, _, hn', ho', q', hu'⟩ | ⟨u', us', i', tl', d', _, _, _, _, _, _, _, sl', rfl, hn', q', hi', ht', hs', hu'⟩
    · obtain ⟨cd', od', rd', g1', g2', g3'⟩ := orig_named hE hn'
      rw [named_val hE hlen hlen' h0 h0' g1 g1']
      exact id_named w hA hc (argsOf_none h) (argsOf_none q') (.inl ⟨rfl, _, _, _, _, _, _, _, h⟩) (.inl ⟨rfl, _, _, _, _, _, _, _, q'⟩) g2 g2' g3 g3' ⟨_, _, _, h⟩ hl' hbd e hparts2
    · obtain ⟨cd', od', rd', g1', g2', g3'⟩ := orig_named hE hn'
      rw [named_val hE hlen hlen' h0 h0' g1 g1']
      exact id_named w hA hc (argsOf_none h) (argsOf_inst q' hi' ht' hs') (.inl ⟨rfl, _, _, _, _, _, _, _, h⟩) (.inr ⟨_, _, _, _, _, _, _, _, _, q', hi'⟩) g2 g2' g3 g3' ⟨_, _, _, h⟩ hl' hbd e hparts2
  | inst hn h0 h hi ht hs hu =>
    refine id_gate (kk := k') w hA (⟨_, _, _, h⟩) rfl rfl (fun h1 h2 => hid (by rw [h1, h2])) (fun h1 => ident_kind fun h2 => h1 (by rw [← h2]; rfl)) (fun h1 h2 => id_ne_named w hA hc (⟨_, _, _, h⟩) hl' hna h1 h2) (fun hT e => ?_)
    rw [← hT] at hS'
    obtain ⟨rfl, h0', hcs⟩ := hS'.inv_named rfl
    have hparts2 : ∀ i v v', _[i]? = some v → vs'[i]? = some v' → ∀ w', Agree H w' → Calls Tryz.prog 12 #[v, v'] w' (Ret (Qt (.bool (identR es es' i)) w')) := fun i v v' hv hv' w' hA' =>
      identical_of w' hA' fun H2 c2 w2 hle2 hA2 hc2 => id_parts ih hse (hE.mono hle2) (hp.mono hle2) hc2 (RepL.mono hle2 _ _ hL) (RepL.mono hle2 _ _ hL') i v v' hv hv' w2 hA2
    obtain ⟨cd, od, rd, g1, g2, g3⟩ := orig_named hE hn
    rcases hcs with ⟨rfl, o', _, _, _, _, _, _, hn', ho', q', hu'⟩ | ⟨u', us', i', tl', d', _, _, _, _, _, _, _, sl', rfl, hn', q', hi', ht', hs', hu'⟩
    · obtain ⟨cd', od', rd', g1', g2', g3'⟩ := orig_named hE hn'
      rw [named_val hE hlen hlen' h0 h0' g1 g1']
      exact id_named w hA hc (argsOf_inst h hi ht hs) (argsOf_none q') (.inr ⟨_, _, _, _, _, _, _, _, _, h, hi⟩) (.inl ⟨rfl, _, _, _, _, _, _, _, q'⟩) g2 g2' g3 g3' ⟨_, _, _, h⟩ hl' hbd e hparts2
    · obtain ⟨cd', od', rd', g1', g2', g3'⟩ := orig_named hE hn'
      rw [named_val hE hlen hlen' h0 h0' g1 g1']
      exact id_named w hA hc (argsOf_inst h hi ht hs) (argsOf_inst q' hi' ht' hs') (.inr ⟨_, _, _, _, _, _, _, _, _, h, hi⟩) (.inr ⟨_, _, _, _, _, _, _, _, _, q', hi'⟩) g2 g2' g3 g3' ⟨_, _, _, h⟩ hl' hbd e hparts2
end Go.Proofs.YtmmcjnfgcaefpaaGreatDoor

/-
  The input's types as they lie in memory. Plain Lean.
-/
namespace Go.Proofs.YtmmcjnfgcaefpaaGreatDoor

/-! ### types in the input's memory -/

def HCell (H : Hp) (b i : Nat) (v : Value) : Prop := ∃ arr T fr, H b = some (.cells arr T fr) ∧ arr[i]? = some v
def HCells (H : Hp) (b o : Nat) (cs : List Value) : Prop := ∀ j v, lget cs j = some v → HCell H b (o + j) v

theorem Agree.hcell {H : Hp} {w : World} (hA : Agree H w) {b i : Nat} {v : Value} (h : HCell H b i v) : w.cell? ⟨b, i, none⟩ = some v := by
  obtain ⟨arr, T, fr, h1, h2⟩ := h
  simp [World.cell?, hA _ _ h1, h2]
theorem HCell.mono {H H' : Hp} (hh : Hp.le H H') {b i : Nat} {v : Value} : HCell H b i v → HCell H' b i v
  | ⟨arr, T, fr, h1, h2⟩ => ⟨arr, T, fr, hh _ _ h1, h2⟩
theorem HCells.mono {H H' : Hp} (hh : Hp.le H H') {b o : Nat} {cs : List Value} (h : HCells H b o cs) : HCells H' b o cs := fun j v hv => (h j v hv).mono hh

abbrev tyCells (k n c : Int) (b : Bool) (sl : Value) (nm : ByteArray) : List Value := [.int .i64 k, .int .i64 n, .int .i64 c, .bool b, sl, .string nm]
def i64ok (n : Int) : Prop := -9223372036854775808 ≤ n ∧ n < 9223372036854775808

mutual
def DTy (H : Hp) : Ty → List Value → Prop
  | .mk k n c b nm es, cs => ∃ p cap, cs = tyCells k n c b (.slice p es.length cap) nm ∧ i64ok k ∧ i64ok n ∧ i64ok c ∧ (es.length * 72 ≤ 140737488351232 ∧ es.length ≤ cap) ∧ (es = [] ∨ ∃ bk off, p = some ⟨bk, off, none⟩ ∧ DEl H es bk off)
def DEl (H : Hp) : List Ty → Nat → Nat → Prop
  | [], _, _ => True
  | e :: es, bk, off => (∃ cs, HCells H bk off cs ∧ DTy H e cs) ∧ DEl H es bk (off + 6)
end

/-- a slice of types -/
def DSl (H : Hp) (es : List Ty) (p : Option Addr) : Prop := es = [] ∨ ∃ bk off, p = some ⟨bk, off, none⟩ ∧ DEl H es bk off

theorem DEl.get {H : Hp} : ∀ {es : List Ty} {bk off i : Nat} {e : Ty}, DEl H es bk off → es[i]? = some e → ∃ cs, HCells H bk (off + i * 6) cs ∧ DTy H e cs
  | [], _, _, _, _, _, h => by simp at h
  | x :: es, bk, off, 0, e, h, he => by
    simp only [List.getElem?_cons_zero, Option.some.injEq] at he
    subst he
    simp only [DEl] at h
    simpa using h.1
  | x :: es, bk, off, i + 1, e, h, he => by
    simp only [DEl] at h
    obtain ⟨cs, h1, h2⟩ := DEl.get (i := i) h.2 (by simpa using he)
    refine ⟨cs, ?_, h2⟩
    have : off + (i + 1) * 6 = off + 6 + i * 6 := by omega
    rw [this]
    exact h1

theorem DSl.get {H : Hp} {es : List Ty} {p : Option Addr} {i : Nat} {e : Ty} (h : DSl H es p) (he : es[i]? = some e) : ∃ bk off cs, p = some ⟨bk, off, none⟩ ∧ HCells H bk (off + i * 6) cs ∧ DTy H e cs := by
  rcases h with rfl | ⟨bk, off, rfl, h⟩
  · simp at he
  · obtain ⟨cs, h1, h2⟩ := h.get he
    exact ⟨bk, off, cs, rfl, h1, h2⟩

mutual
theorem DTy.mono {H H' : Hp} (hh : Hp.le H H') : ∀ (t : Ty) (cs : List Value), DTy H t cs → DTy H' t cs
  | .mk k n c b nm es, cs, h => by
    simp only [DTy] at h ⊢
    obtain ⟨p, cap, h1, h2, h3, h4, h5, h6⟩ := h
    refine ⟨p, cap, h1, h2, h3, h4, h5, ?_⟩
    rcases h6 with h6 | ⟨bk, off, h6, h7⟩
    · exact .inl h6
    · exact .inr ⟨bk, off, h6, DEl.mono hh es bk off h7⟩
theorem DEl.mono {H H' : Hp} (hh : Hp.le H H') : ∀ (es : List Ty) (bk off : Nat), DEl H es bk off → DEl H' es bk off
  | [], _, _, _ => by simp [DEl]
  | e :: es, bk, off, h => by
    simp only [DEl] at h ⊢
    obtain ⟨⟨cs, h1, h2⟩, h3⟩ := h
    exact ⟨⟨cs, h1.mono hh, DTy.mono hh e cs h2⟩, DEl.mono hh es bk (off + 6) h3⟩
end
theorem DSl.mono {H H' : Hp} (hh : Hp.le H H') {es : List Ty} {p : Option Addr} : DSl H es p → DSl H' es p
  | .inl h => .inl h
  | .inr ⟨bk, off, h1, h2⟩ => .inr ⟨bk, off, h1, DEl.mono hh es bk off h2⟩

/-- a type's cells, laid open -/
theorem DTy.cells {H : Hp} {t : Ty} {cs : List Value} (h : DTy H t cs) : ∃ p cap, cs = tyCells t.k t.n t.c t.b (.slice p t.es.length cap) t.nm ∧ i64ok t.k ∧ i64ok t.n ∧ i64ok t.c ∧ (t.es.length * 72 ≤ 140737488351232 ∧ t.es.length ≤ cap) ∧ DSl H t.es p := by
  cases t
  simp only [DTy] at h
  exact h

/-- a new block, written once -/
theorem NewB.store {w w1 w2 : World} {b : Nat} {o o' : Obj} (h : NewB w w1 b o) (h2 : w2.heap[b]? = some o') (he : Ext (fun k => k = b) w1 w2) (hs : w2.heap.size = w1.heap.size) : NewB w w2 b o' where
  here := h2
  ext := {
    os := he.os.trans h.ext.os
    tape := he.tape.trans h.ext.tape
    output := he.output.trans h.ext.output
    size := Nat.le_trans h.ext.size he.size
    block := fun k hk hm => by
      have hf := h.fresh
      have h1 := h.ext.size
      rw [he.block k (by omega) (by omega)]
      exact h.ext.block k hk hm }
  fresh := h.fresh
  size := hs.trans h.size

theorem ia6 (b off i : Nat) : (Value.pointer (some ⟨b, off + ((i : Nat) : Int).toNat * 6, none⟩)) = .pointer (some ⟨b, off + i * 6, none⟩) := by simp

/-- declarations in the input's memory: a number of type parameters, a type -/
def DDl (H : Hp) (ds : List (Int × Ty)) (p : Option Addr) : Prop :=
  ∀ i d, ds[i]? = some d → ∃ bk off tcs, p = some ⟨bk, off, none⟩ ∧ HCells H bk (off + i * 7) (.int .i64 d.1 :: tcs) ∧ DTy H d.2 tcs ∧ i64ok d.1
theorem DDl.mono {H H' : Hp} (hh : Hp.le H H') {ds : List (Int × Ty)} {p : Option Addr} (h : DDl H ds p) : DDl H' ds p := fun i d hd =>
  let ⟨bk, off, tcs, h1, h2, h3, h4⟩ := h i d hd
  ⟨bk, off, tcs, h1, h2.mono hh, DTy.mono hh _ _ h3, h4⟩
theorem DDl.take {H : Hp} {ds : List (Int × Ty)} {p : Option Addr} (n : Nat) (h : DDl H ds p) : DDl H (ds.take n) p := fun i d hd =>
  h i d (by
    rw [List.getElem?_take] at hd
    split at hd
    · exact hd
    · cases hd)
theorem ia7 (b off i : Nat) : (Value.pointer (some ⟨b, off + ((i : Nat) : Int).toNat * 7, none⟩)) = .pointer (some ⟨b, off + i * 7, none⟩) := by simp
end Go.Proofs.YtmmcjnfgcaefpaaGreatDoor

/-
  The walk's own rules, seventh part: cuts; slices of slices; append onto a slice of one's own.
-/
namespace Go.Proofs.YtmmcjnfgcaefpaaGreatDoor

section
variable {P : Program} {f : Fm} {w : World} {dst : Option Nat} {ty : TypeId} {pos : String} {aft : Array Edge} {g : Option (Nat × Bool)}

theorem R_lenS {t : Nat} {x : Operand} {s : ByteArray} [hs : StrT P t] (hx : ev f x = .string s) :
    (execOp (ev f) ⟨dst, .call ⟨.builtin .len, #[x], #[t]⟩, ty, pos, aft, g⟩).run P w = .ok (.value (.int .i64 s.size)) w := by
  simp only [execOp, resolve, Array.map, invoke]
  simp [hx, builtin, Builtin.len_, run_underlying hs.h, goInt]

theorem R_minI {t u : Nat} {x y : Operand} {k : IntKind} {a b : Int} (hx : ev f x = .int k a) (hy : ev f y = .int k b) :
    (execOp (ev f) ⟨dst, .call ⟨.builtin .min, #[x, y], #[t, u]⟩, ty, pos, aft, g⟩).run P w = .ok (.value (.int k (if b < a then b else a))) w := by
  simp only [execOp, resolve, Array.map, invoke]
  simp [hx, hy, builtin, Builtin.min_, Builtin.min2]

theorem add_zero'' (a : Addr) : a.add 0 = a := by simp [Addr.add]

theorem R_sliceH {t e sz len cap : Nat} {x y : Operand} {p : Option Addr} {kd : IntKind} {i : Int} [hs : SliceT P t e sz] (hx : ev f x = .slice p len cap) (hy : ev f y = .int kd i) (h0 : 0 ≤ i) (h1 : i ≤ cap) :
    (execOp (ev f) ⟨dst, .slice t x none (some y) none, ty, pos, aft, g⟩).run P w = .ok (.value (.slice p i.toNat cap)) w := by
  have e2 : (p.map fun a => a.add 0) = p := by cases p <;> simp [add_zero'']
  simp [execOp, hx, hy, Instr.sliceAt, Instr.slice, run_underlying hs.h, Instr.sliceBounds, run_sliceBound w kd i cap _ h0 h1, run_sizeOf_info hs.hi, e2]

theorem R_sliceL {t e sz len cap : Nat} {x y : Operand} {p : Option Addr} {kd : IntKind} {i : Int} [hs : SliceT P t e sz] (hx : ev f x = .slice p len cap) (hy : ev f y = .int kd i) (h0 : 0 ≤ i) (h1 : i ≤ len) :
    (execOp (ev f) ⟨dst, .slice t x (some y) none none, ty, pos, aft, g⟩).run P w = .ok (.value (.slice (if cap = i.toNat then p else p.map fun a => a.add (i.toNat * sz)) (len - i.toNat) (cap - i.toNat))) w := by
  simp [execOp, hx, hy, Instr.sliceAt, Instr.slice, run_underlying hs.h, Instr.sliceBounds, run_sliceBound w kd i len _ h0 h1, run_sizeOf_info hs.hi, hs.hs]
end

/-! ### a slice of one's own, one cell an element -/

def OwnS (w : World) (e : TypeId) (v : Value) (xs : List Value) : Prop :=
  (v = .slice none 0 0 ∧ xs = []) ∨ ∃ g cap r, v = .slice (some ⟨g, 0, none⟩) xs.length cap ∧ w.heap[g]? = some (Ob (xs ++ r) e) ∧ (xs ++ r).length = cap

theorem OwnS.keep {w w' : World} {e : TypeId} {v : Value} {xs : List Value} (h : OwnS w e v xs) (he : ∀ g o, v.ownBlock = some g → w.heap[g]? = some o → w'.heap[g]? = some o) : OwnS w' e v xs := by
  rcases h with ⟨rfl, rfl⟩ | ⟨g, cap, r, rfl, h2, h3⟩
  · exact .inl ⟨rfl, rfl⟩
  · exact .inr ⟨g, cap, r, rfl, he g _ rfl h2, h3⟩
theorem OwnS.ext {M : Nat → Prop} {w w' : World} {e : TypeId} {v : Value} {xs : List Value} (h : OwnS w e v xs) (he : Ext M w w') (hm : ∀ g, v.ownBlock = some g → ¬ M g) : OwnS w' e v xs :=
  h.keep fun g _ hg hb => he.heap (hm g hg) hb
theorem OwnS.lt {w : World} {e : TypeId} {v : Value} {xs : List Value} (h : OwnS w e v xs) : ∀ g, v.ownBlock = some g → g < w.heap.size := by
  intro g hg
  rcases h with ⟨rfl, rfl⟩ | ⟨g', cap, r, rfl, h2, h3⟩
  · cases hg
  · simp only [Value.ownBlock, Option.some.injEq] at hg
    subst hg
    exact lt_of_heap h2

class AppT (P : Program) (t : Nat) (e by_ : outParam Nat) : Prop where
  h : P.underlying t = some (.slice e)
  hi : (P.info? e).map (fun i => (i.zero.map (·.cells.size), i.size, i.bytes)) = some (some 1, 1, by_)

structure Pushed (w w' : World) (e : TypeId) (v v' : Value) (xs : List Value) : Prop where
  own : OwnS w' e v' xs
  ext : Ext (fun k => some k = v.ownBlock) w w'
  blk : (v'.ownBlock = v.ownBlock) ∨ v'.ownBlock = some w.heap.size
  some_ : ∃ g len cap, v' = .slice (some ⟨g, 0, none⟩) len cap

section
variable {P : Program} {f : Fm} {w : World} {dst : Option Nat} {ty : TypeId} {pos : String} {aft : Array Edge} {g : Option (Nat × Bool)}

theorem run_push {t e by_ : Nat} [ha : AppT P t e by_] {v : Value} {xs : List Value} (hown : OwnS w e v xs) {b c : Nat} {u : Value} {T : TypeId} (hb : w.heap[b]? = some (Ob [u] T)) (h1 : u.oneCell' = true)
    (hbd : (xs.length + 1) * by_ ≤ 140737488355328) (hl : xs.length + 1 ≤ maxLen) :
    ∃ v' w', (Builtin.append_ #[t, t] ty #[v, .slice (some ⟨b, 0, none⟩) 1 c]).run P w = .ok v' w' ∧ Pushed w w' e v v' (xs ++ [u]) := by
  obtain ⟨i, hi, hh⟩ := Option.map_eq_some_iff.1 ha.hi
  simp only [Prod.mk.injEq] at hh
  obtain ⟨hz, hsz, hby⟩ := hh
  obtain ⟨z, hz, hzs⟩ := Option.map_eq_some_iff.1 hz
  have hl' : xs.length + 1 ≤ 9223372036854775807 := by simp only [maxLen] at hl; omega
  have hnews : ∀ j x, ([u] : List Value)[j]? = some x → w.cell? ((⟨b, 0, none⟩ : Addr).add j) = some x := by
    intro j x hj
    rw [Addr.add_lit, Nat.zero_add]
    simp [World.cell?, hb, Ob]
    exact hj
  have hnl : ([u] : List Value).length = 1 * i.size := by rw [hsz]; rfl
  rcases hown with ⟨rfl, rfl⟩ | ⟨g', cap, r, rfl, hg, hcap⟩
  · have hr := run_append_nil (P := P) w t ty e i z ha.h hi hz ⟨b, 0, none⟩ 1 c [u] hnl hnews (by omega) (by omega) (by rw [hby]; simp at hbd; omega)
    refine ⟨_, _, hr, ⟨?_, ?_, .inr rfl, _, _, _, rfl⟩⟩
    · refine .inr ⟨_, _, (Builtin.zeroCells z.cells (grownCap w 1 0 e - 1)).toList, rfl, ?_, ?_⟩
      · show (w.drew.alloc _).heap[w.drew.heap.size]? = _
        rw [heap_alloc_new w.drew _]
        simp [Ob]
      · have := grownCap_ge w 1 0 e
        simp [size_zeroCells, hzs]
        omega
    · exact ⟨rfl, rfl, rfl, by simp, fun k hk _ => heap_alloc_old w.drew _ k hk⟩
  · by_cases hroom : xs.length + 1 ≤ cap
    · have hfit : xs.length * i.size + ([u] : List Value).length ≤ (xs ++ r).toArray.size := by rw [hsz]; simp at hcap ⊢; omega
      have hr := run_append_room (P := P) w t ty e i ha.h hi g' xs.length cap (xs ++ r).toArray hg ⟨b, 0, none⟩ 1 c [u] hnl hnews (by simpa using h1) hroom hfit
      refine ⟨_, _, hr, ⟨?_, ?_, .inl rfl, _, _, _, rfl⟩⟩
      · refine .inr ⟨g', cap, r.drop 1, by simp, ?_, ?_⟩
        · rw [setRow_heap w g' (xs ++ r).toArray _ e _ hg]
          simp [hsz, Ob, List.drop_append]
        · simp at hcap ⊢
          omega
      · exact ⟨rfl, rfl, rfl, by simp, fun k _ hk => setRow_other w g' k _ (fun e => hk (by simp [Value.ownBlock, e]))⟩
    · have holds : ∀ j x, xs[j]? = some x → w.cell? ((⟨g', 0, none⟩ : Addr).add j) = some x := by
        intro j x hj
        rw [Addr.add_lit, Nat.zero_add]
        have hj2 : (xs ++ r)[j]? = some x := by rw [List.getElem?_append_left (List.getElem?_eq_some_iff.1 hj).1]; exact hj
        simp only [World.cell?, hg, Ob]
        simpa using hj2
      have hr := run_append_grow (P := P) w t ty e i z ha.h hi hz ⟨g', 0, none⟩ xs.length cap xs (by rw [hsz]; simp) holds ⟨b, 0, none⟩ 1 c [u] hnl hnews (by omega) (by omega) (growslice_fits (by omega) (by rw [hby]; exact hbd))
      refine ⟨_, _, hr, ⟨?_, ?_, .inr rfl, _, _, _, rfl⟩⟩
      · refine .inr ⟨w.heap.size, grownCap w (xs.length + 1) cap e, (Builtin.zeroCells z.cells (grownCap w (xs.length + 1) cap e - (xs.length + 1))).toList, by simp, ?_, ?_⟩
        · show (w.drew.alloc _).heap[w.drew.heap.size]? = _
          rw [heap_alloc_new w.drew _]
          simp [Ob]
        · have := grownCap_ge w (xs.length + 1) cap e
          simp [size_zeroCells, hzs]
          omega
      · exact ⟨rfl, rfl, rfl, by simp, fun k hk _ => heap_alloc_old w.drew _ k hk⟩

theorem R_push {t e by_ : Nat} {x y : Operand} [ha : AppT P t e by_] {v : Value} {xs : List Value} (hv : ev f x = v) (hown : OwnS w e v xs) {b c : Nat} {u : Value} {T : TypeId} (hy : ev f y = .slice (some ⟨b, 0, none⟩) 1 c) (hb : w.heap[b]? = some (Ob [u] T)) (h1 : u.oneCell' = true)
    (hbd : (xs.length + 1) * by_ ≤ 140737488355328) (hl : xs.length + 1 ≤ maxLen) :
    ∃ v' w', (execOp (ev f) ⟨dst, .call ⟨.builtin .append, #[x, y], #[t, t]⟩, ty, pos, aft, g⟩).run P w = .ok (.value v') w' ∧ Pushed w w' e v v' (xs ++ [u]) := by
  obtain ⟨v', w', h2, h3⟩ := run_push (P := P) (ty := ty) (t := t) (c := c) hown hb h1 hbd hl
  refine ⟨v', w', ?_, h3⟩
  simp only [execOp, resolve, Array.map, invoke]
  simp [hv, hy, builtin, h2]

theorem L_push {n : Nat} {ops rest : List Oper} {K : LK} {ds : List Deferred} {d : Nat} {t e by_ : Nat} {x y : Operand} [ha : AppT P t e by_] {v : Value} {xs : List Value} (hv : ev f x = v) (hown : OwnS w e v xs) {b c : Nat} {u : Value} {T : TypeId} (hy : ev f y = .slice (some ⟨b, 0, none⟩) 1 c) (hb : w.heap[b]? = some (Ob [u] T)) (h1 : u.oneCell' = true)
    (hbd : (xs.length + 1) * by_ ≤ 140737488355328) (hl : xs.length + 1 ≤ maxLen) (hw : wantd ops f ⟨some d, .call ⟨.builtin .append, #[x, y], #[t, t]⟩, ty, pos, aft, g⟩ = true) (hn : Nat.blt d n = true)
    (h : ∀ v' w', Pushed w w' e v v' (xs ++ [u]) → L P n ops K rest (upd f d v') ds w') : L P n ops K (⟨some d, .call ⟨.builtin .append, #[x, y], #[t, t]⟩, ty, pos, aft, g⟩ :: rest) f ds w := by
  obtain ⟨v', w', h2, h3⟩ := R_push (P := P) (dst := some d) (ty := ty) (pos := pos) (aft := aft) (g := g) (t := t) hv hown hy hb h1 hbd hl
  exact L_val h2 hw rfl hn (h v' w' h3)
end
end Go.Proofs.YtmmcjnfgcaefpaaGreatDoor

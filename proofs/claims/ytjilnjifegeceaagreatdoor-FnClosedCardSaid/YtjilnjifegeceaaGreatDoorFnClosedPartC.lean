/-
  A part of the proof that laws.FnClosed returns true at every input: the walk's own rules and the contracts of functions, in build order.
  Its conditions are those of the statement: see the last text.
-/
import Derived.Conc.MuLone
import Derived.Deep.OwnRows
import Derived.Test.YtjilnjifegeceaaGreatDoorFnClosedPartB

/-
  Variables, names, basic types: what the package lays.
-/
namespace Go.Proofs.YtjilnjifegeceaaGreatDoor
set_option maxRecDepth 100000
set_option maxHeartbeats 4000000
attribute [local irreducible] Calls execOp

theorem r34 {G G' : Prop} (k : G') (h : Hid G' → G := by intro k_; (repeat (first | (refine cL ?_; first | (refine cL_move ?_; refine L_val R_move rfl rfl rfl ?_) | (refine cL_fieldAddr ?_; refine L_val (R_fa rfl) rfl rfl rfl ?_) | (refine cL_nilCheck ?_; refine L_val (R_nil rfl) rfl rfl rfl ?_) | (refine cL_assign ?_; refine L_val R_assign rfl rfl rfl ?_) | refine L_nil ?_) | refine G_seq ?_ | refine G_region ?_ | refine G_skip ?_ | refine G_block ?_ | refine G_end ?_ | refine G_true rfl ?_ | refine G_false rfl ?_)); exact k_.out) : G := h ⟨k⟩
theorem r35 {G G' : Prop} (k : G') (h : Hid G' → G := by intro k_; (repeat (first | (refine cL ?_; first | (refine cL_move ?_; refine L_val R_move rfl rfl rfl ?_) | (refine cL_load ?_; first | refine L_val (R_loadB rfl (by assumption) (by rfl)) rfl rfl rfl ?_ | refine L_val (R_loadH (by assumption) rfl (by assumption) (by rfl)) rfl rfl rfl ?_) | (refine cL_fieldAddr ?_; refine L_val (R_fa rfl) rfl rfl rfl ?_) | (refine cL_nilCheck ?_; refine L_val (R_nil rfl) rfl rfl rfl ?_) | (refine cL_assign ?_; refine L_val R_assign rfl rfl rfl ?_) | refine L_nil ?_) | refine G_seq ?_ | refine G_region ?_ | refine G_skip ?_ | refine G_block ?_ | refine G_end ?_ | refine G_true rfl ?_ | refine G_false rfl ?_)); exact k_.out) : G := h ⟨k⟩
theorem r36 {G G' : Prop} (k : G') (h : Hid G' → G := by intro k_; (repeat (first | (refine cL ?_; first | (refine cL_move ?_; refine L_val R_move rfl rfl rfl ?_) | (refine cL_assign ?_; refine L_val R_assign rfl rfl rfl ?_) | (refine cL_call ?_; refine L_val (R_len rfl) rfl rfl rfl ?_) | (refine cL_gtr ?_; refine L_val (R_gtI rfl rfl) rfl rfl rfl ?_) | refine L_nil ?_) | refine G_seq ?_ | refine G_region ?_ | refine G_skip ?_ | refine G_block ?_ | refine G_end ?_ | refine G_true rfl ?_ | refine G_false rfl ?_)); exact k_.out) : G := h ⟨k⟩
theorem r37 {G G' : Prop} (k : G') (h : Hid G' → G := by intro k_; (first | (refine cL ?_; first | (refine cL_move ?_; refine L_val R_move rfl rfl rfl ?_) | (refine cL_assign ?_; refine L_val R_assign rfl rfl rfl ?_) | (refine cL_call ?_; refine L_val (R_len rfl) rfl rfl rfl ?_) | (refine cL_gtr ?_; refine L_val (R_gtI rfl rfl) rfl rfl rfl ?_) | refine L_nil ?_) | refine G_seq ?_ | refine G_region ?_ | refine G_skip ?_ | refine G_block ?_ | refine G_end ?_ | refine G_true rfl ?_ | refine G_false rfl ?_); exact k_.out) : G := h ⟨k⟩
theorem r38 {G G' : Prop} (k : G') (h : Hid G' → G := by intro k_; (repeat (first | (refine cL ?_; first | (refine cL_move ?_; refine L_val R_move rfl rfl rfl ?_) | (refine cL_load ?_; first | refine L_val (R_loadB rfl (by assumption) (by rfl)) rfl rfl rfl ?_ | refine L_val (R_loadH (by assumption) rfl (by assumption) (by rfl)) rfl rfl rfl ?_) | (refine cL_assign ?_; refine L_val R_assign rfl rfl rfl ?_) | refine L_nil ?_) | refine G_seq ?_ | refine G_region ?_ | refine G_skip ?_ | refine G_block ?_ | refine G_end ?_ | refine G_true rfl ?_ | refine G_false rfl ?_)); exact k_.out) : G := h ⟨k⟩
theorem r39 {G G' : Prop} (k : G') (h : Hid G' → G := by intro k_; (first | (refine cL ?_; first | (refine cL_move ?_; refine L_val R_move rfl rfl rfl ?_) | (refine cL_load ?_; first | refine L_val (R_loadB rfl (by assumption) (by rfl)) rfl rfl rfl ?_ | refine L_val (R_loadH (by assumption) rfl (by assumption) (by rfl)) rfl rfl rfl ?_) | (refine cL_assign ?_; refine L_val R_assign rfl rfl rfl ?_) | refine L_nil ?_) | refine G_seq ?_ | refine G_region ?_ | refine G_skip ?_ | refine G_block ?_ | refine G_end ?_ | refine G_true rfl ?_ | refine G_false rfl ?_); exact k_.out) : G := h ⟨k⟩
theorem r40 {G G' : Prop} (k : G') (h : Hid G' → G := by intro k_; (first | (refine cL ?_; first | (refine cL_move ?_; refine L_val R_move rfl rfl rfl ?_) | (refine cL_assign ?_; refine L_val R_assign rfl rfl rfl ?_) | (refine cL_makeInterface ?_; refine L_val R_mkI rfl rfl rfl ?_) | (refine cL_add ?_; refine L_val (R_addI rfl rfl) rfl rfl rfl ?_) | refine L_nil ?_) | refine G_seq ?_ | refine G_region ?_ | refine G_skip ?_ | refine G_block ?_ | refine G_end ?_ | refine G_true rfl ?_ | refine G_false rfl ?_); exact k_.out) : G := h ⟨k⟩
theorem r41 {G G' : Prop} (k : G') (h : Hid G' → G := by intro k_; (repeat (first | (refine cL ?_; first | (refine cL_move ?_; refine L_val R_move rfl rfl rfl ?_) | (refine cL_assign ?_; refine L_val R_assign rfl rfl rfl ?_) | (refine cL_makeInterface ?_; refine L_val R_mkI rfl rfl rfl ?_) | (refine cL_add ?_; refine L_val (R_addI rfl rfl) rfl rfl rfl ?_) | refine L_nil ?_) | refine G_seq ?_ | refine G_region ?_ | refine G_skip ?_ | refine G_block ?_ | refine G_end ?_ | refine G_true rfl ?_ | refine G_false rfl ?_)); exact k_.out) : G := h ⟨k⟩

theorem newField_any (n : Int) (pk : Option Addr) (s : ByteArray) (T : Nat) (x : Value) (w : World) : Calls Tryz.prog 46 #[.int .i64 n, .pointer pk, .string s, .iface T x, .bool false] w (Ret (NewP [.int .i64 n, .pointer pk, .string s, .iface T x, .int .u8 6, .bool false] 186 w)) := by
  (refine calls_enter Tryz.func46 Tryz.ntmps46 rfl rfl ?_)
  (refine r34 ?_)
  refine L_callR (newVar_any 6 n pk s T x w) rfl rfl fun v w1 ⟨b, hv, hn⟩ => ?_
  subst hv
  (refine r34 ?_)
  refine L_store rfl hn.here rfl rfl rfl fun w2 h2 e2 s2 => ?_
  (refine r34 ?_)
  (refine G_retF rfl ?_)
  exact ⟨_, rfl, b, rfl, hn.store h2 e2 s2⟩

theorem newParam_any (n : Int) (pk : Option Addr) (s : ByteArray) (T : Nat) (x : Value) (w : World) : Calls Tryz.prog 98 #[.int .i64 n, .pointer pk, .string s, .iface T x] w (Ret (NewP [.int .i64 n, .pointer pk, .string s, .iface T x, .int .u8 4, .bool false] 186 w)) := by
  (refine calls_enter Tryz.func98 Tryz.ntmps98 rfl rfl ?_)
  (refine r33 ?_)
  refine L_callR (newVar_any 4 n pk s T x w) rfl rfl fun v w1 ⟨b, hv, hn⟩ => ?_
  subst hv
  (refine r33 ?_)
  (refine G_retF rfl ?_)
  exact ⟨_, rfl, b, rfl, hn⟩

theorem newTypeName_any (n : Int) (pk : Option Addr) (s : ByteArray) (w : World) : Calls Tryz.prog 52 #[.int .i64 n, .pointer pk, .string s, .nilIface] w (Ret (NewP [.int .i64 n, .pointer pk, .string s, .nilIface] 234 w)) := by
  (refine calls_enter Tryz.func52 Tryz.ntmps52 rfl rfl ?_)
  (repeat (first | (refine cL ?_; first | (refine cL_build ?_; refine L_val (R_build (cs := [.int .i64 n, .pointer pk, .string s, .nilIface]) rfl) rfl rfl rfl ?_)) | refine r32 ?_))
  refine L_box rfl rfl rfl fun b w1 hn => ?_
  (refine r33 ?_)
  (refine G_retF rfl ?_)
  exact ⟨_, rfl, b, rfl, hn⟩

theorem name_any {b : Nat} {vd v2 v3 : Value} {pk : Option Addr} (s : ByteArray) (w : World) (hb : w.heap[b]? = some (Ob [vd, .pointer pk, v2, v3] 71)) :
    Calls Tryz.prog 30 #[ptr b, .string s] w (Ret (NewP [.int .i64 0, .pointer pk, .string s, .nilIface] 234 w)) := by
  (refine calls_enter Tryz.func30 Tryz.ntmps30 rfl rfl ?_)
  (refine r35 ?_)
  refine L_callR (newTypeName_any 0 pk s w) rfl rfl fun v w1 ⟨b, hv, hn⟩ => ?_
  subst hv
  (refine r35 ?_)
  (refine G_retF rfl ?_)
  exact ⟨_, rfl, b, rfl, hn⟩

theorem newTuple_nil (w : World) : Calls Tryz.prog 99 #[.slice none 0 0] w (Ret (Is (.pointer none) w)) := by
  (refine calls_enter Tryz.func99 Tryz.ntmps99 rfl rfl ?_)
  (refine r36 ?_)
  (refine G_retF rfl ?_)
  exact ⟨_, rfl, rfl, rfl⟩
theorem newTuple_some (p : Option Addr) (len cap : Nat) (w : World) (h : 0 < len) : Calls Tryz.prog 99 #[.slice p len cap] w (Ret (NewP [.slice p len cap] 194 w)) := by
  have e : decide ((len : Int) > 0) = true := decide_eq_true (by omega)
  (refine calls_enter Tryz.func99 Tryz.ntmps99 rfl rfl ?_)
  (repeat (first | (refine cL ?_; first | (refine cL_gtr ?_; refine L_valB (R_gtI rfl rfl) e rfl rfl rfl ?_) | (refine cL_build ?_; refine L_val (R_build (cs := [.slice p len cap]) rfl) rfl rfl rfl ?_)) | refine r37 ?_))
  refine L_box rfl rfl rfl fun b w1 hn => ?_
  (refine r36 ?_)
  (refine G_retF rfl ?_)
  exact ⟨_, rfl, b, rfl, hn⟩
theorem newTypeList_some (p : Option Addr) (len cap : Nat) (w : World) (h : 0 < len) : Calls Tryz.prog 100 #[.slice p len cap] w (Ret (NewP [.slice p len cap] 275 w)) := by
  have e : ((len : Int) == 0) = false := by simp; omega
  (refine calls_enter Tryz.func100 Tryz.ntmps100 rfl rfl ?_)
  (repeat (first | (refine cL ?_; first | (refine cL_eql ?_; refine L_valB (R_eqI rfl rfl) e rfl rfl rfl ?_) | (refine cL_build ?_; refine L_val (R_build (cs := [.slice p len cap]) rfl) rfl rfl rfl ?_)) | refine r17 ?_))
  refine L_box rfl rfl rfl fun b w1 hn => ?_
  (refine r16 ?_)
  (refine G_retF rfl ?_)
  exact ⟨_, rfl, b, rfl, hn⟩

/-- a basic type, laid -/
def BasicP (H : Hp) (w : World) (n : Int) : Value → World → Prop := fun r w' => ∃ b H' i s, r = ptr b ∧ Grow H w H' w' ∧ H' b = some (Ob [.int .i64 (n + 1), i, s] 173)

theorem typ_any {H : Hp} (n : Nat) (w : World) (hA : Agree H w) (h17 : n < 17) : Calls Tryz.prog 91 #[.int .i64 ((n : Int) + 1)] w (Ret (BasicP H w n)) := by
  (refine calls_enter Tryz.func91 Tryz.ntmps91 rfl rfl ?_)
  (refine r38 ?_)
  refine L_val (R_build (cs := [.int .i64 0, .int .i64 0, .string ⟨#[105, 110, 118, 97, 108, 105, 100, 32, 116, 121, 112, 101]⟩]) rfl) rfl rfl rfl ?_
  refine L_box rfl rfl rfl fun b0 w0 hn0 => ?_
  obtain ⟨H0, g0, hb0⟩ := Grow.ofNew hA hn0
  refine L_val (R_build (cs := [.int .i64 1, .int .i64 1, .string ⟨#[98, 111, 111, 108]⟩]) rfl) rfl rfl rfl ?_
  refine L_box rfl rfl rfl fun b1 w1 hn1 => ?_
  obtain ⟨H1, g1, hb1⟩ := Grow.ofNew g0.ag hn1
  refine L_val (R_build (cs := [.int .i64 2, .int .i64 2, .string ⟨#[105, 110, 116]⟩]) rfl) rfl rfl rfl ?_
  refine L_box rfl rfl rfl fun b2 w2 hn2 => ?_
  obtain ⟨H2, g2, hb2⟩ := Grow.ofNew g1.ag hn2
  refine L_val (R_build (cs := [.int .i64 3, .int .i64 2, .string ⟨#[105, 110, 116, 56]⟩]) rfl) rfl rfl rfl ?_
  refine L_box rfl rfl rfl fun b3 w3 hn3 => ?_
  obtain ⟨H3, g3, hb3⟩ := Grow.ofNew g2.ag hn3
  refine L_val (R_build (cs := [.int .i64 4, .int .i64 2, .string ⟨#[105, 110, 116, 49, 54]⟩]) rfl) rfl rfl rfl ?_
  refine L_box rfl rfl rfl fun b4 w4 hn4 => ?_
  obtain ⟨H4, g4, hb4⟩ := Grow.ofNew g3.ag hn4
  refine L_val (R_build (cs := [.int .i64 5, .int .i64 2, .string ⟨#[105, 110, 116, 51, 50]⟩]) rfl) rfl rfl rfl ?_
  refine L_box rfl rfl rfl fun b5 w5 hn5 => ?_
  obtain ⟨H5, g5, hb5⟩ := Grow.ofNew g4.ag hn5
  refine L_val (R_build (cs := [.int .i64 6, .int .i64 2, .string ⟨#[105, 110, 116, 54, 52]⟩]) rfl) rfl rfl rfl ?_
  refine L_box rfl rfl rfl fun b6 w6 hn6 => ?_
  obtain ⟨H6, g6, hb6⟩ := Grow.ofNew g5.ag hn6
  refine L_val (R_build (cs := [.int .i64 7, .int .i64 6, .string ⟨#[117, 105, 110, 116]⟩]) rfl) rfl rfl rfl ?_
  refine L_box rfl rfl rfl fun b7 w7 hn7 => ?_
  obtain ⟨H7, g7, hb7⟩ := Grow.ofNew g6.ag hn7
  refine L_val (R_build (cs := [.int .i64 8, .int .i64 6, .string ⟨#[117, 105, 110, 116, 56]⟩]) rfl) rfl rfl rfl ?_
  refine L_box rfl rfl rfl fun b8 w8 hn8 => ?_
  obtain ⟨H8, g8, hb8⟩ := Grow.ofNew g7.ag hn8
  refine L_val (R_build (cs := [.int .i64 9, .int .i64 6, .string ⟨#[117, 105, 110, 116, 49, 54]⟩]) rfl) rfl rfl rfl ?_
  refine L_box rfl rfl rfl fun b9 w9 hn9 => ?_
  obtain ⟨H9, g9, hb9⟩ := Grow.ofNew g8.ag hn9
  refine L_val (R_build (cs := [.int .i64 10, .int .i64 6, .string ⟨#[117, 105, 110, 116, 51, 50]⟩]) rfl) rfl rfl rfl ?_
  refine L_box rfl rfl rfl fun b10 w10 hn10 => ?_
  obtain ⟨H10, g10, hb10⟩ := Grow.ofNew g9.ag hn10
  refine L_val (R_build (cs := [.int .i64 11, .int .i64 6, .string ⟨#[117, 105, 110, 116, 54, 52]⟩]) rfl) rfl rfl rfl ?_
  refine L_box rfl rfl rfl fun b11 w11 hn11 => ?_
  obtain ⟨H11, g11, hb11⟩ := Grow.ofNew g10.ag hn11
  refine L_val (R_build (cs := [.int .i64 12, .int .i64 6, .string ⟨#[117, 105, 110, 116, 112, 116, 114]⟩]) rfl) rfl rfl rfl ?_
  refine L_box rfl rfl rfl fun b12 w12 hn12 => ?_
  obtain ⟨H12, g12, hb12⟩ := Grow.ofNew g11.ag hn12
  refine L_val (R_build (cs := [.int .i64 13, .int .i64 8, .string ⟨#[102, 108, 111, 97, 116, 51, 50]⟩]) rfl) rfl rfl rfl ?_
  refine L_box rfl rfl rfl fun b13 w13 hn13 => ?_
  obtain ⟨H13, g13, hb13⟩ := Grow.ofNew g12.ag hn13
  refine L_val (R_build (cs := [.int .i64 14, .int .i64 8, .string ⟨#[102, 108, 111, 97, 116, 54, 52]⟩]) rfl) rfl rfl rfl ?_
  refine L_box rfl rfl rfl fun b14 w14 hn14 => ?_
  obtain ⟨H14, g14, hb14⟩ := Grow.ofNew g13.ag hn14
  refine L_val (R_build (cs := [.int .i64 15, .int .i64 16, .string ⟨#[99, 111, 109, 112, 108, 101, 120, 54, 52]⟩]) rfl) rfl rfl rfl ?_
  refine L_box rfl rfl rfl fun b15 w15 hn15 => ?_
  obtain ⟨H15, g15, hb15⟩ := Grow.ofNew g14.ag hn15
  refine L_val (R_build (cs := [.int .i64 16, .int .i64 16, .string ⟨#[99, 111, 109, 112, 108, 101, 120, 49, 50, 56]⟩]) rfl) rfl rfl rfl ?_
  refine L_box rfl rfl rfl fun b16 w16 hn16 => ?_
  obtain ⟨H16, g16, hb16⟩ := Grow.ofNew g15.ag hn16
  refine L_val (R_build (cs := [.int .i64 17, .int .i64 32, .string ⟨#[115, 116, 114, 105, 110, 103]⟩]) rfl) rfl rfl rfl ?_
  refine L_box rfl rfl rfl fun b17 w17 hn17 => ?_
  obtain ⟨H17, g17, hb17⟩ := Grow.ofNew g16.ag hn17
  refine L_val (R_build (cs := [.int .i64 18, .int .i64 0, .string ⟨#[80, 111, 105, 110, 116, 101, 114]⟩]) rfl) rfl rfl rfl ?_
  refine L_box rfl rfl rfl fun b18 w18 hn18 => ?_
  obtain ⟨H18, g18, hb18⟩ := Grow.ofNew g17.ag hn18
  refine L_val (R_build (cs := [.int .i64 19, .int .i64 65, .string ⟨#[117, 110, 116, 121, 112, 101, 100, 32, 98, 111, 111, 108]⟩]) rfl) rfl rfl rfl ?_
  refine L_box rfl rfl rfl fun b19 w19 hn19 => ?_
  obtain ⟨H19, g19, hb19⟩ := Grow.ofNew g18.ag hn19
  refine L_val (R_build (cs := [.int .i64 20, .int .i64 66, .string ⟨#[117, 110, 116, 121, 112, 101, 100, 32, 105, 110, 116]⟩]) rfl) rfl rfl rfl ?_
  refine L_box rfl rfl rfl fun b20 w20 hn20 => ?_
  obtain ⟨H20, g20, hb20⟩ := Grow.ofNew g19.ag hn20
  refine L_val (R_build (cs := [.int .i64 21, .int .i64 66, .string ⟨#[117, 110, 116, 121, 112, 101, 100, 32, 114, 117, 110, 101]⟩]) rfl) rfl rfl rfl ?_
  refine L_box rfl rfl rfl fun b21 w21 hn21 => ?_
  obtain ⟨H21, g21, hb21⟩ := Grow.ofNew g20.ag hn21
  refine L_val (R_build (cs := [.int .i64 22, .int .i64 72, .string ⟨#[117, 110, 116, 121, 112, 101, 100, 32, 102, 108, 111, 97, 116]⟩]) rfl) rfl rfl rfl ?_
  refine L_box rfl rfl rfl fun b22 w22 hn22 => ?_
  obtain ⟨H22, g22, hb22⟩ := Grow.ofNew g21.ag hn22
  refine L_val (R_build (cs := [.int .i64 23, .int .i64 80, .string ⟨#[117, 110, 116, 121, 112, 101, 100, 32, 99, 111, 109, 112, 108, 101, 120]⟩]) rfl) rfl rfl rfl ?_
  refine L_box rfl rfl rfl fun b23 w23 hn23 => ?_
  obtain ⟨H23, g23, hb23⟩ := Grow.ofNew g22.ag hn23
  refine L_val (R_build (cs := [.int .i64 24, .int .i64 96, .string ⟨#[117, 110, 116, 121, 112, 101, 100, 32, 115, 116, 114, 105, 110, 103]⟩]) rfl) rfl rfl rfl ?_
  refine L_box rfl rfl rfl fun b24 w24 hn24 => ?_
  obtain ⟨H24, g24, hb24⟩ := Grow.ofNew g23.ag hn24
  refine L_val (R_build (cs := [.int .i64 25, .int .i64 64, .string ⟨#[117, 110, 116, 121, 112, 101, 100, 32, 110, 105, 108]⟩]) rfl) rfl rfl rfl ?_
  refine L_box rfl rfl rfl fun b25 w25 hn25 => ?_
  obtain ⟨H25, g25, hb25⟩ := Grow.ofNew g24.ag hn25
  refine L_buildSlice (vs := [ptr b0, ptr b1, ptr b2, ptr b3, ptr b4, ptr b5, ptr b6, ptr b7, ptr b8, ptr b9, ptr b10, ptr b11, ptr b12, ptr b13, ptr b14, ptr b15, ptr b16, ptr b17, ptr b18, ptr b19, ptr b20, ptr b21, ptr b22, ptr b23, ptr b24, ptr b25]) rfl rfl rfl rfl rfl rfl fun bs ws hns => ?_
  have hx25 : Grow H25 w25 H25 w25 := Grow.refl g25.ag
  have hx24 := g25.trans hx25
  have hx23 := g24.trans hx24
  have hx22 := g23.trans hx23
  have hx21 := g22.trans hx22
  have hx20 := g21.trans hx21
  have hx19 := g20.trans hx20
  have hx18 := g19.trans hx19
  have hx17 := g18.trans hx18
  have hx16 := g17.trans hx17
  have hx15 := g16.trans hx16
  have hx14 := g15.trans hx15
  have hx13 := g14.trans hx14
  have hx12 := g13.trans hx13
  have hx11 := g12.trans hx12
  have hx10 := g11.trans hx11
  have hx9 := g10.trans hx10
  have hx8 := g9.trans hx9
  have hx7 := g8.trans hx8
  have hx6 := g7.trans hx7
  have hx5 := g6.trans hx6
  have hx4 := g5.trans hx5
  have hx3 := g4.trans hx4
  have hx2 := g3.trans hx3
  have hx1 := g2.trans hx2
  have hx0 := g1.trans hx1
  have hx := g0.trans hx0
  obtain ⟨Hs, gs, hbs⟩ := Grow.ofNew g25.ag hns
  obtain ⟨bb, hget, i, s, hbb⟩ : ∃ bb, lget [ptr b0, ptr b1, ptr b2, ptr b3, ptr b4, ptr b5, ptr b6, ptr b7, ptr b8, ptr b9, ptr b10, ptr b11, ptr b12, ptr b13, ptr b14, ptr b15, ptr b16, ptr b17, ptr b18, ptr b19, ptr b20, ptr b21, ptr b22, ptr b23, ptr b24, ptr b25] (n + 1) = some (ptr bb) ∧ ∃ i s, H25 bb = some (Ob [.int .i64 ((n : Int) + 1), i, s] 173) := by
    match n, h17 with
    | 0, _ => exact ⟨_, rfl, _, _, hx1.le _ _ hb1⟩
    | 1, _ => exact ⟨_, rfl, _, _, hx2.le _ _ hb2⟩
    | 2, _ => exact ⟨_, rfl, _, _, hx3.le _ _ hb3⟩
    | 3, _ => exact ⟨_, rfl, _, _, hx4.le _ _ hb4⟩
    | 4, _ => exact ⟨_, rfl, _, _, hx5.le _ _ hb5⟩
    | 5, _ => exact ⟨_, rfl, _, _, hx6.le _ _ hb6⟩
    | 6, _ => exact ⟨_, rfl, _, _, hx7.le _ _ hb7⟩
    | 7, _ => exact ⟨_, rfl, _, _, hx8.le _ _ hb8⟩
    | 8, _ => exact ⟨_, rfl, _, _, hx9.le _ _ hb9⟩
    | 9, _ => exact ⟨_, rfl, _, _, hx10.le _ _ hb10⟩
    | 10, _ => exact ⟨_, rfl, _, _, hx11.le _ _ hb11⟩
    | 11, _ => exact ⟨_, rfl, _, _, hx12.le _ _ hb12⟩
    | 12, _ => exact ⟨_, rfl, _, _, hx13.le _ _ hb13⟩
    | 13, _ => exact ⟨_, rfl, _, _, hx14.le _ _ hb14⟩
    | 14, _ => exact ⟨_, rfl, _, _, hx15.le _ _ hb15⟩
    | 15, _ => exact ⟨_, rfl, _, _, hx16.le _ _ hb16⟩
    | 16, _ => exact ⟨_, rfl, _, _, hx17.le _ _ hb17⟩
    | k + 17, hk => exact absurd hk (by omega)
  have hia : (Value.pointer (some ⟨bs, 0 + ((n : Int) + 1).toNat * 1, none⟩)) = .pointer (some ⟨bs, n + 1, none⟩) := by
    have : ((n : Int) + 1).toNat = n + 1 := by omega
    rw [this]; simp
  have hAs := gs.ag
  (repeat (first | (refine cL ?_; first | (refine cL_load ?_; refine L_val (R_loadH hAs rfl hbs hget) rfl rfl rfl ?_) | (refine cL_indexAddr ?_; refine L_valE (R_ia rfl rfl (by omega) (by omega)) hia rfl rfl rfl ?_)) | refine r39 ?_))
  (refine G_retF rfl ?_)
  exact ⟨_, rfl, bb, Hs, i, s, rfl, hx.trans gs, gs.le _ _ hbb⟩

theorem basic_any {H : Hp} (n : Nat) (w : World) (hA : Agree H w) (h17 : n < 17) : Calls Tryz.prog 38 #[.int .i64 (n : Int)] w (Ret fun r w' => ∃ b, r = .iface 156 (ptr b) ∧ BasicP H w n (ptr b) w') := by
  have e : Value.int .i64 (IntKind.i64.wrap (1 + (n : Int))) = .int .i64 ((n : Int) + 1) := by rw [wrap_i64 (by omega) (by omega), Int.add_comm]
  (refine calls_enter Tryz.func38 Tryz.ntmps38 rfl rfl ?_)
  (repeat (first | (refine cL ?_; first | (refine cL_add ?_; refine L_valE (R_addI rfl rfl) e rfl rfl rfl ?_)) | refine r40 ?_))
  refine L_callR (typ_any n w hA h17) rfl rfl fun v w1 hb => ?_
  have hb2 := hb
  obtain ⟨b, H', i, s, hv, -, -⟩ := hb2
  subst hv
  (refine r41 ?_)
  (refine G_retF rfl ?_)
  exact ⟨_, rfl, b, rfl, hb⟩
end Go.Proofs.YtjilnjifegeceaaGreatDoor

/-
  What lies under a type literal: itself.
-/
namespace Go.Proofs.YtjilnjifegeceaaGreatDoor
set_option maxRecDepth 100000
set_option maxHeartbeats 4000000
attribute [local irreducible] Calls execOp

theorem r42 {G G' : Prop} (k : G') (h : Hid G' → G := by intro k_; (repeat (first | (refine cL ?_; first | (refine cL_move ?_; refine L_val R_move rfl rfl rfl ?_) | (refine cL_assign ?_; refine L_val R_assign rfl rfl rfl ?_) | (refine cL_makeInterface ?_; refine L_val R_mkI rfl rfl rfl ?_) | refine L_nil ?_) | refine G_seq ?_ | refine G_region ?_ | refine G_skip ?_ | refine G_block ?_ | refine G_end ?_ | refine G_true rfl ?_ | refine G_false rfl ?_)); exact k_.out) : G := h ⟨k⟩

instance : CallT Tryz.prog 267 := call_of Tryz.func267 (by kernel_rfl) (by kernel_rfl)
instance : InvT Tryz.prog 156 "Underlying" 267 := ⟨fun a w => by kernel_rfl⟩
theorem under_basic (a : Nat) (w : World) : Calls Tryz.prog 267 #[ptr a] w (Ret (Is (.iface 156 (ptr a)) w)) := by
  (refine calls_enter Tryz.func267 Tryz.ntmps267 rfl rfl ?_)
  (refine r42 ?_)
  (refine G_retF rfl ?_)
  exact ⟨_, rfl, rfl, rfl⟩
instance : CallT Tryz.prog 255 := call_of Tryz.func255 (by kernel_rfl) (by kernel_rfl)
instance : InvT Tryz.prog 95 "Underlying" 255 := ⟨fun a w => by kernel_rfl⟩
theorem under_pointer (a : Nat) (w : World) : Calls Tryz.prog 255 #[ptr a] w (Ret (Is (.iface 95 (ptr a)) w)) := by
  (refine calls_enter Tryz.func255 Tryz.ntmps255 rfl rfl ?_)
  (refine r42 ?_)
  (refine G_retF rfl ?_)
  exact ⟨_, rfl, rfl, rfl⟩
instance : CallT Tryz.prog 256 := call_of Tryz.func256 (by kernel_rfl) (by kernel_rfl)
instance : InvT Tryz.prog 97 "Underlying" 256 := ⟨fun a w => by kernel_rfl⟩
theorem under_slice (a : Nat) (w : World) : Calls Tryz.prog 256 #[ptr a] w (Ret (Is (.iface 97 (ptr a)) w)) := by
  (refine calls_enter Tryz.func256 Tryz.ntmps256 rfl rfl ?_)
  (refine r42 ?_)
  (refine G_retF rfl ?_)
  exact ⟨_, rfl, rfl, rfl⟩
instance : CallT Tryz.prog 257 := call_of Tryz.func257 (by kernel_rfl) (by kernel_rfl)
instance : InvT Tryz.prog 99 "Underlying" 257 := ⟨fun a w => by kernel_rfl⟩
theorem under_array (a : Nat) (w : World) : Calls Tryz.prog 257 #[ptr a] w (Ret (Is (.iface 99 (ptr a)) w)) := by
  (refine calls_enter Tryz.func257 Tryz.ntmps257 rfl rfl ?_)
  (refine r42 ?_)
  (refine G_retF rfl ?_)
  exact ⟨_, rfl, rfl, rfl⟩
instance : CallT Tryz.prog 258 := call_of Tryz.func258 (by kernel_rfl) (by kernel_rfl)
instance : InvT Tryz.prog 101 "Underlying" 258 := ⟨fun a w => by kernel_rfl⟩
theorem under_map (a : Nat) (w : World) : Calls Tryz.prog 258 #[ptr a] w (Ret (Is (.iface 101 (ptr a)) w)) := by
  (refine calls_enter Tryz.func258 Tryz.ntmps258 rfl rfl ?_)
  (refine r42 ?_)
  (refine G_retF rfl ?_)
  exact ⟨_, rfl, rfl, rfl⟩
instance : CallT Tryz.prog 259 := call_of Tryz.func259 (by kernel_rfl) (by kernel_rfl)
instance : InvT Tryz.prog 103 "Underlying" 259 := ⟨fun a w => by kernel_rfl⟩
theorem under_chan (a : Nat) (w : World) : Calls Tryz.prog 259 #[ptr a] w (Ret (Is (.iface 103 (ptr a)) w)) := by
  (refine calls_enter Tryz.func259 Tryz.ntmps259 rfl rfl ?_)
  (refine r42 ?_)
  (refine G_retF rfl ?_)
  exact ⟨_, rfl, rfl, rfl⟩
instance : CallT Tryz.prog 261 := call_of Tryz.func261 (by kernel_rfl) (by kernel_rfl)
instance : InvT Tryz.prog 111 "Underlying" 261 := ⟨fun a w => by kernel_rfl⟩
theorem under_struct (a : Nat) (w : World) : Calls Tryz.prog 261 #[ptr a] w (Ret (Is (.iface 111 (ptr a)) w)) := by
  (refine calls_enter Tryz.func261 Tryz.ntmps261 rfl rfl ?_)
  (refine r42 ?_)
  (refine G_retF rfl ?_)
  exact ⟨_, rfl, rfl, rfl⟩
instance : CallT Tryz.prog 262 := call_of Tryz.func262 (by kernel_rfl) (by kernel_rfl)
instance : InvT Tryz.prog 113 "Underlying" 262 := ⟨fun a w => by kernel_rfl⟩
theorem under_signature (a : Nat) (w : World) : Calls Tryz.prog 262 #[ptr a] w (Ret (Is (.iface 113 (ptr a)) w)) := by
  (refine calls_enter Tryz.func262 Tryz.ntmps262 rfl rfl ?_)
  (refine r42 ?_)
  (refine G_retF rfl ?_)
  exact ⟨_, rfl, rfl, rfl⟩
instance : CallT Tryz.prog 254 := call_of Tryz.func254 (by kernel_rfl) (by kernel_rfl)
instance : InvT Tryz.prog 76 "Underlying" 254 := ⟨fun a w => by kernel_rfl⟩
theorem under_interface (a : Nat) (w : World) : Calls Tryz.prog 254 #[ptr a] w (Ret (Is (.iface 76 (ptr a)) w)) := by
  (refine calls_enter Tryz.func254 Tryz.ntmps254 rfl rfl ?_)
  (refine r42 ?_)
  (refine G_retF rfl ?_)
  exact ⟨_, rfl, rfl, rfl⟩
end Go.Proofs.YtjilnjifegeceaaGreatDoor

/-
  Type parameters: what the package lays.
-/
namespace Go.Proofs.YtjilnjifegeceaaGreatDoor
set_option maxRecDepth 100000
set_option maxHeartbeats 4000000
attribute [local irreducible] Calls execOp

theorem r43 {G G' : Prop} (k : G') (h : Hid G' → G := by intro k_; (repeat (first | (refine cL ?_; first | (refine cL_assign ?_; refine L_val R_assign rfl rfl rfl ?_) | refine L_nil ?_) | refine G_seq ?_ | refine G_region ?_ | refine G_skip ?_ | refine G_block ?_ | refine G_end ?_ | refine G_true rfl ?_ | refine G_false rfl ?_)); exact k_.out) : G := h ⟨k⟩
theorem r44 {G G' : Prop} (k : G') (h : Hid G' → G := by intro k_; (first | (refine cL ?_; first | (refine cL_assign ?_; refine L_val R_assign rfl rfl rfl ?_) | refine L_nil ?_) | refine G_seq ?_ | refine G_region ?_ | refine G_skip ?_ | refine G_block ?_ | refine G_end ?_ | refine G_true rfl ?_ | refine G_false rfl ?_); exact k_.out) : G := h ⟨k⟩
theorem r45 {G G' : Prop} (k : G') (h : Hid G' → G := by intro k_; (repeat (first | (refine cL ?_; first | (refine cL_guard ?_; refine L_unwanted rfl rfl rfl ?_) | (refine cL_move ?_; refine L_val R_move rfl rfl rfl ?_) | (refine cL_load ?_; first | refine L_val (R_loadB rfl (by assumption) (by rfl)) rfl rfl rfl ?_ | refine L_val (R_loadH (by assumption) rfl (by assumption) (by rfl)) rfl rfl rfl ?_) | (refine cL_fieldAddr ?_; refine L_val (R_fa rfl) rfl rfl rfl ?_) | (refine cL_nilCheck ?_; refine L_val (R_nil rfl) rfl rfl rfl ?_) | (refine cL_assign ?_; refine L_val R_assign rfl rfl rfl ?_) | (refine cL_typeAssert ?_; first | refine L_val (R_taY rfl) rfl rfl rfl ?_ | refine L_val (R_taN rfl rfl) rfl rfl rfl ?_ | refine L_val (R_taNil rfl) rfl rfl rfl ?_) | (refine cL_call ?_; refine L_val (R_len rfl) rfl rfl rfl ?_) | (refine cL_pick ?_; first | refine L_val (R_pickT rfl) rfl rfl rfl ?_ | refine L_val (R_pickF rfl) rfl rfl rfl ?_) | (refine cL_eql ?_; first | refine L_val (R_eqPN rfl rfl) rfl rfl rfl ?_ | refine L_val (R_eqI rfl rfl) rfl rfl rfl ?_ | refine L_val (R_eqB rfl rfl) rfl rfl rfl ?_ | refine L_val (R_eqIfN rfl rfl) rfl rfl rfl ?_ | refine L_val (R_eqIfNN rfl) rfl rfl rfl ?_) | (refine cL_lss ?_; refine L_val (R_ltI rfl rfl) rfl rfl rfl ?_) | (refine cL_makeInterface ?_; refine L_val R_mkI rfl rfl rfl ?_) | (refine cL_add ?_; refine L_val (R_addI rfl rfl) rfl rfl rfl ?_) | refine L_nil ?_) | refine G_seq ?_ | refine G_region ?_ | refine G_skip ?_ | refine G_block ?_ | refine G_end ?_ | refine G_true rfl ?_ | refine G_false rfl ?_)); exact k_.out) : G := h ⟨k⟩
theorem r46 {G G' : Prop} (k : G') (h : Hid G' → G := by intro k_; (first | (refine cL ?_; first | (refine cL_guard ?_; refine L_unwanted rfl rfl rfl ?_) | (refine cL_move ?_; refine L_val R_move rfl rfl rfl ?_) | (refine cL_load ?_; first | refine L_val (R_loadB rfl (by assumption) (by rfl)) rfl rfl rfl ?_ | refine L_val (R_loadH (by assumption) rfl (by assumption) (by rfl)) rfl rfl rfl ?_) | (refine cL_fieldAddr ?_; refine L_val (R_fa rfl) rfl rfl rfl ?_) | (refine cL_nilCheck ?_; refine L_val (R_nil rfl) rfl rfl rfl ?_) | (refine cL_assign ?_; refine L_val R_assign rfl rfl rfl ?_) | (refine cL_typeAssert ?_; first | refine L_val (R_taY rfl) rfl rfl rfl ?_ | refine L_val (R_taN rfl rfl) rfl rfl rfl ?_ | refine L_val (R_taNil rfl) rfl rfl rfl ?_) | (refine cL_call ?_; refine L_val (R_len rfl) rfl rfl rfl ?_) | (refine cL_pick ?_; first | refine L_val (R_pickT rfl) rfl rfl rfl ?_ | refine L_val (R_pickF rfl) rfl rfl rfl ?_) | (refine cL_eql ?_; first | refine L_val (R_eqPN rfl rfl) rfl rfl rfl ?_ | refine L_val (R_eqI rfl rfl) rfl rfl rfl ?_ | refine L_val (R_eqB rfl rfl) rfl rfl rfl ?_ | refine L_val (R_eqIfN rfl rfl) rfl rfl rfl ?_ | refine L_val (R_eqIfNN rfl) rfl rfl rfl ?_) | (refine cL_lss ?_; refine L_val (R_ltI rfl rfl) rfl rfl rfl ?_) | (refine cL_makeInterface ?_; refine L_val R_mkI rfl rfl rfl ?_) | (refine cL_add ?_; refine L_val (R_addI rfl rfl) rfl rfl rfl ?_) | refine L_nil ?_) | refine G_seq ?_ | refine G_region ?_ | refine G_skip ?_ | refine G_block ?_ | refine G_end ?_ | refine G_true rfl ?_ | refine G_false rfl ?_); exact k_.out) : G := h ⟨k⟩
theorem r47 {G G' : Prop} (k : G') (h : Hid G' → G := by intro k_; (repeat (first | (refine cL ?_; first | (refine cL_move ?_; refine L_val R_move rfl rfl rfl ?_) | (refine cL_load ?_; first | refine L_val (R_loadB rfl (by assumption) (by rfl)) rfl rfl rfl ?_ | refine L_val (R_loadH (by assumption) rfl (by assumption) (by rfl)) rfl rfl rfl ?_) | (refine cL_fieldAddr ?_; refine L_val (R_fa rfl) rfl rfl rfl ?_) | (refine cL_nilCheck ?_; refine L_val (R_nil rfl) rfl rfl rfl ?_) | (refine cL_assign ?_; refine L_val R_assign rfl rfl rfl ?_) | (refine cL_extract ?_; refine L_val (R_extract rfl rfl) rfl rfl rfl ?_) | (refine cL_typeAssert ?_; first | refine L_val (R_taY rfl) rfl rfl rfl ?_ | refine L_val (R_taN rfl rfl) rfl rfl rfl ?_ | refine L_val (R_taNil rfl) rfl rfl rfl ?_) | (refine cL_call ?_; refine L_val (R_len rfl) rfl rfl rfl ?_) | (refine cL_eql ?_; first | refine L_val (R_eqPN rfl rfl) rfl rfl rfl ?_ | refine L_val (R_eqI rfl rfl) rfl rfl rfl ?_ | refine L_val (R_eqB rfl rfl) rfl rfl rfl ?_ | refine L_val (R_eqIfN rfl rfl) rfl rfl rfl ?_ | refine L_val (R_eqIfNN rfl) rfl rfl rfl ?_) | (refine cL_neq ?_; first | refine L_val (R_nePN rfl rfl) rfl rfl rfl ?_ | refine L_val (R_neI rfl rfl) rfl rfl rfl ?_ | refine L_val (R_neB rfl rfl) rfl rfl rfl ?_ | refine L_val (R_neIfN rfl rfl) rfl rfl rfl ?_ | refine L_val (R_neIfNN rfl) rfl rfl rfl ?_) | (refine cL_lss ?_; refine L_val (R_ltI rfl rfl) rfl rfl rfl ?_) | (refine cL_not ?_; refine L_val (R_not rfl) rfl rfl rfl ?_) | (refine cL_add ?_; refine L_val (R_addI rfl rfl) rfl rfl rfl ?_) | refine L_nil ?_) | refine G_seq ?_ | refine G_region ?_ | refine G_skip ?_ | refine G_block ?_ | refine G_end ?_ | refine G_true rfl ?_ | refine G_false rfl ?_)); exact k_.out) : G := h ⟨k⟩
theorem r48 {G G' : Prop} (k : G') (h : Hid G' → G := by intro k_; (first | (refine cL ?_; first | (refine cL_move ?_; refine L_val R_move rfl rfl rfl ?_) | (refine cL_load ?_; first | refine L_val (R_loadB rfl (by assumption) (by rfl)) rfl rfl rfl ?_ | refine L_val (R_loadH (by assumption) rfl (by assumption) (by rfl)) rfl rfl rfl ?_) | (refine cL_fieldAddr ?_; refine L_val (R_fa rfl) rfl rfl rfl ?_) | (refine cL_nilCheck ?_; refine L_val (R_nil rfl) rfl rfl rfl ?_) | (refine cL_assign ?_; refine L_val R_assign rfl rfl rfl ?_) | (refine cL_not ?_; refine L_val (R_not rfl) rfl rfl rfl ?_) | refine L_nil ?_) | refine G_seq ?_ | refine G_region ?_ | refine G_skip ?_ | refine G_block ?_ | refine G_end ?_ | refine G_true rfl ?_ | refine G_false rfl ?_); exact k_.out) : G := h ⟨k⟩
theorem r49 {G G' : Prop} (k : G') (h : Hid G' → G := by intro k_; (first | (refine cL ?_; first | (refine cL_move ?_; refine L_val R_move rfl rfl rfl ?_) | (refine cL_load ?_; first | refine L_val (R_loadB rfl (by assumption) (by rfl)) rfl rfl rfl ?_ | refine L_val (R_loadH (by assumption) rfl (by assumption) (by rfl)) rfl rfl rfl ?_) | (refine cL_fieldAddr ?_; refine L_val (R_fa rfl) rfl rfl rfl ?_) | (refine cL_nilCheck ?_; refine L_val (R_nil rfl) rfl rfl rfl ?_) | (refine cL_assign ?_; refine L_val R_assign rfl rfl rfl ?_) | (refine cL_extract ?_; refine L_val (R_extract rfl rfl) rfl rfl rfl ?_) | (refine cL_typeAssert ?_; first | refine L_val (R_taY rfl) rfl rfl rfl ?_ | refine L_val (R_taN rfl rfl) rfl rfl rfl ?_ | refine L_val (R_taNil rfl) rfl rfl rfl ?_) | (refine cL_eql ?_; first | refine L_val (R_eqPN rfl rfl) rfl rfl rfl ?_ | refine L_val (R_eqI rfl rfl) rfl rfl rfl ?_ | refine L_val (R_eqB rfl rfl) rfl rfl rfl ?_ | refine L_val (R_eqIfN rfl rfl) rfl rfl rfl ?_ | refine L_val (R_eqIfNN rfl) rfl rfl rfl ?_) | (refine cL_neq ?_; first | refine L_val (R_nePN rfl rfl) rfl rfl rfl ?_ | refine L_val (R_neI rfl rfl) rfl rfl rfl ?_ | refine L_val (R_neB rfl rfl) rfl rfl rfl ?_ | refine L_val (R_neIfN rfl rfl) rfl rfl rfl ?_ | refine L_val (R_neIfNN rfl) rfl rfl rfl ?_) | (refine cL_makeInterface ?_; refine L_val R_mkI rfl rfl rfl ?_) | (refine cL_not ?_; refine L_val (R_not rfl) rfl rfl rfl ?_) | refine L_nil ?_) | refine G_seq ?_ | refine G_region ?_ | refine G_skip ?_ | refine G_block ?_ | refine G_end ?_ | refine G_true rfl ?_ | refine G_false rfl ?_); exact k_.out) : G := h ⟨k⟩
theorem r50 {G G' : Prop} (k : G') (h : Hid G' → G := by intro k_; (first | (refine cL ?_; first | (refine cL_move ?_; refine L_val R_move rfl rfl rfl ?_) | (refine cL_load ?_; first | refine L_val (R_loadB rfl (by assumption) (by rfl)) rfl rfl rfl ?_ | refine L_val (R_loadH (by assumption) rfl (by assumption) (by rfl)) rfl rfl rfl ?_) | (refine cL_fieldAddr ?_; refine L_val (R_fa rfl) rfl rfl rfl ?_) | (refine cL_nilCheck ?_; refine L_val (R_nil rfl) rfl rfl rfl ?_) | (refine cL_assign ?_; refine L_val R_assign rfl rfl rfl ?_) | (refine cL_eql ?_; first | refine L_val (R_eqPN rfl rfl) rfl rfl rfl ?_ | refine L_val (R_eqI rfl rfl) rfl rfl rfl ?_ | refine L_val (R_eqB rfl rfl) rfl rfl rfl ?_ | refine L_val (R_eqIfN rfl rfl) rfl rfl rfl ?_ | refine L_val (R_eqIfNN rfl) rfl rfl rfl ?_) | (refine cL_neq ?_; first | refine L_val (R_nePN rfl rfl) rfl rfl rfl ?_ | refine L_val (R_neI rfl rfl) rfl rfl rfl ?_ | refine L_val (R_neB rfl rfl) rfl rfl rfl ?_ | refine L_val (R_neIfN rfl rfl) rfl rfl rfl ?_ | refine L_val (R_neIfNN rfl) rfl rfl rfl ?_) | (refine cL_makeInterface ?_; refine L_val R_mkI rfl rfl rfl ?_) | refine L_nil ?_) | refine G_seq ?_ | refine G_region ?_ | refine G_skip ?_ | refine G_block ?_ | refine G_end ?_ | refine G_true rfl ?_ | refine G_false rfl ?_); exact k_.out) : G := h ⟨k⟩
theorem r51 {G G' : Prop} (k : G') (h : Hid G' → G := by intro k_; (repeat (first | (refine cL ?_; first | (refine cL_move ?_; refine L_val R_move rfl rfl rfl ?_) | (refine cL_load ?_; first | refine L_val (R_loadB rfl (by assumption) (by rfl)) rfl rfl rfl ?_ | refine L_val (R_loadH (by assumption) rfl (by assumption) (by rfl)) rfl rfl rfl ?_) | (refine cL_fieldAddr ?_; refine L_val (R_fa rfl) rfl rfl rfl ?_) | (refine cL_nilCheck ?_; refine L_val (R_nil rfl) rfl rfl rfl ?_) | (refine cL_assign ?_; refine L_val R_assign rfl rfl rfl ?_) | (refine cL_eql ?_; first | refine L_val (R_eqPN rfl rfl) rfl rfl rfl ?_ | refine L_val (R_eqI rfl rfl) rfl rfl rfl ?_ | refine L_val (R_eqB rfl rfl) rfl rfl rfl ?_ | refine L_val (R_eqIfN rfl rfl) rfl rfl rfl ?_ | refine L_val (R_eqIfNN rfl) rfl rfl rfl ?_) | (refine cL_neq ?_; first | refine L_val (R_nePN rfl rfl) rfl rfl rfl ?_ | refine L_val (R_neI rfl rfl) rfl rfl rfl ?_ | refine L_val (R_neB rfl rfl) rfl rfl rfl ?_ | refine L_val (R_neIfN rfl rfl) rfl rfl rfl ?_ | refine L_val (R_neIfNN rfl) rfl rfl rfl ?_) | (refine cL_makeInterface ?_; refine L_val R_mkI rfl rfl rfl ?_) | refine L_nil ?_) | refine G_seq ?_ | refine G_region ?_ | refine G_skip ?_ | refine G_block ?_ | refine G_end ?_ | refine G_true rfl ?_ | refine G_false rfl ?_)); exact k_.out) : G := h ⟨k⟩

theorem allTermlist_any (w : World) : Calls Tryz.prog 103 #[] w (Ret fun r w' => ∃ p n c, r = .slice p n c ∧ Ext No w w') := by
  (refine calls_enter Tryz.func103 Tryz.ntmps103 rfl rfl ?_)
  (refine r43 ?_)
  refine L_allocS rfl rfl fun b w1 hn => ?_
  refine L_buildSlice (vs := [ptr b]) rfl rfl rfl rfl rfl rfl fun bs ws hns => ?_
  (refine r43 ?_)
  (refine G_retF rfl ?_)
  exact ⟨_, rfl, _, _, _, rfl, hn.ext.trans hns.ext⟩

theorem topTypeSet_any (w : World) : Calls Tryz.prog 53 #[] w (Ret fun r w' => ∃ b, r = ptr b ∧ Ext No w w') := by
  (refine calls_enter Tryz.func53 Tryz.ntmps53 rfl rfl ?_)
  (refine r43 ?_)
  refine L_callR (xs := []) (allTermlist_any w) rfl rfl fun v w1 ⟨p, n, c, hv, hx⟩ => ?_
  subst hv
  (repeat (first | (refine cL ?_; first | (refine cL_build ?_; refine L_val (R_build (cs := [.bool false, .slice none 0 0, .slice p n c, .bool false]) rfl) rfl rfl rfl ?_)) | refine r44 ?_))
  refine L_box rfl rfl rfl fun b w2 hn => ?_
  (refine r43 ?_)
  (refine G_retF rfl ?_)
  exact ⟨_, rfl, b, rfl, hx.trans hn.ext⟩

def ifcCells (ts : Nat) : List Value := [.pointer none, .slice none 0 0, .slice none 0 0, .pointer none, .bool false, .bool true, ptr ts]
def IfcP (w : World) (r : Value) (w' : World) : Prop := ∃ b ts, r = ptr b ∧ Ext No w w' ∧ w.heap.size ≤ b ∧ w'.heap[b]? = some (Ob (ifcCells ts) 127)

theorem newInterface_any (w : World) : Calls Tryz.prog 31 #[.slice none 0 0, .slice none 0 0] w (Ret (IfcP w)) := by
  (refine calls_enter Tryz.func31 Tryz.ntmps31 rfl rfl ?_)
  (refine r45 ?_)
  refine L_callR (xs := []) (topTypeSet_any w) rfl rfl fun v w1 ⟨ts, hv, hx⟩ => ?_
  subst hv
  (repeat (first | (refine cL ?_; first | (refine cL_guard ?_; refine L_unwanted rfl rfl rfl ?_) | (refine cL_build ?_; refine L_val (R_build (cs := ifcCells ts) rfl) rfl rfl rfl ?_)) | refine r46 ?_))
  refine L_box rfl rfl rfl fun b w2 hn => ?_
  (refine r45 ?_)
  (refine G_retF rfl ?_)
  refine ⟨_, rfl, b, ts, rfl, hx.trans hn.ext, ?_, hn.here⟩
  rw [hn.fresh]
  exact hx.size

theorem typeSet_any {b ts : Nat} (w : World) (hb : w.heap[b]? = some (Ob (ifcCells ts) 127)) : Calls Tryz.prog 106 #[.pointer none, .int .i64 0, ptr b] w (Ret (Is (ptr ts) w)) := by
  unfold ifcCells at hb
  (refine calls_enter Tryz.func106 Tryz.ntmps106 rfl rfl ?_)
  (refine r47 ?_)
  (refine G_retF rfl ?_)
  exact ⟨_, rfl, rfl, rfl⟩
theorem typeSetM_any {b ts : Nat} (w : World) (hb : w.heap[b]? = some (Ob (ifcCells ts) 127)) : Calls Tryz.prog 57 #[ptr b] w (Ret (Is (ptr ts) w)) := by
  have hb' := hb
  unfold ifcCells at hb
  (refine calls_enter Tryz.func57 Tryz.ntmps57 rfl rfl ?_)
  (repeat (first | (refine cL ?_; first | (refine cL_call ?_; refine L_callI (typeSet_any w hb') rfl rfl ?_)) | refine r12 ?_))
  (refine G_retF rfl ?_)
  exact ⟨_, rfl, rfl, rfl⟩
theorem complete_any {b ts : Nat} (w : World) (hb : w.heap[b]? = some (Ob (ifcCells ts) 127)) : Calls Tryz.prog 32 #[ptr b] w (Ret (Is (ptr b) w)) := by
  have hb' := hb
  unfold ifcCells at hb
  (refine calls_enter Tryz.func32 Tryz.ntmps32 rfl rfl ?_)
  (repeat (first | (refine cL ?_; first | (refine cL_call ?_; refine L_callI (typeSetM_any w hb') rfl rfl ?_)) | refine r48 ?_))
  (refine G_retF rfl ?_)
  exact ⟨_, rfl, rfl, rfl⟩

theorem isTypeParam_no (T : Nat) (v : Value) (w : World) (hT : Nat.beq T 258 = false) (hN : Nat.beq T 72 = false) :
    Calls Tryz.prog 127 #[.iface T v] w (Ret (Is (.bool false) w)) := by
  (refine calls_enter Tryz.func127 Tryz.ntmps127 rfl rfl ?_)
  (repeat (first | (refine cL ?_; first | (refine cL_typeAssert ?_; refine L_val (R_taN rfl hN) rfl rfl rfl ?_) | (refine cL_call ?_; refine L_callI (unalias_any T v _ hT) rfl rfl ?_)) | refine r1 ?_))
  (refine G_retF rfl ?_)
  exact ⟨_, rfl, rfl, rfl⟩

theorem iface_any {t o b ts : Nat} (w : World) (ht : w.heap[t]? = some (Ob [.pointer none, .int .u64 0, ptr o, .int .i64 (-1), .iface 76 (ptr b)] 241)) (hb : w.heap[b]? = some (Ob (ifcCells ts) 127)) :
    Calls Tryz.prog 102 #[ptr t] w (Ret (Is (ptr b) w)) := by
  unfold ifcCells at hb
  (refine calls_enter Tryz.func102 Tryz.ntmps102 rfl rfl ?_)
  (repeat (first | (refine cL ?_; first | (refine cL_call ?_; first | refine L_invokeI rfl (under_interface b w) rfl rfl ?_ | refine L_callI (isTypeParam_no _ _ _ rfl rfl) rfl rfl ?_)) | refine r49 ?_))
  (refine G_retF rfl ?_)
  exact ⟨_, rfl, rfl, rfl⟩

def TParP (o b : Nat) (w : World) (r : Value) (w' : World) : Prop :=
  ∃ t, r = ptr t ∧ Ext (fun k => k = o) w w' ∧ w.heap.size ≤ t ∧ w'.heap[t]? = some (Ob [.pointer none, .int .u64 0, ptr o, .int .i64 (-1), .iface 76 (ptr b)] 241) ∧ ∃ x y z u, w'.heap[o]? = some (Ob [x, y, z, u] 234)

theorem nextID_any (w : World) : Calls Tryz.prog 101 #[] w (Ret (Is (.int .u64 0) w)) := by
  (refine calls_enter Tryz.func101 Tryz.ntmps101 rfl rfl ?_)
  (refine r43 ?_)
  (refine G_retF rfl ?_)
  exact ⟨_, rfl, rfl, rfl⟩

theorem newTypeParam_any {o b ts : Nat} {n : Int} {pk : Option Addr} {s : ByteArray} (w : World) (ho : w.heap[o]? = some (Ob [.int .i64 n, .pointer pk, .string s, .nilIface] 234)) (hb : w.heap[b]? = some (Ob (ifcCells ts) 127)) (hne : b ≠ o) :
    Calls Tryz.prog 51 #[.pointer none, ptr o, .iface 76 (ptr b)] w (Ret (TParP o b w)) := by
  (refine calls_enter Tryz.func51 Tryz.ntmps51 rfl rfl ?_)
  (repeat (first | (refine cL ?_; first | (refine cL_call ?_; refine L_callI (xs := []) (nextID_any w) rfl rfl ?_) | (refine cL_build ?_; refine L_val (R_build (cs := [.pointer none, .int .u64 0, ptr o, .int .i64 (-1), .iface 76 (ptr b)]) rfl) rfl rfl rfl ?_)) | refine r50 ?_))
  refine L_box rfl rfl rfl fun t w1 hn => ?_
  have ho1 := hn.ext.heap (fun h => h) ho
  have hb1 := hn.ext.heap (fun h => h) hb
  have hto : t ≠ o := by have := lt_of_heap ho; have := hn.fresh; omega
  (refine r51 ?_)
  refine L_store rfl ho1 rfl rfl rfl fun w2 h2 e2 s2 => ?_
  have ht2 := e2.heap (fun h => hto h) hn.here
  have hb2 := e2.heap (fun h => hne h) hb1
  (repeat (first | (refine cL ?_; first | (refine cL_call ?_; refine L_callI (iface_any w2 ht2 hb2) rfl rfl ?_)) | refine r50 ?_))
  (refine G_retF rfl ?_)
  refine ⟨_, rfl, t, rfl, hn.ext.of_no.trans e2, ?_, ht2, _, _, _, _, h2⟩
  rw [hn.fresh]
  exact Nat.le_refl _

theorem newTP_any {o b ts : Nat} {n : Int} {pk : Option Addr} {s : ByteArray} (w : World) (ho : w.heap[o]? = some (Ob [.int .i64 n, .pointer pk, .string s, .nilIface] 234)) (hb : w.heap[b]? = some (Ob (ifcCells ts) 127)) (hne : b ≠ o) :
    Calls Tryz.prog 29 #[ptr o, .iface 76 (ptr b)] w (Ret (TParP o b w)) := by
  (refine calls_enter Tryz.func29 Tryz.ntmps29 rfl rfl ?_)
  (refine r33 ?_)
  refine L_callR (newTypeParam_any w ho hb hne) rfl rfl fun v w1 h1 => ?_
  obtain ⟨t, hv, h2⟩ := h1
  subst hv
  (refine r33 ?_)
  (refine G_retF rfl ?_)
  exact ⟨_, rfl, t, rfl, h2⟩
end Go.Proofs.YtjilnjifegeceaaGreatDoor

/-
  The numbers under which the program holds package sync's lock, checked by the kernel; and an atomic 'or'.
-/
namespace Go.Proofs.YtjilnjifegeceaaGreatDoor
set_option maxRecDepth 100000
set_option maxHeartbeats 4000000

abbrev muLink : Go.Conc.Locks.MuLink := { lock := 107, unlock := 108, ilock := 139, iunlock := 140, lockSlow := 177, unlockSlow := 180, disable := 173, enable := 175, acquire := 176, relMerge := 178, cas32 := 174, add32 := 179, tMutex := 146, tIMutex := 144, tPMutex := 289, tPIMutex := 324, tPI32 := 326, tUP := 328, tNoCopy := 141, tU32 := 142 }
theorem muLib : Go.Conc.Locks.MuLib Tryz.prog muLink := by
  constructor <;> first | kernel_rfl | (intro w; kernel_rfl)

theorem run_call_or {P : Program} {f : FuncId} {fn : Func} (hf : P.funcs[f]? = some fn) (hname : (fn.name == "runtime.NumGoroutine") = false) (hb : fn.body.isNone = true) (hn : Extern.findNext fn = none) (k : IntKind)
    (he : Extern.find fn = some (Extern.Atomic.update (Op.intBits .or) k false)) {a : Addr} {x y s : Int} {w : World} (hc : w.cell? a = some (.int k x)) (hz : w.frozen? a = false)
    (hs : (Op.intBits .or k x y).run P w = .ok (.int k s) w) :
    (callFunc f #[.pointer (some a), .int k y]).run P w = .ok (.value (.int k x)) (w.setCell a (.int k s)) := by
  rw [run_callFunc_extern hf hname hb hn he]
  change (Sem.run P (do
    let a' ← asAddr (.pointer (some a))
    let old ← Extern.Atomic.read (.int k) a'
    let new ← Op.intBits .or k (← asInt old) (← asInt (.int k y))
    store a' new .atomic
    pure (if false = true then new else old)) w).andThen _ = _
  simp [Extern.Atomic.read, asAddr, asInt, asIntOf, hc, hz, hs, run_store P w a (.int k s) .atomic rfl, Result.andThen]

theorem L_orU {n : Nat} {ops rest : List Oper} {K : LK} {f : Fm} {ds : List Deferred} {d : Nat} {ty : TypeId} {pos : String} {aft : Array Edge} {g : Option (Nat × Bool)} {w : World} {x y : Operand} {ts : Array TypeId} {b i : Nat} {cs : List Value} {T : TypeId} {m c s : Int}
    (hx : ev f x = .pointer (some ⟨b, i, none⟩)) (hy : ev f y = .int .u32 c) (hb : w.heap[b]? = some (Ob cs T)) (hv : lget cs i = some (.int .u32 m)) (hs : ∀ w, (Op.intBits .or .u32 m c).run Tryz.prog w = .ok (.int .u32 s) w)
    (hw : wantd ops f ⟨some d, .call ⟨.value (.func 141), #[x, y], ts⟩, ty, pos, aft, g⟩ = true) (hn : Nat.blt d n = true)
    (h : ∀ w', w'.heap[b]? = some (Ob (lset cs i (.int .u32 s)) T) → Ext (fun k => k = b) w w' → w'.heap.size = w.heap.size → L Tryz.prog n ops K rest (upd f d (.int .u32 m)) ds w') :
    L Tryz.prog n ops K (⟨some d, .call ⟨.value (.func 141), #[x, y], ts⟩, ty, pos, aft, g⟩ :: rest) f ds w := by
  have hc : w.cell? ⟨b, i, none⟩ = some (.int .u32 m) := by
    rw [lget_eq] at hv
    simp [World.cell?, hb, Ob]
    exact hv
  have hr := run_call_or (P := Tryz.prog) Tryz.func141 (by kernel_rfl) (by kernel_rfl) (by kernel_rfl) .u32 (by kernel_rfl) hc (frozen_ob hb) (hs w)
  refine L_val (v := .int .u32 m) (w' := w.setCell ⟨b, i, none⟩ (.int .u32 s)) ?_ hw rfl hn (h _ (heap_setCell hb) (Ext.setCell w ⟨b, i, none⟩ (.int .u32 s) rfl) (by simp))
  simp only [execOp, resolve, ev, Deferred.ofValue, Sem.run_bind, Sem.run_pure, Result.andThen_ok, invoke]
  simp [hx, hy, hr]
end Go.Proofs.YtjilnjifegeceaaGreatDoor

/-
  Defined types: what the package lays, and how an underlying type is set under the lock.
-/
namespace Go.Proofs.YtjilnjifegeceaaGreatDoor
set_option maxRecDepth 100000
set_option maxHeartbeats 4000000
attribute [local irreducible] Calls execOp

theorem r52 {G G' : Prop} (k : G') (h : Hid G' → G := by intro k_; (repeat (first | (refine cL ?_; first | (refine cL_move ?_; refine L_val R_move rfl rfl rfl ?_) | (refine cL_fieldAddr ?_; refine L_val (R_fa rfl) rfl rfl rfl ?_) | (refine cL_nilCheck ?_; refine L_val (R_nil rfl) rfl rfl rfl ?_) | refine L_nil ?_) | refine G_seq ?_ | refine G_region ?_ | refine G_skip ?_ | refine G_block ?_ | refine G_end ?_ | refine G_true rfl ?_ | refine G_false rfl ?_)); exact k_.out) : G := h ⟨k⟩
theorem r53 {G G' : Prop} (k : G') (h : Hid G' → G := by intro k_; (repeat (first | (refine cL ?_; first | (refine cL_move ?_; refine L_val R_move rfl rfl rfl ?_) | (refine cL_assign ?_; refine L_val R_assign rfl rfl rfl ?_) | (refine cL_extract ?_; refine L_val (R_extract rfl rfl) rfl rfl rfl ?_) | (refine cL_typeAssert ?_; first | refine L_val (R_taY rfl) rfl rfl rfl ?_ | refine L_val (R_taN rfl rfl) rfl rfl rfl ?_ | refine L_val (R_taNil rfl) rfl rfl rfl ?_) | (refine cL_neq ?_; first | refine L_val (R_nePN rfl rfl) rfl rfl rfl ?_ | refine L_val (R_neI rfl rfl) rfl rfl rfl ?_ | refine L_val (R_neB rfl rfl) rfl rfl rfl ?_ | refine L_val (R_neIfN rfl rfl) rfl rfl rfl ?_ | refine L_val (R_neIfNN rfl) rfl rfl rfl ?_) | refine L_nil ?_) | refine G_seq ?_ | refine G_region ?_ | refine G_skip ?_ | refine G_block ?_ | refine G_end ?_ | refine G_true rfl ?_ | refine G_false rfl ?_)); exact k_.out) : G := h ⟨k⟩
theorem r54 {G G' : Prop} (k : G') (h : Hid G' → G := by intro k_; (first | (refine cL ?_; first | (refine cL_move ?_; refine L_val R_move rfl rfl rfl ?_) | (refine cL_fieldAddr ?_; refine L_val (R_fa rfl) rfl rfl rfl ?_) | (refine cL_nilCheck ?_; refine L_val (R_nil rfl) rfl rfl rfl ?_) | (refine cL_eql ?_; first | refine L_val (R_eqPN rfl rfl) rfl rfl rfl ?_ | refine L_val (R_eqI rfl rfl) rfl rfl rfl ?_ | refine L_val (R_eqB rfl rfl) rfl rfl rfl ?_ | refine L_val (R_eqIfN rfl rfl) rfl rfl rfl ?_ | refine L_val (R_eqIfNN rfl) rfl rfl rfl ?_) | (refine cL_neq ?_; first | refine L_val (R_nePN rfl rfl) rfl rfl rfl ?_ | refine L_val (R_neI rfl rfl) rfl rfl rfl ?_ | refine L_val (R_neB rfl rfl) rfl rfl rfl ?_ | refine L_val (R_neIfN rfl rfl) rfl rfl rfl ?_ | refine L_val (R_neIfNN rfl) rfl rfl rfl ?_) | (refine cL_makeInterface ?_; refine L_val R_mkI rfl rfl rfl ?_) | refine L_nil ?_) | refine G_seq ?_ | refine G_region ?_ | refine G_skip ?_ | refine G_block ?_ | refine G_end ?_ | refine G_true rfl ?_ | refine G_false rfl ?_); exact k_.out) : G := h ⟨k⟩
theorem r55 {G G' : Prop} (k : G') (h : Hid G' → G := by intro k_; (repeat (first | (refine cL ?_; first | (refine cL_move ?_; refine L_val R_move rfl rfl rfl ?_) | (refine cL_fieldAddr ?_; refine L_val (R_fa rfl) rfl rfl rfl ?_) | (refine cL_nilCheck ?_; refine L_val (R_nil rfl) rfl rfl rfl ?_) | (refine cL_eql ?_; first | refine L_val (R_eqPN rfl rfl) rfl rfl rfl ?_ | refine L_val (R_eqI rfl rfl) rfl rfl rfl ?_ | refine L_val (R_eqB rfl rfl) rfl rfl rfl ?_ | refine L_val (R_eqIfN rfl rfl) rfl rfl rfl ?_ | refine L_val (R_eqIfNN rfl) rfl rfl rfl ?_) | (refine cL_neq ?_; first | refine L_val (R_nePN rfl rfl) rfl rfl rfl ?_ | refine L_val (R_neI rfl rfl) rfl rfl rfl ?_ | refine L_val (R_neB rfl rfl) rfl rfl rfl ?_ | refine L_val (R_neIfN rfl rfl) rfl rfl rfl ?_ | refine L_val (R_neIfNN rfl) rfl rfl rfl ?_) | (refine cL_makeInterface ?_; refine L_val R_mkI rfl rfl rfl ?_) | refine L_nil ?_) | refine G_seq ?_ | refine G_region ?_ | refine G_skip ?_ | refine G_block ?_ | refine G_end ?_ | refine G_true rfl ?_ | refine G_false rfl ?_)); exact k_.out) : G := h ⟨k⟩

instance : CallT Tryz.prog 108 := call_of Tryz.func108 (by kernel_rfl) (by kernel_rfl)

theorem setState_any {a : Nat} {cs : List Value} {m c s : Int} (w : World) (hb : w.heap[a]? = some (Ob cs 148)) (hv : lget cs 6 = some (.int .u32 m)) (hs : ∀ w, (Op.intBits .or .u32 m c).run Tryz.prog w = .ok (.int .u32 s) w) :
    Calls Tryz.prog 109 #[ptr a, .int .u32 c] w (Ret fun r w' => r = .tuple #[] ∧ w'.heap[a]? = some (Ob (lset cs 6 (.int .u32 s)) 148) ∧ Ext (fun k => k = a) w w' ∧ w'.heap.size = w.heap.size) := by
  (refine calls_enter Tryz.func109 Tryz.ntmps109 rfl rfl ?_)
  (refine r52 ?_)
  refine L_orU rfl rfl hb hv hs rfl rfl fun w1 h1 e1 s1 => ?_
  (refine r52 ?_)
  refine G_end0 rfl ?_
  exact ⟨_, rfl, rfl, h1, e1, s1⟩

theorem asNamed_nil (w : World) : Calls Tryz.prog 58 #[.nilIface] w (Ret (Is (.pointer none) w)) := by
  have hu : Calls Tryz.prog 78 #[.nilIface] w (Ret (Is .nilIface w)) := by
    (refine calls_enter Tryz.func78 Tryz.ntmps78 rfl rfl ?_)
    (refine r53 ?_)
    (refine G_retF rfl ?_)
    exact ⟨_, rfl, rfl, rfl⟩
  (refine calls_enter Tryz.func58 Tryz.ntmps58 rfl rfl ?_)
  (repeat (first | (refine cL ?_; first | (refine cL_call ?_; refine L_callI hu rfl rfl ?_)) | refine r1 ?_))
  (refine G_retF rfl ?_)
  exact ⟨_, rfl, rfl, rfl⟩

theorem lit_notNamed {T : Nat} (h : litT T = true) : Nat.beq T 258 = false ∧ Nat.beq T 80 = false := by
  simp only [litT, Bool.or_eq_true] at h
  rcases h with ((((((h | h) | h) | h) | h) | h) | h) | h <;> (have := Nat.eq_of_beq_eq_true h; subst this; exact ⟨rfl, rfl⟩)

def rawCells (o : Nat) (nl : Bool) (inst m2 fr und vz me : Value) (m1 st : Int) : List Value := [.pointer none, ptr o, .bool nl, inst, .int .i32 m1, m2, .int .u32 st, fr, und, vz, me]

theorem setUnderlying_any {a o T b : Nat} {nl : Bool} {inst m2 fr und vz me : Value} (w : World) (hb : w.heap[a]? = some (Ob (rawCells o nl inst m2 fr und vz me 0 0) 148)) (hT : litT T = true) :
    Calls Tryz.prog 60 #[ptr a, .iface T (ptr b)] w (Ret fun r w' => r = .tuple #[] ∧ w'.heap[a]? = some (Ob (rawCells o false inst m2 (.iface T (ptr b)) (.iface T (ptr b)) vz me 0 15) 148) ∧ Ext (fun k => k = a) w w' ∧ w'.heap.size = w.heap.size) := by
  obtain ⟨hA, hN⟩ := lit_notNamed hT
  unfold rawCells at hb
  have hc4 : w.cell? ⟨a, 4, none⟩ = some (.int .i32 0) := by simp [World.cell?, hb, Ob]
  have hlock := Go.MuLone.lock_free muLib ⟨a, 4, none⟩ w hc4 (frozen_ob hb)
  (refine calls_enter_d Tryz.func60 Tryz.ntmps60 rfl rfl ?_)
  (repeat (first | (refine cL ?_; first | (refine cL_call ?_; refine L_callI (asNamed_no _ _ _ hA hN) rfl rfl ?_)) | refine r54 ?_))
  refine L_callR (Φ := fun r w' => r = .tuple #[] ∧ w' = w.setCell ⟨a, 4, none⟩ (.int .i32 1)) (hlock.mono fun e w' ⟨he, hw⟩ => ⟨_, he, rfl, hw⟩) rfl rfl fun v w1 ⟨hv, hw1⟩ => ?_
  subst hv
  have h1 := heap_setCell (i := 4) (v := .int .i32 1) hb
  rw [← hw1] at h1
  have x1 : Ext (fun k => k = a) w w1 := by rw [hw1]; exact Ext.setCell w ⟨a, 4, none⟩ _ rfl
  have s1 : w1.heap.size = w.heap.size := by rw [hw1]; simp
  clear hw1
  (refine r55 ?_)
  refine L_defer R_defer rfl rfl ?_
  (refine r55 ?_)
  refine L_store rfl h1 rfl rfl rfl fun w2 h2 x2 s2 => ?_
  (refine r55 ?_)
  refine L_store rfl h2 rfl rfl rfl fun w3 h3 x3 s3 => ?_
  (refine r55 ?_)
  refine L_callR (setState_any (s := 7) w3 h3 rfl (fun w => by kernel_rfl)) rfl rfl fun v w4 ⟨hv, h4, x4, s4⟩ => ?_
  subst hv
  (refine r55 ?_)
  refine L_store rfl h4 rfl rfl rfl fun w5 h5 x5 s5 => ?_
  (refine r55 ?_)
  refine L_callR (setState_any (s := 15) w5 h5 rfl (fun w => by kernel_rfl)) rfl rfl fun v w6 ⟨hv, h6, x6, s6⟩ => ?_
  subst hv
  (refine r55 ?_)
  refine G_nil ?_
  intro tmps htm
  have hc6 : w6.cell? ⟨a, 4, none⟩ = some (.int .i32 1) := by
    simp only [World.cell?, h6, Ob]
    rfl
  have hun := Go.MuLone.unlock_deferred muLib ⟨a, 4, none⟩ .returning w6 hc6 (frozen_ob h6)
  have hcall : CallT Tryz.prog 108 := inferInstance
  refine leaves_cons (f := 108) (args := #[.pointer (some ⟨a, 4, none⟩)]) (by simp) (hcall.h _ _) (hun.mono ?_)
  rintro e u w7 ⟨hu, he, hw7⟩
  subst he
  subst hu
  have h7 := heap_setCell (i := 4) (v := .int .i32 0) h6
  rw [← hw7] at h7
  have x7 : Ext (fun k => k = a) w6 w7 := by rw [hw7]; exact Ext.setCell w6 ⟨a, 4, none⟩ _ rfl
  have s7 : w7.heap.size = w6.heap.size := by rw [hw7]; simp
  refine ⟨.tuple #[], ResV.none rfl _ w7 tmps htm, _, rfl, rfl, h7, x1.trans (x2.trans (x3.trans (x4.trans (x5.trans (x6.trans x7))))), by omega⟩
end Go.Proofs.YtjilnjifegeceaaGreatDoor

/-
  Defined types and their instances: what the package lays.
-/
namespace Go.Proofs.YtjilnjifegeceaaGreatDoor
set_option maxRecDepth 100000
set_option maxHeartbeats 4000000
attribute [local irreducible] Calls execOp

theorem r56 {G G' : Prop} (k : G') (h : Hid G' → G := by intro k_; (first | (refine cL ?_; first | (refine cL_move ?_; refine L_val R_move rfl rfl rfl ?_) | (refine cL_load ?_; first | refine L_val (R_loadB rfl (by assumption) (by rfl)) rfl rfl rfl ?_ | refine L_val (R_loadH (by assumption) rfl (by assumption) (by rfl)) rfl rfl rfl ?_) | (refine cL_fieldAddr ?_; refine L_val (R_fa rfl) rfl rfl rfl ?_) | (refine cL_nilCheck ?_; refine L_val (R_nil rfl) rfl rfl rfl ?_) | (refine cL_assign ?_; refine L_val R_assign rfl rfl rfl ?_) | (refine cL_eql ?_; first | refine L_val (R_eqPN rfl rfl) rfl rfl rfl ?_ | refine L_val (R_eqI rfl rfl) rfl rfl rfl ?_ | refine L_val (R_eqB rfl rfl) rfl rfl rfl ?_ | refine L_val (R_eqIfN rfl rfl) rfl rfl rfl ?_ | refine L_val (R_eqIfNN rfl) rfl rfl rfl ?_) | (refine cL_makeInterface ?_; refine L_val R_mkI rfl rfl rfl ?_) | refine L_nil ?_) | refine G_seq ?_ | refine G_region ?_ | refine G_skip ?_ | refine G_block ?_ | refine G_end ?_ | refine G_true rfl ?_ | refine G_false rfl ?_); exact k_.out) : G := h ⟨k⟩
theorem r57 {G G' : Prop} (k : G') (h : Hid G' → G := by intro k_; (repeat (first | (refine cL ?_; first | (refine cL_move ?_; refine L_val R_move rfl rfl rfl ?_) | (refine cL_load ?_; first | refine L_val (R_loadB rfl (by assumption) (by rfl)) rfl rfl rfl ?_ | refine L_val (R_loadH (by assumption) rfl (by assumption) (by rfl)) rfl rfl rfl ?_) | (refine cL_fieldAddr ?_; refine L_val (R_fa rfl) rfl rfl rfl ?_) | (refine cL_nilCheck ?_; refine L_val (R_nil rfl) rfl rfl rfl ?_) | (refine cL_assign ?_; refine L_val R_assign rfl rfl rfl ?_) | (refine cL_eql ?_; first | refine L_val (R_eqPN rfl rfl) rfl rfl rfl ?_ | refine L_val (R_eqI rfl rfl) rfl rfl rfl ?_ | refine L_val (R_eqB rfl rfl) rfl rfl rfl ?_ | refine L_val (R_eqIfN rfl rfl) rfl rfl rfl ?_ | refine L_val (R_eqIfNN rfl) rfl rfl rfl ?_) | (refine cL_makeInterface ?_; refine L_val R_mkI rfl rfl rfl ?_) | refine L_nil ?_) | refine G_seq ?_ | refine G_region ?_ | refine G_skip ?_ | refine G_block ?_ | refine G_end ?_ | refine G_true rfl ?_ | refine G_false rfl ?_)); exact k_.out) : G := h ⟨k⟩
theorem r58 {G G' : Prop} (k : G') (h : Hid G' → G := by intro k_; (first | (refine cL ?_; first | (refine cL_move ?_; refine L_val R_move rfl rfl rfl ?_) | (refine cL_fieldAddr ?_; refine L_val (R_fa rfl) rfl rfl rfl ?_) | (refine cL_nilCheck ?_; refine L_val (R_nil rfl) rfl rfl rfl ?_) | (refine cL_assign ?_; refine L_val R_assign rfl rfl rfl ?_) | (refine cL_eql ?_; first | refine L_val (R_eqPN rfl rfl) rfl rfl rfl ?_ | refine L_val (R_eqI rfl rfl) rfl rfl rfl ?_ | refine L_val (R_eqB rfl rfl) rfl rfl rfl ?_ | refine L_val (R_eqIfN rfl rfl) rfl rfl rfl ?_ | refine L_val (R_eqIfNN rfl) rfl rfl rfl ?_) | (refine cL_neq ?_; first | refine L_val (R_nePN rfl rfl) rfl rfl rfl ?_ | refine L_val (R_neI rfl rfl) rfl rfl rfl ?_ | refine L_val (R_neB rfl rfl) rfl rfl rfl ?_ | refine L_val (R_neIfN rfl rfl) rfl rfl rfl ?_ | refine L_val (R_neIfNN rfl) rfl rfl rfl ?_) | (refine cL_makeInterface ?_; refine L_val R_mkI rfl rfl rfl ?_) | refine L_nil ?_) | refine G_seq ?_ | refine G_region ?_ | refine G_skip ?_ | refine G_block ?_ | refine G_end ?_ | refine G_true rfl ?_ | refine G_false rfl ?_); exact k_.out) : G := h ⟨k⟩
theorem r59 {G G' : Prop} (k : G') (h : Hid G' → G := by intro k_; (repeat (first | (refine cL ?_; first | (refine cL_move ?_; refine L_val R_move rfl rfl rfl ?_) | (refine cL_fieldAddr ?_; refine L_val (R_fa rfl) rfl rfl rfl ?_) | (refine cL_nilCheck ?_; refine L_val (R_nil rfl) rfl rfl rfl ?_) | (refine cL_assign ?_; refine L_val R_assign rfl rfl rfl ?_) | (refine cL_eql ?_; first | refine L_val (R_eqPN rfl rfl) rfl rfl rfl ?_ | refine L_val (R_eqI rfl rfl) rfl rfl rfl ?_ | refine L_val (R_eqB rfl rfl) rfl rfl rfl ?_ | refine L_val (R_eqIfN rfl rfl) rfl rfl rfl ?_ | refine L_val (R_eqIfNN rfl) rfl rfl rfl ?_) | (refine cL_neq ?_; first | refine L_val (R_nePN rfl rfl) rfl rfl rfl ?_ | refine L_val (R_neI rfl rfl) rfl rfl rfl ?_ | refine L_val (R_neB rfl rfl) rfl rfl rfl ?_ | refine L_val (R_neIfN rfl rfl) rfl rfl rfl ?_ | refine L_val (R_neIfNN rfl) rfl rfl rfl ?_) | (refine cL_makeInterface ?_; refine L_val R_mkI rfl rfl rfl ?_) | refine L_nil ?_) | refine G_seq ?_ | refine G_region ?_ | refine G_skip ?_ | refine G_block ?_ | refine G_end ?_ | refine G_true rfl ?_ | refine G_false rfl ?_)); exact k_.out) : G := h ⟨k⟩
theorem r60 {G G' : Prop} (k : G') (h : Hid G' → G := by intro k_; (repeat (first | (refine cL ?_; first | (refine cL_move ?_; refine L_val R_move rfl rfl rfl ?_) | (refine cL_load ?_; first | refine L_val (R_loadB rfl (by assumption) (by rfl)) rfl rfl rfl ?_ | refine L_val (R_loadH (by assumption) rfl (by assumption) (by rfl)) rfl rfl rfl ?_) | (refine cL_fieldAddr ?_; refine L_val (R_fa rfl) rfl rfl rfl ?_) | (refine cL_nilCheck ?_; refine L_val (R_nil rfl) rfl rfl rfl ?_) | (refine cL_assign ?_; refine L_val R_assign rfl rfl rfl ?_) | (refine cL_makeInterface ?_; refine L_val R_mkI rfl rfl rfl ?_) | refine L_nil ?_) | refine G_seq ?_ | refine G_region ?_ | refine G_skip ?_ | refine G_block ?_ | refine G_end ?_ | refine G_true rfl ?_ | refine G_false rfl ?_)); exact k_.out) : G := h ⟨k⟩
theorem r61 {G G' A : Prop} (ag : A) (k : G') (h : Hid G' → A → G := by intro k_ ag_; (repeat (first | (refine cD_move ?_; refine D_val0 (fun _ _ => R_move) rfl rfl ?_) | (refine cD_load ?_; refine D_val0 (fun w he => R_loadH (ag_ w he) rfl (by assumption) (by rfl)) rfl rfl ?_) | (refine cD_fieldAddr ?_; refine D_val0 (fun _ _ => R_fa rfl) rfl rfl ?_) | (refine cD_nilCheck ?_; refine D_val0 (fun _ _ => R_nil rfl) rfl rfl ?_) | (refine cD_assign ?_; refine D_val0 (fun _ _ => R_assign) rfl rfl ?_) | (refine cD_makeInterface ?_; refine D_val0 (fun _ _ => R_mkI) rfl rfl ?_))); exact k_.out) : G := h ⟨k⟩ ag
theorem r62 {G G' : Prop} (k : G') (h : Hid G' → G := by intro k_; (first | (refine cL ?_; first | (refine cL_move ?_; refine L_val R_move rfl rfl rfl ?_) | (refine cL_load ?_; first | refine L_val (R_loadB rfl (by assumption) (by rfl)) rfl rfl rfl ?_ | refine L_val (R_loadH (by assumption) rfl (by assumption) (by rfl)) rfl rfl rfl ?_) | (refine cL_fieldAddr ?_; refine L_val (R_fa rfl) rfl rfl rfl ?_) | (refine cL_nilCheck ?_; refine L_val (R_nil rfl) rfl rfl rfl ?_) | (refine cL_assign ?_; refine L_val R_assign rfl rfl rfl ?_) | (refine cL_makeInterface ?_; refine L_val R_mkI rfl rfl rfl ?_) | refine L_nil ?_) | refine G_seq ?_ | refine G_region ?_ | refine G_skip ?_ | refine G_block ?_ | refine G_end ?_ | refine G_true rfl ?_ | refine G_false rfl ?_); exact k_.out) : G := h ⟨k⟩

def ObjC (n : Int) (pk : Option Addr) (s : ByteArray) (t : Value) : List Value := [.int .i64 n, .pointer pk, .string s, t]

def NamedRaw (o : Nat) (n : Int) (pk : Option Addr) (s : ByteArray) (cs : List Value) (w : World) (r : Value) (w' : World) : Prop :=
  ∃ a, r = ptr a ∧ w'.heap[a]? = some (Ob cs 148) ∧ w'.heap[o]? = some (Ob (ObjC n pk s (.iface 80 (ptr a))) 234) ∧ Ext (fun k => k = o) w w' ∧ w.heap.size ≤ a

theorem newNamedNil_any {o : Nat} {n : Int} {pk : Option Addr} {s : ByteArray} (w : World) (ho : w.heap[o]? = some (Ob (ObjC n pk s .nilIface) 234)) :
    Calls Tryz.prog 59 #[.pointer none, ptr o, .nilIface, .slice none 0 0] w (Ret (NamedRaw o n pk s (rawCells o false (.pointer none) (.int .u32 0) .nilIface .nilIface (.bool false) (.slice none 0 0) 0 0) w)) := by
  unfold ObjC at ho
  (refine calls_enter Tryz.func59 Tryz.ntmps59 rfl rfl ?_)
  (repeat (first | (refine cL ?_; first | (refine cL_build ?_; refine L_val (R_build (cs := rawCells o false (.pointer none) (.int .u32 0) .nilIface .nilIface (.bool false) (.slice none 0 0) 0 0) rfl) rfl rfl rfl ?_)) | refine r56 ?_))
  refine L_box rfl rfl rfl fun a w1 hn => ?_
  have ho1 := hn.ext.heap (fun h => h) ho
  have hao : a ≠ o := by have := lt_of_heap ho; have := hn.fresh; omega
  (refine r57 ?_)
  refine L_store rfl ho1 rfl rfl rfl fun w2 h2 e2 s2 => ?_
  (refine r57 ?_)
  (refine G_retF rfl ?_)
  refine ⟨_, rfl, a, rfl, e2.heap (fun h => hao h) hn.here, h2, hn.ext.of_no.trans e2, ?_⟩
  rw [hn.fresh]
  exact Nat.le_refl _

theorem newNamedLit_any {o : Nat} {n : Int} {pk : Option Addr} {s : ByteArray} {T b : Nat} (w : World) (ho : w.heap[o]? = some (Ob (ObjC n pk s .nilIface) 234)) :
    Calls Tryz.prog 59 #[.pointer none, ptr o, .iface T (ptr b), .slice none 0 0] w (Ret (NamedRaw o n pk s (rawCells o false (.pointer none) (.int .u32 0) (.iface T (ptr b)) .nilIface (.bool false) (.slice none 0 0) 0 0) w)) := by
  unfold ObjC at ho
  (refine calls_enter Tryz.func59 Tryz.ntmps59 rfl rfl ?_)
  (repeat (first | (refine cL ?_; first | (refine cL_build ?_; refine L_val (R_build (cs := rawCells o false (.pointer none) (.int .u32 0) (.iface T (ptr b)) .nilIface (.bool false) (.slice none 0 0) 0 0) rfl) rfl rfl rfl ?_)) | refine r56 ?_))
  refine L_box rfl rfl rfl fun a w1 hn => ?_
  have ho1 := hn.ext.heap (fun h => h) ho
  have hao : a ≠ o := by have := lt_of_heap ho; have := hn.fresh; omega
  (refine r57 ?_)
  refine L_store rfl ho1 rfl rfl rfl fun w2 h2 e2 s2 => ?_
  (refine r57 ?_)
  (refine G_retF rfl ?_)
  refine ⟨_, rfl, a, rfl, e2.heap (fun h => hao h) hn.here, h2, hn.ext.of_no.trans e2, ?_⟩
  rw [hn.fresh]
  exact Nat.le_refl _

/-- a generic declaration -/
theorem newNamedG_any {o : Nat} {n : Int} {pk : Option Addr} {s : ByteArray} (w : World) (ho : w.heap[o]? = some (Ob (ObjC n pk s .nilIface) 234)) :
    Calls Tryz.prog 33 #[ptr o, .nilIface, .slice none 0 0] w (Ret (NamedRaw o n pk s (rawCells o true (.pointer none) (.int .u32 0) .nilIface .nilIface (.bool false) (.slice none 0 0) 0 0) w)) := by
  (refine calls_enter Tryz.func33 Tryz.ntmps33 rfl rfl ?_)
  (repeat (first | (refine cL ?_; first | (refine cL_call ?_; refine L_callI (asNamed_nil _) rfl rfl ?_)) | refine r58 ?_))
  refine L_callR (newNamedNil_any w ho) rfl rfl fun v w1 ⟨a, hv, h1, ho1, x1, f1⟩ => ?_
  subst hv
  have hoa : o ≠ a := by have := lt_of_heap ho; omega
  unfold rawCells at h1
  (refine r59 ?_)
  refine L_store rfl h1 rfl rfl rfl fun w2 h2 e2 s2 => ?_
  (refine r59 ?_)
  (refine G_retF rfl ?_)
  exact ⟨_, rfl, a, rfl, h2, e2.heap (fun h => hoa h) ho1, x1.trans_new e2 (fun i hi hm => by omega), f1⟩

/-- a declaration with its type -/
theorem newNamedD_any {o : Nat} {n : Int} {pk : Option Addr} {s : ByteArray} {T b : Nat} (w : World) (ho : w.heap[o]? = some (Ob (ObjC n pk s .nilIface) 234)) (hT : litT T = true) :
    Calls Tryz.prog 33 #[ptr o, .iface T (ptr b), .slice none 0 0] w (Ret (NamedRaw o n pk s (rawCells o false (.pointer none) (.int .u32 0) (.iface T (ptr b)) (.iface T (ptr b)) (.bool false) (.slice none 0 0) 0 15) w)) := by
  obtain ⟨hA, hN⟩ := lit_notNamed hT
  (refine calls_enter Tryz.func33 Tryz.ntmps33 rfl rfl ?_)
  (repeat (first | (refine cL ?_; first | (refine cL_call ?_; refine L_callI (asNamed_no _ _ _ hA hN) rfl rfl ?_)) | refine r58 ?_))
  refine L_callR (newNamedLit_any w ho) rfl rfl fun v w1 ⟨a, hv, h1, ho1, x1, f1⟩ => ?_
  subst hv
  have hoa : o ≠ a := by have := lt_of_heap ho; omega
  (refine r59 ?_)
  refine L_callR (setUnderlying_any w1 h1 hT) rfl rfl fun v w2 ⟨hv, h2, e2, s2⟩ => ?_
  subst hv
  (refine r59 ?_)
  (refine G_retF rfl ?_)
  exact ⟨_, rfl, a, rfl, h2, e2.heap (fun h => hoa h) ho1, x1.trans_new e2 (fun i hi hm => by omega), f1⟩

/-- an instance -/
theorem newInstance_any {H : Hp} {d o : Nat} {c : Value} {r : List Value} {n : Int} {pk : Option Addr} {s : ByteArray} {t : Value} {p : Option Addr} {len cap T b : Nat} (w : World) (hA : Agree H w) (hd : H d = some (Ob (c :: ptr o :: r) 148)) (ho : H o = some (Ob (ObjC n pk s t) 234))
    (hl : 0 < len) (hT : litT T = true) :
    Calls Tryz.prog 50 #[ptr d, .slice p len cap, .iface T (ptr b)] w (Ret fun r w' => ∃ a i tl o2 H', r = ptr a ∧ Grow H w H' w' ∧ H' a = some (Ob (rawCells o2 false (ptr i) (.int .u32 0) (.iface T (ptr b)) (.iface T (ptr b)) (.bool false) (.slice none 0 0) 0 15) 148) ∧
      H' i = some (Ob [ptr d, ptr tl] 237) ∧ H' tl = some (Ob [.slice p len cap] 275)) := by
  unfold ObjC at ho
  have hAg : ∀ w', Ext No w w' → Agree H w' := fun _ he => hA.ext0 he
  (refine calls_enter Tryz.func50 Tryz.ntmps50 rfl rfl ?_)
  (refine r60 ?_)
  (refine G_draw No (0 :: 1 :: 2 :: 3 :: 4 :: 5 :: 6 :: 7 :: 8 :: 9 :: 10 :: 11 :: 12 :: 13 :: 14 :: 15 :: 16 :: 17 :: 18 :: 19 :: 20 :: 21 :: 22 :: 23 :: 24 :: 25 :: []) [24] follows (by kernel_rfl) rfl ?_)
  (refine r61 hAg ?_)
  refine D_callRR (fun w he => newTypeName_any n pk s w) rfl fun w0 v w1 he0 ⟨o2, hv, hn1⟩ => ⟨hn1.ext, ?_⟩
  subst hv
  have hA1 := (hAg w0 he0).ext0 hn1.ext
  have hAg1 : ∀ w', Ext No w1 w' → Agree H w' := fun _ he => hA1.ext0 he
  (refine r61 hAg1 ?_)
  refine D_nil fun w2 he2 => ?_
  have ho2 := he2.heap (fun h => h) hn1.here
  have x2 : Ext No w w2 := he0.trans (hn1.ext.trans he2)
  have f2 : w.heap.size ≤ o2 := by have := hn1.fresh; have := he0.size; omega
  (refine r60 ?_)
  refine L_callR (newTypeList_some p len cap w2 hl) rfl rfl fun v w3 ⟨tl, hv, hn3⟩ => ?_
  subst hv
  (repeat (first | (refine cL ?_; first | (refine cL_build ?_; refine L_val (R_build (cs := [ptr d, ptr tl]) rfl) rfl rfl rfl ?_)) | refine r62 ?_))
  refine L_box rfl rfl rfl fun i w4 hn4 => ?_
  (repeat (first | (refine cL ?_; first | (refine cL_build ?_; refine L_val (R_build (cs := rawCells o2 false (ptr i) (.int .u32 0) .nilIface .nilIface (.bool false) (.slice none 0 0) 0 0) rfl) rfl rfl rfl ?_)) | refine r62 ?_))
  refine L_box rfl rfl rfl fun a w5 hn5 => ?_
  have ho5 := hn5.ext.heap (fun h => h) (hn4.ext.heap (fun h => h) (hn3.ext.heap (fun h => h) ho2))
  have lo2 := lt_of_heap ho2
  have f3 := hn3.fresh
  have f4 := hn4.fresh
  have f5 := hn5.fresh
  have z3 := hn3.size
  have z4 := hn4.size
  (refine r60 ?_)
  refine L_store rfl ho5 rfl rfl rfl fun w6 h6 e6 s6 => ?_
  have ha6 := e6.heap (fun h => by omega) hn5.here
  (refine r60 ?_)
  refine L_callR (setUnderlying_any w6 ha6 hT) rfl rfl fun v w7 ⟨hv, h7, e7, s7⟩ => ?_
  subst hv
  (refine r60 ?_)
  (refine G_retF rfl ?_)
  have hi7 := e7.heap (fun h => by omega) (e6.heap (fun h => by omega) (hn5.ext.heap (fun h => h) hn4.here))
  have htl7 := e7.heap (fun h => by omega) (e6.heap (fun h => by omega) (hn5.ext.heap (fun h => h) (hn4.ext.heap (fun h => h) hn3.here)))
  have x5 : Ext No w w5 := x2.trans (hn3.ext.trans (hn4.ext.trans hn5.ext))
  have x7 : Ext No w w7 := (x5.trans_new e6 (fun k hk hm => by omega)).trans_new e7 (fun k hk hm => by have := x2.size; omega)
  have hx2 := x2.size
  obtain ⟨Ha, ga, -, hHa⟩ := (Grow.quiet hA x7).add h7 (by omega)
  obtain ⟨Hi, gi, lei, hHi⟩ := ga.add hi7 (by omega)
  obtain ⟨Ht, gt, let_, hHt⟩ := gi.add htl7 (by omega)
  exact ⟨_, rfl, a, i, tl, o2, Ht, rfl, gt, let_ _ _ (lei _ _ hHa), let_ _ _ hHi, hHt⟩
end Go.Proofs.YtjilnjifegeceaaGreatDoor

/-
  Struct types: the set of field names.
-/
namespace Go.Proofs.YtjilnjifegeceaaGreatDoor
set_option maxRecDepth 100000
set_option maxHeartbeats 4000000
attribute [local irreducible] Calls execOp

theorem r63 {G G' : Prop} (k : G') (h : Hid G' → G := by intro k_; (first | (refine cL ?_; first | (refine cL_guard ?_; refine L_unwanted rfl rfl rfl ?_) | (refine cL_move ?_; refine L_val R_move rfl rfl rfl ?_) | (refine cL_load ?_; first | refine L_val (R_loadB rfl (by assumption) (by rfl)) rfl rfl rfl ?_ | refine L_val (R_loadH (by assumption) rfl (by assumption) (by rfl)) rfl rfl rfl ?_) | (refine cL_fieldAddr ?_; refine L_val (R_fa rfl) rfl rfl rfl ?_) | (refine cL_nilCheck ?_; refine L_val (R_nil rfl) rfl rfl rfl ?_) | (refine cL_assign ?_; refine L_val R_assign rfl rfl rfl ?_) | (refine cL_pick ?_; first | refine L_val (R_pickT rfl) rfl rfl rfl ?_ | refine L_val (R_pickF rfl) rfl rfl rfl ?_) | (refine cL_neq ?_; first | refine L_val (R_nePN rfl rfl) rfl rfl rfl ?_ | refine L_val (R_neI rfl rfl) rfl rfl rfl ?_ | refine L_val (R_neB rfl rfl) rfl rfl rfl ?_ | refine L_val (R_neIfN rfl rfl) rfl rfl rfl ?_ | refine L_val (R_neIfNN rfl) rfl rfl rfl ?_) | (refine cL_add ?_; refine L_val (R_addI rfl rfl) rfl rfl rfl ?_) | refine L_nil ?_) | refine G_seq ?_ | refine G_region ?_ | refine G_skip ?_ | refine G_block ?_ | refine G_end ?_ | refine G_true rfl ?_ | refine G_false rfl ?_); exact k_.out) : G := h ⟨k⟩
theorem r64 {G G' A : Prop} (ag : A) (k : G') (h : Hid G' → A → G := by intro k_ ag_; (first | (refine cD_move ?_; refine D_val0 (fun _ _ => R_move) rfl rfl ?_) | (refine cD_load ?_; refine D_val0 (fun w he => R_loadH (ag_ w he) rfl (by assumption) (by rfl)) rfl rfl ?_) | (refine cD_fieldAddr ?_; refine D_val0 (fun _ _ => R_fa rfl) rfl rfl ?_) | (refine cD_nilCheck ?_; refine D_val0 (fun _ _ => R_nil rfl) rfl rfl ?_) | (refine cD_assign ?_; refine D_val0 (fun _ _ => R_assign) rfl rfl ?_)); exact k_.out) : G := h ⟨k⟩ ag
theorem r65 {G G' : Prop} (k : G') (h : Hid G' → G := by intro k_; (repeat (first | (refine cL ?_; first | (refine cL_move ?_; refine L_val R_move rfl rfl rfl ?_) | (refine cL_load ?_; first | refine L_val (R_loadB rfl (by assumption) (by rfl)) rfl rfl rfl ?_ | refine L_val (R_loadH (by assumption) rfl (by assumption) (by rfl)) rfl rfl rfl ?_) | (refine cL_nilCheck ?_; refine L_val (R_nil rfl) rfl rfl rfl ?_) | (refine cL_assign ?_; refine L_val R_assign rfl rfl rfl ?_) | (refine cL_eql ?_; first | refine L_val (R_eqPN rfl rfl) rfl rfl rfl ?_ | refine L_val (R_eqI rfl rfl) rfl rfl rfl ?_ | refine L_val (R_eqB rfl rfl) rfl rfl rfl ?_ | refine L_val (R_eqIfN rfl rfl) rfl rfl rfl ?_ | refine L_val (R_eqIfNN rfl) rfl rfl rfl ?_) | (refine cL_neq ?_; first | refine L_val (R_nePN rfl rfl) rfl rfl rfl ?_ | refine L_val (R_neI rfl rfl) rfl rfl rfl ?_ | refine L_val (R_neB rfl rfl) rfl rfl rfl ?_ | refine L_val (R_neIfN rfl rfl) rfl rfl rfl ?_ | refine L_val (R_neIfNN rfl) rfl rfl rfl ?_) | refine L_nil ?_) | refine G_seq ?_ | refine G_region ?_ | refine G_skip ?_ | refine G_block ?_ | refine G_end ?_ | refine G_true rfl ?_ | refine G_false rfl ?_)); exact k_.out) : G := h ⟨k⟩
theorem r66 {G G' : Prop} (k : G') (h : Hid G' → G := by intro k_; (first | (refine cL ?_; first | (refine cL_move ?_; refine L_val R_move rfl rfl rfl ?_) | (refine cL_load ?_; first | refine L_val (R_loadB rfl (by assumption) (by rfl)) rfl rfl rfl ?_ | refine L_val (R_loadH (by assumption) rfl (by assumption) (by rfl)) rfl rfl rfl ?_) | (refine cL_nilCheck ?_; refine L_val (R_nil rfl) rfl rfl rfl ?_) | (refine cL_assign ?_; refine L_val R_assign rfl rfl rfl ?_) | (refine cL_eql ?_; first | refine L_val (R_eqPN rfl rfl) rfl rfl rfl ?_ | refine L_val (R_eqI rfl rfl) rfl rfl rfl ?_ | refine L_val (R_eqB rfl rfl) rfl rfl rfl ?_ | refine L_val (R_eqIfN rfl rfl) rfl rfl rfl ?_ | refine L_val (R_eqIfNN rfl) rfl rfl rfl ?_) | (refine cL_neq ?_; first | refine L_val (R_nePN rfl rfl) rfl rfl rfl ?_ | refine L_val (R_neI rfl rfl) rfl rfl rfl ?_ | refine L_val (R_neB rfl rfl) rfl rfl rfl ?_ | refine L_val (R_neIfN rfl rfl) rfl rfl rfl ?_ | refine L_val (R_neIfNN rfl) rfl rfl rfl ?_) | refine L_nil ?_) | refine G_seq ?_ | refine G_region ?_ | refine G_skip ?_ | refine G_block ?_ | refine G_end ?_ | refine G_true rfl ?_ | refine G_false rfl ?_); exact k_.out) : G := h ⟨k⟩

instance : InvT Tryz.prog 108 "Id" 87 := ⟨fun a w => by kernel_rfl⟩
instance : CallT Tryz.prog 87 := call_of Tryz.func87 (by kernel_rfl) (by kernel_rfl)
instance : MapT Tryz.prog 222 9 224 .nilIface := ⟨by kernel_rfl, by kernel_rfl, by kernel_rfl⟩
instance : MapE Tryz.prog 222 := ⟨by kernel_rfl⟩

theorem pkgId_any {H : Hp} {s : ByteArray} {pk : Value} (w : World) (hA : Agree H w) (hp : Props H) (hs : capital s) : Calls Tryz.prog 130 #[pk, .string s] w (Ret (Is (.string s) w)) := by
  (refine calls_enter Tryz.func130 Tryz.ntmps130 rfl rfl ?_)
  (repeat (first | (refine cL ?_; first | (refine cL_guard ?_; refine L_unwanted rfl rfl rfl ?_) | (refine cL_call ?_; refine L_callI (isExported_cap w hA hp hs) rfl rfl ?_)) | refine r63 ?_))
  (refine G_retF rfl ?_)
  exact ⟨_, rfl, rfl, rfl⟩

theorem objId_any {H : Hp} {a : Nat} {s : ByteArray} {q pk : Value} {r : List Value} {T : Nat} (w : World) (hA : Agree H w) (hp : Props H) (hs : capital s) (h : H a = some (Ob (q :: pk :: .string s :: r) T)) :
    Calls Tryz.prog 87 #[ptr a] w (Ret (Qt (.string s) w)) := by
  have hAg : ∀ w', Ext No w w' → Agree H w' := fun _ he => hA.ext0 he
  (refine calls_enter Tryz.func87 Tryz.ntmps87 rfl rfl ?_)
  (refine r35 ?_)
  (refine G_draw No (0 :: 1 :: 2 :: 3 :: 4 :: 5 :: 6 :: 7 :: 8 :: 9 :: []) [] follows (by kernel_rfl) rfl ?_)
  (repeat (first | (refine cD_call ?_; refine D_callQ (fun w he => Is.qt (pkgId_any w (hAg w he) hp hs)) rfl ?_) | refine r64 hAg ?_))
  refine D_nil fun w1 hw1 => ?_
  (refine r35 ?_)
  (refine G_retF rfl ?_)
  exact ⟨_, rfl, rfl, hw1⟩

/-- a set of names, its block m and its map new since B -/
def SetIs (w : World) (B m : Nat) (ks : List ByteArray) : Prop :=
  B ≤ m ∧ ∃ mp, w.heap[m]? = some (Ob [.map mp] 222) ∧ ((mp = none ∧ ks = []) ∨ ∃ r, mp = some r ∧ B ≤ r ∧ r ≠ m ∧ MapIs w r ks)

theorem MapIs.ext {M : Nat → Prop} {w w' : World} {r : Nat} {ks : List ByteArray} (h : MapIs w r ks) (he : Ext M w w') (hm : ¬ M r) : MapIs w' r ks :=
  let ⟨es, c, h1, h2⟩ := h
  ⟨es, c, he.heap hm h1, h2⟩
theorem MapIs.lt {w : World} {r : Nat} {ks : List ByteArray} (h : MapIs w r ks) : r < w.heap.size := let ⟨_, _, h1, _⟩ := h; lt_of_heap h1

theorem insert_any {H : Hp} {B m a : Nat} {s : ByteArray} {q pk : Value} {r : List Value} {T : Nat} {ks : List ByteArray} (w : World) (hA : Agree H w) (hp : Props H) (hs : capital s) (h : H a = some (Ob (q :: pk :: .string s :: r) T)) (hset : SetIs w B m ks) (hB : B ≤ w.heap.size) (hn : ∀ k ∈ ks, (s == k) = false) :
    Calls Tryz.prog 92 #[ptr m, .iface 108 (ptr a)] w (Ret fun r w' => r = .nilIface ∧ SetIs w' B m (ks ++ [s]) ∧ Ext (fun k => B ≤ k) w w') := by
  obtain ⟨hBm, mp, hm, hc⟩ := hset
  (refine calls_enter Tryz.func92 Tryz.ntmps92 rfl rfl ?_)
  (refine r65 ?_)
  refine L_invokeR rfl (objId_any w hA hp hs h) rfl rfl fun v w1 ⟨hv, x1⟩ => ?_
  subst hv
  have hm1 := x1.heap (fun h => h) hm
  rcases hc with ⟨rfl, rfl⟩ | ⟨rr, rfl, hBr, hrm, hmap⟩
  · (repeat (first | (refine cL ?_; first | refine L_val (R_lookupN rfl rfl) rfl rfl rfl ?_ | (refine cL_eql ?_; refine L_val (R_eqMpN rfl rfl) rfl rfl rfl ?_)) | refine r66 ?_))
    refine L_val R_makeMap rfl rfl rfl ?_
    have hnew := newB_alloc w1 (.map #[] 0)
    have hm2 := hnew.ext.heap (fun h => h) hm1
    have hlm := lt_of_heap hm1
    (refine r65 ?_)
    refine L_store rfl hm2 rfl rfl rfl fun w3 h3 e3 s3 => ?_
    have hmp3 : MapIs w3 w1.heap.size [] := ⟨#[], 0, e3.heap (fun h => by omega) hnew.here, rfl⟩
    have h3' : w3.heap[m]? = some (Ob [.map (some w1.heap.size)] 222) := h3
    (refine r65 ?_)
    refine L_mapUpdate rfl rfl hmp3 hn rfl fun w4 hm4 e4 s4 => ?_
    (refine r65 ?_)
    (refine G_retF rfl ?_)
    have hx1 := x1.size
    have hBx : ∀ (k : Nat), k < w.heap.size → k = w1.heap.size → B ≤ k := fun k _ hk => by omega
    refine ⟨_, rfl, rfl, ⟨hBm, _, e4.heap (fun h => by omega) h3', .inr ⟨_, rfl, by omega, by omega, hm4⟩⟩, ?_⟩
    have y1 : Ext (fun k => B ≤ k) w w3 := ((x1.trans hnew.ext).of_no).trans (e3.mono fun k _ hk => by omega)
    exact y1.trans (e4.mono fun k _ hk => by omega)
  · have hmap1 := hmap.ext x1 (fun h => h)
    (repeat (first | (refine cL ?_; first | refine L_val (R_lookupA rfl rfl hmap1 hn) rfl rfl rfl ?_ | (refine cL_eql ?_; refine L_val (R_eqMpN rfl rfl) rfl rfl rfl ?_)) | refine r66 ?_))
    refine L_mapUpdate rfl rfl hmap1 hn rfl fun w4 hm4 e4 s4 => ?_
    (refine r65 ?_)
    (refine G_retF rfl ?_)
    refine ⟨_, rfl, rfl, ⟨hBm, _, e4.heap (fun h => hrm h.symm) hm1, .inr ⟨_, rfl, hBr, hrm, hm4⟩⟩, ?_⟩
    exact x1.of_no.trans (e4.mono fun k _ hk => by omega)
end Go.Proofs.YtjilnjifegeceaaGreatDoor

/-
  Struct types: what the package lays.
-/
namespace Go.Proofs.YtjilnjifegeceaaGreatDoor
set_option maxRecDepth 100000
set_option maxHeartbeats 4000000

theorem r67 {G G' : Prop} (k : G') (h : Hid G' → G := by intro k_; (first | (refine cL ?_; first | (refine cL_move ?_; refine L_val R_move rfl rfl rfl ?_) | (refine cL_load ?_; first | refine L_val (R_loadB rfl (by assumption) (by rfl)) rfl rfl rfl ?_ | refine L_val (R_loadH (by assumption) rfl (by assumption) (by rfl)) rfl rfl rfl ?_) | (refine cL_fieldAddr ?_; refine L_val (R_fa rfl) rfl rfl rfl ?_) | (refine cL_nilCheck ?_; refine L_val (R_nil rfl) rfl rfl rfl ?_) | (refine cL_eql ?_; first | refine L_val (R_eqPN rfl rfl) rfl rfl rfl ?_ | refine L_val (R_eqI rfl rfl) rfl rfl rfl ?_ | refine L_val (R_eqB rfl rfl) rfl rfl rfl ?_ | refine L_val (R_eqIfN rfl rfl) rfl rfl rfl ?_ | refine L_val (R_eqIfNN rfl) rfl rfl rfl ?_) | refine L_nil ?_) | refine G_seq ?_ | refine G_region ?_ | refine G_skip ?_ | refine G_block ?_ | refine G_end ?_ | refine G_true rfl ?_ | refine G_false rfl ?_); exact k_.out) : G := h ⟨k⟩
theorem r68 {G G' : Prop} (k : G') (h : Hid G' → G := by intro k_; (repeat (first | (refine cL ?_; first | (refine cL_move ?_; refine L_val R_move rfl rfl rfl ?_) | (refine cL_load ?_; first | refine L_val (R_loadB rfl (by assumption) (by rfl)) rfl rfl rfl ?_ | refine L_val (R_loadH (by assumption) rfl (by assumption) (by rfl)) rfl rfl rfl ?_) | (refine cL_fieldAddr ?_; refine L_val (R_fa rfl) rfl rfl rfl ?_) | (refine cL_nilCheck ?_; refine L_val (R_nil rfl) rfl rfl rfl ?_) | (refine cL_eql ?_; first | refine L_val (R_eqPN rfl rfl) rfl rfl rfl ?_ | refine L_val (R_eqI rfl rfl) rfl rfl rfl ?_ | refine L_val (R_eqB rfl rfl) rfl rfl rfl ?_ | refine L_val (R_eqIfN rfl rfl) rfl rfl rfl ?_ | refine L_val (R_eqIfNN rfl) rfl rfl rfl ?_) | refine L_nil ?_) | refine G_seq ?_ | refine G_region ?_ | refine G_skip ?_ | refine G_block ?_ | refine G_end ?_ | refine G_true rfl ?_ | refine G_false rfl ?_)); exact k_.out) : G := h ⟨k⟩

instance app_vars : AppT Tryz.prog 107 108 8 := ⟨by kernel_rfl, by kernel_rfl⟩
instance : SliceE Tryz.prog 107 := ⟨by kernel_rfl⟩

theorem R_makeNoVars {f : Fm} {dst : Option Nat} {ty : TypeId} {pos : String} {aft : Array Edge} {g : Option (Nat × Bool)} {w : World} :
    (execOp (ev f) ⟨dst, .makeSlice 107 (.const (.int .i64 0)) (.const (.int .i64 0)), ty, pos, aft, g⟩).run Tryz.prog w = .ok (.value (.slice (some ⟨w.heap.size, 0, none⟩) 0 0)) (w.alloc (Ob [] 108)) := by
  have h := run_make_row' (P := Tryz.prog) 107 108 (.pointer none) 8 (by kernel_rfl) (by kernel_rfl) rfl .i64 .i64 0 (by decide) (by decide) w
  simp only [execOp, ev]
  have e : madeCells #[Value.pointer none] 0 = #[] := by simp [madeCells]
  rw [e] at h
  have h0 : (.int .i64 ((0 : Nat) : Int) : Value) = .int .i64 0 := rfl
  rw [h0] at h
  simp only [Sem.run_bind, h, Result.andThen_ok, Sem.run_pure]
  rfl

attribute [local irreducible] Calls execOp

theorem markComplete_some {b : Nat} {a : Addr} {len cap : Nat} {tg : Value} (w : World) (hb : w.heap[b]? = some (Ob [.slice (some a) len cap, tg] 184)) :
    Calls Tryz.prog 93 #[ptr b] w (Ret (Is (.tuple #[]) w)) := by
  (refine calls_enter Tryz.func93 Tryz.ntmps93 rfl rfl ?_)
  (repeat (first | (refine cL ?_; first | (refine cL_eql ?_; refine L_val (R_eqSlN rfl rfl) rfl rfl rfl ?_)) | refine r67 ?_))
  refine G_end0 rfl ?_
  exact ⟨_, rfl, rfl, rfl⟩

theorem markComplete_nil {b : Nat} {tg : Value} (w : World) (hb : w.heap[b]? = some (Ob [.slice none 0 0, tg] 184)) :
    Calls Tryz.prog 93 #[ptr b] w (Ret fun r w' => r = .tuple #[] ∧ ∃ e, w.heap.size ≤ e ∧ w'.heap[e]? = some (Ob [] 108) ∧ w'.heap[b]? = some (Ob [.slice (some ⟨e, 0, none⟩) 0 0, tg] 184) ∧ Ext (fun k => k = b) w w') := by
  (refine calls_enter Tryz.func93 Tryz.ntmps93 rfl rfl ?_)
  (repeat (first | (refine cL ?_; first | (refine cL_eql ?_; refine L_val (R_eqSlN rfl rfl) rfl rfl rfl ?_)) | refine r67 ?_))
  refine L_val R_makeNoVars rfl rfl rfl ?_
  have hnew := newB_alloc w (Ob [] 108)
  have hb1 := hnew.ext.heap (fun h => h) hb
  have hlt := lt_of_heap hb
  (refine r68 ?_)
  refine L_store rfl hb1 rfl rfl rfl fun w2 h2 e2 s2 => ?_
  (refine r68 ?_)
  refine G_end0 rfl ?_
  exact ⟨_, rfl, rfl, w.heap.size, Nat.le_refl _, e2.heap (fun h => by omega) hnew.here, h2, hnew.ext.of_no.trans e2⟩
end Go.Proofs.YtjilnjifegeceaaGreatDoor

/-
  Struct types: NewStruct.
-/
namespace Go.Proofs.YtjilnjifegeceaaGreatDoor
set_option maxRecDepth 100000
set_option maxHeartbeats 4000000
attribute [local irreducible] Calls execOp

theorem r69 {G G' : Prop} (k : G') (h : Hid G' → G := by intro k_; (repeat (first | (refine cL ?_; first | (refine cL_guard ?_; refine L_unwanted rfl rfl rfl ?_) | (refine cL_move ?_; refine L_val R_move rfl rfl rfl ?_) | (refine cL_load ?_; first | refine L_val (R_loadB rfl (by assumption) (by rfl)) rfl rfl rfl ?_ | refine L_val (R_loadH (by assumption) rfl (by assumption) (by rfl)) rfl rfl rfl ?_) | (refine cL_fieldAddr ?_; refine L_val (R_fa rfl) rfl rfl rfl ?_) | (refine cL_nilCheck ?_; refine L_val (R_nil rfl) rfl rfl rfl ?_) | (refine cL_assign ?_; refine L_val R_assign rfl rfl rfl ?_) | (refine cL_call ?_; refine L_val (R_len rfl) rfl rfl rfl ?_) | (refine cL_pick ?_; first | refine L_val (R_pickT rfl) rfl rfl rfl ?_ | refine L_val (R_pickF rfl) rfl rfl rfl ?_) | (refine cL_neq ?_; first | refine L_val (R_nePN rfl rfl) rfl rfl rfl ?_ | refine L_val (R_neI rfl rfl) rfl rfl rfl ?_ | refine L_val (R_neB rfl rfl) rfl rfl rfl ?_ | refine L_val (R_neIfN rfl rfl) rfl rfl rfl ?_ | refine L_val (R_neIfNN rfl) rfl rfl rfl ?_) | (refine cL_lss ?_; refine L_val (R_ltI rfl rfl) rfl rfl rfl ?_) | (refine cL_makeInterface ?_; refine L_val R_mkI rfl rfl rfl ?_) | (refine cL_add ?_; refine L_val (R_addI rfl rfl) rfl rfl rfl ?_) | (refine cL_gtr ?_; refine L_val (R_gtI rfl rfl) rfl rfl rfl ?_) | refine L_nil ?_) | refine G_seq ?_ | refine G_region ?_ | refine G_skip ?_ | refine G_block ?_ | refine G_end ?_ | refine G_true rfl ?_ | refine G_false rfl ?_)); exact k_.out) : G := h ⟨k⟩
theorem r70 {G G' : Prop} (k : G') (h : Hid G' → G := by intro k_; (first | (refine cL ?_; first | (refine cL_guard ?_; refine L_unwanted rfl rfl rfl ?_) | (refine cL_move ?_; refine L_val R_move rfl rfl rfl ?_) | (refine cL_load ?_; first | refine L_val (R_loadB rfl (by assumption) (by rfl)) rfl rfl rfl ?_ | refine L_val (R_loadH (by assumption) rfl (by assumption) (by rfl)) rfl rfl rfl ?_) | (refine cL_fieldAddr ?_; refine L_val (R_fa rfl) rfl rfl rfl ?_) | (refine cL_nilCheck ?_; refine L_val (R_nil rfl) rfl rfl rfl ?_) | (refine cL_assign ?_; refine L_val R_assign rfl rfl rfl ?_) | (refine cL_call ?_; refine L_val (R_len rfl) rfl rfl rfl ?_) | (refine cL_pick ?_; first | refine L_val (R_pickT rfl) rfl rfl rfl ?_ | refine L_val (R_pickF rfl) rfl rfl rfl ?_) | (refine cL_neq ?_; first | refine L_val (R_nePN rfl rfl) rfl rfl rfl ?_ | refine L_val (R_neI rfl rfl) rfl rfl rfl ?_ | refine L_val (R_neB rfl rfl) rfl rfl rfl ?_ | refine L_val (R_neIfN rfl rfl) rfl rfl rfl ?_ | refine L_val (R_neIfNN rfl) rfl rfl rfl ?_) | (refine cL_lss ?_; refine L_val (R_ltI rfl rfl) rfl rfl rfl ?_) | (refine cL_makeInterface ?_; refine L_val R_mkI rfl rfl rfl ?_) | (refine cL_add ?_; refine L_val (R_addI rfl rfl) rfl rfl rfl ?_) | (refine cL_gtr ?_; refine L_val (R_gtI rfl rfl) rfl rfl rfl ?_) | refine L_nil ?_) | refine G_seq ?_ | refine G_region ?_ | refine G_skip ?_ | refine G_block ?_ | refine G_end ?_ | refine G_true rfl ?_ | refine G_false rfl ?_); exact k_.out) : G := h ⟨k⟩

theorem notUnder {s : ByteArray} (h : capital s) : (!(s.toList == (⟨#[95]⟩ : ByteArray).toList)) = true := by
  obtain ⟨u, h1, h2, h3⟩ := h
  rw [h1, ByteArray.toList_eq]
  have : u ≠ 95 := fun h => by rw [h] at h3; exact absurd h3 (by decide)
  simp [this]

theorem ne_of_beqB {a b : ByteArray} (h : beqB a b = false) : (a == b) = false := by
  cases hh : (a == b) with
  | false => rfl
  | true =>
    have e : a = b := by
      cases a with
      | mk x =>
        cases b with
        | mk y =>
          have hxy : (x == y) = true := hh
          rw [eq_of_beq hxy]
    subst e
    simp [beqB] at h

def FieldSl (H : Hp) (nms : List ByteArray) (vs : List Value) (p : Option Addr) (cap : Nat) : Prop := (p = none ∧ cap = 0 ∧ nms = [] ∧ vs = []) ∨ VarSl H nms vs (.slice p vs.length cap)

theorem newStruct_any {H : Hp} {nms : List ByteArray} {vs : List Value} {p : Option Addr} {cap : Nat} (w : World) (hA : Agree H w) (hp : Props H) (hsl : FieldSl H nms vs p cap) (hlen : nms.length = vs.length) (hcap : ∀ s ∈ nms, capital s)
    (hdis : ∀ (i j : Nat) (a b : ByteArray), i < j → nms[i]? = some a → nms[j]? = some b → beqB b a = false) (hbd : vs.length < 9223372036854775808) :
    Calls Tryz.prog 47 #[.slice p vs.length cap, .slice none 0 0] w (Ret fun r w' => ∃ b H' sl', r = ptr b ∧ Grow H w H' w' ∧ H' b = some (Ob [sl', .slice none 0 0] 184) ∧ VarSl H' nms vs sl') := by
  have hgt : decide (((0 : Nat) : Int) > (vs.length : Int)) = false := decide_eq_false (by omega)
  (refine calls_enter Tryz.func47 Tryz.ntmps47 rfl rfl ?_)
  (refine r69 ?_)
  refine L_allocZ (cs := [.map none]) rfl rfl rfl fun m w1 hn1 => ?_
  (refine r69 ?_)
  refine G_loop (fun f ds0 w0 => ds0 = [] ∧ ∃ (f0 : Fm) (i : Nat), f = with_ [(11, .int .i64 (i : Int)), (10, .int .i64 (vs.length : Int)), (9, .slice p vs.length cap), (5, ptr m), (0, .slice p vs.length cap), (1, .slice none 0 0)] f0 ∧ i ≤ vs.length ∧ Ext (fun k => w.heap.size ≤ k) w w0 ∧ SetIs w0 w.heap.size m (nms.take i)) (fun f _ _ => countM 11 10 f)
    ⟨rfl, _, 0, with_self ⟨rfl, rfl, rfl, rfl, rfl, rfl, trivial⟩, Nat.zero_le _, hn1.ext.of_no, by rw [hn1.fresh]; exact Nat.le_refl _, none, hn1.here, .inl ⟨rfl, rfl⟩⟩ ?_
  rintro f ds wr ⟨rfl, f0, i, rfl, hi, hext, hset⟩
  have hx0 : Ext No w wr := hext.mono fun k hk hm => by omega
  have hAr := hA.ext0 hx0
  by_cases h : i < vs.length
  · have hb : decide ((i : Int) < (vs.length : Int)) = true := decide_eq_true (by omega)
    obtain ⟨v, hv⟩ : ∃ v, vs[i]? = some v := ⟨_, List.getElem?_eq_getElem h⟩
    rcases hsl with ⟨_, _, _, rfl⟩ | ⟨b1, cap1, xs, hpe, h2, h3⟩
    · simp at h
    injection hpe with hpe _ _
    subst hpe
    obtain ⟨nm, av, pos, pkg, kd, n1, n2, n3⟩ := h3.get hv
    have hcn : capital nm := hcap _ (List.mem_of_getElem? n1)
    have hfresh : ∀ k ∈ nms.take i, (nm == k) = false := fun k hk => by
      obtain ⟨j, hj⟩ := List.mem_iff_getElem?.1 hk
      have hji : j < i := by
        have := (List.getElem?_eq_some_iff.1 hj).1
        rw [List.length_take] at this
        omega
      rw [List.getElem?_take, if_pos hji] at hj
      exact ne_of_beqB (hdis j i k nm hji hj n1)
    have hins := insert_any wr hAr hp hcn n3 hset hext.size hfresh
    (repeat (first | (refine cL ?_; first | (refine cL_guard ?_; refine L_unwanted rfl rfl rfl ?_) | (refine cL_load ?_; refine L_val (R_loadH hAr rfl h2 n2) rfl rfl rfl ?_) | (refine cL_neq ?_; refine L_valB (R_neS rfl rfl) (notUnder hcn) rfl rfl rfl ?_) | (refine cL_lss ?_; refine L_valB (R_ltI rfl rfl) hb rfl rfl rfl ?_) | (refine cL_indexAddr ?_; refine L_valE (R_ia rfl rfl (by omega) (by omega)) (ia0 _ _) rfl rfl rfl ?_)) | refine r70 ?_))
    refine L_callR hins rfl rfl fun v2 w2 ⟨hv2, hset2, x2⟩ => ?_
    subst hv2
    have htk : nms.take i ++ [nm] = nms.take (i + 1) := by rw [List.take_add_one, n1]; rfl
    rw [htk] at hset2
    (repeat (first | (refine cL ?_; first | (refine cL_guard ?_; refine L_unwanted rfl rfl rfl ?_) | (refine cL_add ?_; refine L_valE (R_addI rfl rfl) (succ_i64 h hbd) rfl rfl rfl ?_)) | refine r70 ?_))
    refine G_inv ⟨⟨rfl, _, i + 1, with_self ⟨rfl, rfl, rfl, rfl, rfl, rfl, trivial⟩, h, hext.trans x2, hset2⟩, ?_⟩
    show ((vs.length : Int) - ((i + 1 : Nat) : Int)).toNat < ((vs.length : Int) - (i : Int)).toNat
    omega
  · have hb : decide ((i : Int) < (vs.length : Int)) = false := decide_eq_false (by omega)
    clear hset hext
    (repeat (first | (refine cL ?_; first | (refine cL_guard ?_; refine L_unwanted rfl rfl rfl ?_) | (refine cL_lss ?_; refine L_valB (R_ltI rfl rfl) hb rfl rfl rfl ?_) | (refine cL_gtr ?_; refine L_valB (R_gtI rfl rfl) hgt rfl rfl rfl ?_) | (refine cL_build ?_; refine L_val (R_build (cs := [.slice p vs.length cap, .slice none 0 0]) rfl) rfl rfl rfl ?_)) | refine G_exit rfl ?_ | refine r70 ?_))
    refine L_box rfl rfl rfl fun b w2 hn2 => ?_
    rcases hsl with ⟨rfl, rfl, rfl, rfl⟩ | ⟨b1, cap1, xs, hpe, h2, h3⟩
    · (refine r69 ?_)
      refine L_callR (markComplete_nil w2 hn2.here) rfl rfl fun v3 w3 ⟨hv3, e, he, hee, hbb, x3⟩ => ?_
      subst hv3
      (refine r69 ?_)
      (refine G_retF rfl ?_)
      have hf2 := hn2.fresh
      have hs0 := hx0.size
      have xx : Ext No w w3 := (hx0.trans hn2.ext).trans_new x3 fun k hk hm => by omega
      have := hn2.ext.size
      obtain ⟨He, ge, -, hHe⟩ := (Grow.quiet hA xx).add hee (by omega)
      obtain ⟨Hb, gb, leb, hHb⟩ := ge.add hbb (by omega)
      exact ⟨_, rfl, b, Hb, _, rfl, gb, hHb, e, 0, [], rfl, leb _ _ hHe, trivial⟩
    · injection hpe with hpe _ hcp
      subst hpe
      (refine r69 ?_)
      refine L_callR (markComplete_some w2 hn2.here) rfl rfl fun v3 w3 ⟨hv3, hw3⟩ => ?_
      subst hv3
      subst hw3
      (refine r69 ?_)
      (refine G_retF rfl ?_)
      have hf2 := hn2.fresh
      have hs0 := hx0.size
      obtain ⟨Hb, gb, leb, hHb⟩ := (Grow.quiet hA (hx0.trans hn2.ext)).add hn2.here (by omega)
      exact ⟨_, rfl, b, Hb, _, rfl, gb, hHb, b1, cap, xs, rfl, leb _ _ h2, h3.mono leb⟩
end Go.Proofs.YtjilnjifegeceaaGreatDoor

/-
  Lists of parameters: the thin package's 'tuple'.
-/
namespace Go.Proofs.YtjilnjifegeceaaGreatDoor
set_option maxRecDepth 100000
set_option maxHeartbeats 4000000
attribute [local irreducible] Calls execOp

theorem r71 {G G' : Prop} (k : G') (h : Hid G' → G := by intro k_; (repeat (first | (refine cL ?_; first | (refine cL_move ?_; refine L_val R_move rfl rfl rfl ?_) | (refine cL_load ?_; first | refine L_val (R_loadB rfl (by assumption) (by rfl)) rfl rfl rfl ?_ | refine L_val (R_loadH (by assumption) rfl (by assumption) (by rfl)) rfl rfl rfl ?_) | (refine cL_fieldAddr ?_; refine L_val (R_fa rfl) rfl rfl rfl ?_) | (refine cL_nilCheck ?_; refine L_val (R_nil rfl) rfl rfl rfl ?_) | (refine cL_assign ?_; refine L_val R_assign rfl rfl rfl ?_) | (refine cL_call ?_; refine L_val (R_len rfl) rfl rfl rfl ?_) | (refine cL_lss ?_; refine L_val (R_ltI rfl rfl) rfl rfl rfl ?_) | (refine cL_add ?_; refine L_val (R_addI rfl rfl) rfl rfl rfl ?_) | refine L_nil ?_) | refine G_seq ?_ | refine G_region ?_ | refine G_skip ?_ | refine G_block ?_ | refine G_end ?_ | refine G_true rfl ?_ | refine G_false rfl ?_)); exact k_.out) : G := h ⟨k⟩
theorem r72 {G G' : Prop} (k : G') (h : Hid G' → G := by intro k_; (first | (refine cL ?_; first | (refine cL_move ?_; refine L_val R_move rfl rfl rfl ?_) | (refine cL_load ?_; first | refine L_val (R_loadB rfl (by assumption) (by rfl)) rfl rfl rfl ?_ | refine L_val (R_loadH (by assumption) rfl (by assumption) (by rfl)) rfl rfl rfl ?_) | (refine cL_fieldAddr ?_; refine L_val (R_fa rfl) rfl rfl rfl ?_) | (refine cL_nilCheck ?_; refine L_val (R_nil rfl) rfl rfl rfl ?_) | (refine cL_assign ?_; refine L_val R_assign rfl rfl rfl ?_) | (refine cL_call ?_; refine L_val (R_len rfl) rfl rfl rfl ?_) | (refine cL_lss ?_; refine L_val (R_ltI rfl rfl) rfl rfl rfl ?_) | (refine cL_add ?_; refine L_val (R_addI rfl rfl) rfl rfl rfl ?_) | refine L_nil ?_) | refine G_seq ?_ | refine G_region ?_ | refine G_skip ?_ | refine G_block ?_ | refine G_end ?_ | refine G_true rfl ?_ | refine G_false rfl ?_); exact k_.out) : G := h ⟨k⟩

/-- a slice of types: each value lies where the slice says -/
def SlAt (H : Hp) (vs : List Value) (p : Option Addr) : Prop := ∀ (i : Nat) (v : Value), vs[i]? = some v → (∃ T x, v = .iface T x) ∧ ∃ g off cs T, p = some ⟨g, off, none⟩ ∧ H g = some (Ob cs T) ∧ lget cs (off + i) = some v

theorem VarsIs.snoc {H : Hp} {nm : ByteArray} {v x : Value} (hv : VarIs H nm v x) : ∀ {nms : List ByteArray} {vs xs : List Value}, VarsIs H nms vs xs → nms.length = vs.length → xs.length = vs.length → VarsIs H (nms ++ [nm]) (vs ++ [v]) (xs ++ [x])
  | [], [], [], _, _, _ => ⟨hv, trivial⟩
  | n :: nms, v' :: vs, x' :: xs, ⟨h1, h2⟩, hn, hx => ⟨h1, VarsIs.snoc hv h2 (by simpa using hn) (by simpa using hx)⟩
  | [], _ :: _, _, _, hn, _ => by simp at hn
  | _ :: _, [], _, _, hn, _ => by simp at hn
  | [], [], _ :: _, _, _, hx => by simp at hx
  | _ :: _, _ :: _, [], _, _, hx => by simp at hx
theorem VarsIs.more {H : Hp} {r : List Value} : ∀ {nms : List ByteArray} {vs xs : List Value}, VarsIs H nms vs xs → VarsIs H nms vs (xs ++ r)
  | nms, [], xs, _ => by cases nms <;> cases xs <;> cases r <;> trivial
  | [], _ :: _, xs, h => by cases xs <;> exact h.elim
  | _ :: _, _ :: _, [], h => h.elim
  | n :: nms, v :: vs, x :: xs, ⟨h1, h2⟩ => ⟨h1, VarsIs.more h2⟩

theorem iaO (b off i : Nat) : (Value.pointer (some ⟨b, off + ((i : Nat) : Int).toNat * 1, none⟩)) = .pointer (some ⟨b, off + i, none⟩) := by simp

theorem tuple_any {H : Hp} {vs : List Value} {p : Option Addr} {cap bB : Nat} {vd v2 v3 : Value} {pk : Option Addr} (w : World) (hA : Agree H w) (hb : w.heap[bB]? = some (Ob [vd, .pointer pk, v2, v3] 71)) (hsl : SlAt H vs p) (hbd : vs.length * 8 ≤ 140737488351232) :
    Calls Tryz.prog 49 #[ptr bB, .slice p vs.length cap] w (Ret fun r w' => ∃ H', Grow H w H' w' ∧ TupIs H' vs r) := by
  (refine calls_enter Tryz.func49 Tryz.ntmps49 rfl rfl ?_)
  (refine r71 ?_)
  refine G_loop (fun f ds0 w0 => ds0 = [] ∧ ∃ (f0 : Fm) (i : Nat) (va : Value) (xs : List Value) (Hi : Hp), f = with_ [(10, .int .i64 (i : Int)), (9, .int .i64 (vs.length : Int)), (8, .slice p vs.length cap), (0, ptr bB), (5, va)] f0 ∧ i ≤ vs.length ∧ Grow H w Hi w0 ∧ OwnS w0 108 va xs ∧
      (∀ g, va.ownBlock = some g → Hi g = none ∧ w.heap.size ≤ g) ∧ xs.length = i ∧ VarsIs Hi (noNames (vs.take i)) (vs.take i) xs ∧ (i = 0 → va = .slice none 0 0)) (fun f _ _ => countM 10 9 f)
    ⟨rfl, _, 0, .slice none 0 0, [], H, with_self ⟨rfl, rfl, rfl, rfl, rfl, trivial⟩, Nat.zero_le _, Grow.refl hA, .inl ⟨rfl, rfl⟩, (fun g hg => by cases hg), rfl, trivial, fun _ => rfl⟩ ?_
  rintro f ds wr ⟨rfl, f0, i, va, xs, Hi, rfl, hi, gr, hown, hob, hxl, hvars, hnil⟩
  by_cases h : i < vs.length
  · have hbt : decide ((i : Int) < (vs.length : Int)) = true := decide_eq_true (by omega)
    obtain ⟨v, hv⟩ : ∃ v, vs[i]? = some v := ⟨_, List.getElem?_eq_getElem h⟩
    obtain ⟨⟨T, x, rfl⟩, g, off, cs, T', rfl, hg, hgv⟩ := hsl i v hv
    have hAr := gr.ag
    have hg' := gr.le _ _ hg
    have hbr := gr.ext.heap (fun h => h) hb
    (repeat (first | (refine cL ?_; first | (refine cL_load ?_; refine L_val (R_loadH hAr rfl hg' hgv) rfl rfl rfl ?_) | (refine cL_lss ?_; refine L_valB (R_ltI rfl rfl) hbt rfl rfl rfl ?_) | (refine cL_indexAddr ?_; refine L_valE (R_ia rfl rfl (by omega) (by omega)) (iaO _ _ _) rfl rfl rfl ?_)) | refine r72 ?_))
    refine L_callR (newParam_any 0 pk ⟨#[]⟩ T x wr) rfl rfl fun v4 w4 ⟨av, hv4, hn4⟩ => ?_
    subst hv4
    refine L_buildSlice (vs := [ptr av]) rfl rfl rfl rfl rfl rfl fun b5 w5 hn5 => ?_
    have hown5 := (hown.ext hn4.ext (fun _ _ h => h)).ext hn5.ext (fun _ _ h => h)
    refine L_push (v := va) (u := ptr av) rfl hown5 rfl hn5.here rfl (by omega) (by simp only [maxLen]; omega) rfl rfl fun va' w6 hpu => ?_
    (repeat (first | (refine cL ?_; first | (refine cL_add ?_; refine L_valE (R_addI rfl rfl) (succ_i64 h (by omega)) rfl rfl rfl ?_)) | refine r72 ?_))
    obtain ⟨H4, g4, hav⟩ := Grow.ofNew hAr hn4
    have hlt4 : ∀ b o, va.ownBlock = some b → H4 b = some o → False := fun b o hvb hb4 => by
      have h1 := hown.lt b hvb
      rcases g4.new b o hb4 with h2 | h2
      · rw [(hob b hvb).1] at h2; cases h2
      · omega
    have gA := gr.trans g4
    have hA5 : Agree H4 w5 := gA.ag.ext0 hn5.ext
    have hA6 : Agree H4 w6 := hA5.ext hpu.ext fun b o hb hm => hlt4 b o hm.symm hb
    have hx5 : Ext No w w5 := gA.ext.trans hn5.ext
    have gB : Grow H w H4 w6 := ⟨gA.le, hA6, gA.new, hx5.trans_new hpu.ext fun k hk hm => by have := (hob k hm.symm).2; omega⟩
    have hob6 : ∀ g, va'.ownBlock = some g → H4 g = none ∧ w.heap.size ≤ g := fun g hg6 => by
      rcases hpu.blk with hbk | hbk
      · rw [hbk] at hg6
        refine ⟨?_, (hob g hg6).2⟩
        cases hh : H4 g with
        | none => rfl
        | some o => exact (hlt4 g o hg6 hh).elim
      · rw [hbk] at hg6
        injection hg6 with hg6
        have := hx5.size
        refine ⟨?_, by omega⟩
        cases hh : H4 g with
        | none => rfl
        | some o => have := hA5.lt hh; omega
    have htk : vs.take (i + 1) = vs.take i ++ [.iface T x] := by rw [List.take_add_one, hv]; rfl
    have hl1 : (vs.take i).length = i := by rw [List.length_take]; omega
    have hvars6 : VarsIs H4 (noNames (vs.take (i + 1))) (vs.take (i + 1)) (xs ++ [ptr av]) := by
      rw [htk]
      have hm : noNames (vs.take i ++ [.iface T x]) = noNames (vs.take i) ++ [⟨#[]⟩] := by simp [noNames]
      rw [hm]
      exact VarsIs.snoc ⟨av, _, _, _, rfl, hav⟩ (hvars.mono g4.le) (by simp [noNames]) (by rw [hl1]; exact hxl)
    refine G_inv ⟨⟨rfl, _, i + 1, va', xs ++ [ptr av], H4, with_self ⟨rfl, rfl, rfl, rfl, rfl, trivial⟩, h, gB, hpu.own, hob6, by simp [hxl], hvars6, fun h0 => by omega⟩, ?_⟩
    show ((vs.length : Int) - ((i + 1 : Nat) : Int)).toNat < ((vs.length : Int) - (i : Int)).toNat
    omega
  · have hbt : decide ((i : Int) < (vs.length : Int)) = false := decide_eq_false (by omega)
    have hil : i = vs.length := by omega
    have htk : vs.take i = vs := by rw [hil]; exact List.take_length
    rw [htk] at hvars
    (repeat (first | (refine cL ?_; first | (refine cL_lss ?_; refine L_valB (R_ltI rfl rfl) hbt rfl rfl rfl ?_)) | refine G_exit rfl ?_ | refine r72 ?_))
    by_cases h0 : i = 0
    · have hva := hnil h0
      subst hva
      refine L_callI (newTuple_nil wr) rfl rfl ?_
      (refine r71 ?_)
      (refine G_retF rfl ?_)
      refine ⟨_, rfl, Hi, gr, .inl ⟨rfl, ?_⟩⟩
      exact List.length_eq_zero_iff.1 (by omega)
    · rcases hown with ⟨_, rfl⟩ | ⟨g, c, r, rfl, hg, hgl⟩
      · simp at hxl; omega
      · refine L_callR (newTuple_some (some ⟨g, 0, none⟩) xs.length c wr (by omega)) rfl rfl fun v5 w5 ⟨b, hv5, hn5⟩ => ?_
        subst hv5
        (refine r71 ?_)
        (refine G_retF rfl ?_)
        have hg5 := hn5.ext.heap (fun h => h) hg
        have gq : Grow H w Hi w5 := gr.trans (Grow.quiet gr.ag hn5.ext)
        obtain ⟨Hg, gg, leg, hHg⟩ := gq.add hg5 (hob g rfl).2
        have hf5 := hn5.fresh
        have hs5 := gr.ext.size
        obtain ⟨Hb, gb, leb, hHb⟩ := gg.add hn5.here (by omega)
        refine ⟨_, rfl, Hb, gb, .inr ⟨b, _, rfl, hHb, ⟨g, c, xs ++ r, by rw [hxl, hil], leb _ _ hHg, (hvars.mono (Hp.le_trans leg leb)).more⟩, ?_⟩⟩
        intro hvs
        rw [hvs] at hil
        exact h0 hil
end Go.Proofs.YtjilnjifegeceaaGreatDoor

/-
  Function types without a variadic parameter.
-/
namespace Go.Proofs.YtjilnjifegeceaaGreatDoor
set_option maxRecDepth 100000
set_option maxHeartbeats 4000000
attribute [local irreducible] Calls execOp

theorem r73 {G G' : Prop} (k : G') (h : Hid G' → G := by intro k_; (first | (refine cL ?_; first | (refine cL_guard ?_; refine L_unwanted rfl rfl rfl ?_) | (refine cL_move ?_; refine L_val R_move rfl rfl rfl ?_) | (refine cL_load ?_; first | refine L_val (R_loadB rfl (by assumption) (by rfl)) rfl rfl rfl ?_ | refine L_val (R_loadH (by assumption) rfl (by assumption) (by rfl)) rfl rfl rfl ?_) | (refine cL_fieldAddr ?_; refine L_val (R_fa rfl) rfl rfl rfl ?_) | (refine cL_nilCheck ?_; refine L_val (R_nil rfl) rfl rfl rfl ?_) | (refine cL_assign ?_; refine L_val R_assign rfl rfl rfl ?_) | (refine cL_extract ?_; refine L_val (R_extract rfl rfl) rfl rfl rfl ?_) | (refine cL_typeAssert ?_; first | refine L_val (R_taY rfl) rfl rfl rfl ?_ | refine L_val (R_taN rfl rfl) rfl rfl rfl ?_ | refine L_val (R_taNil rfl) rfl rfl rfl ?_) | (refine cL_pick ?_; first | refine L_val (R_pickT rfl) rfl rfl rfl ?_ | refine L_val (R_pickF rfl) rfl rfl rfl ?_) | (refine cL_eql ?_; first | refine L_val (R_eqPN rfl rfl) rfl rfl rfl ?_ | refine L_val (R_eqI rfl rfl) rfl rfl rfl ?_ | refine L_val (R_eqB rfl rfl) rfl rfl rfl ?_ | refine L_val (R_eqIfN rfl rfl) rfl rfl rfl ?_ | refine L_val (R_eqIfNN rfl) rfl rfl rfl ?_) | (refine cL_makeInterface ?_; refine L_val R_mkI rfl rfl rfl ?_) | (refine cL_not ?_; refine L_val (R_not rfl) rfl rfl rfl ?_) | (refine cL_sub ?_; refine L_val (R_subI rfl rfl) rfl rfl rfl ?_) | refine L_nil ?_) | refine G_seq ?_ | refine G_region ?_ | refine G_skip ?_ | refine G_block ?_ | refine G_end ?_ | refine G_true rfl ?_ | refine G_false rfl ?_); exact k_.out) : G := h ⟨k⟩
theorem r74 {G G' : Prop} (k : G') (h : Hid G' → G := by intro k_; (repeat (first | (refine cL ?_; first | (refine cL_guard ?_; refine L_unwanted rfl rfl rfl ?_) | (refine cL_move ?_; refine L_val R_move rfl rfl rfl ?_) | (refine cL_load ?_; first | refine L_val (R_loadB rfl (by assumption) (by rfl)) rfl rfl rfl ?_ | refine L_val (R_loadH (by assumption) rfl (by assumption) (by rfl)) rfl rfl rfl ?_) | (refine cL_fieldAddr ?_; refine L_val (R_fa rfl) rfl rfl rfl ?_) | (refine cL_nilCheck ?_; refine L_val (R_nil rfl) rfl rfl rfl ?_) | (refine cL_assign ?_; refine L_val R_assign rfl rfl rfl ?_) | (refine cL_extract ?_; refine L_val (R_extract rfl rfl) rfl rfl rfl ?_) | (refine cL_typeAssert ?_; first | refine L_val (R_taY rfl) rfl rfl rfl ?_ | refine L_val (R_taN rfl rfl) rfl rfl rfl ?_ | refine L_val (R_taNil rfl) rfl rfl rfl ?_) | (refine cL_pick ?_; first | refine L_val (R_pickT rfl) rfl rfl rfl ?_ | refine L_val (R_pickF rfl) rfl rfl rfl ?_) | (refine cL_eql ?_; first | refine L_val (R_eqPN rfl rfl) rfl rfl rfl ?_ | refine L_val (R_eqI rfl rfl) rfl rfl rfl ?_ | refine L_val (R_eqB rfl rfl) rfl rfl rfl ?_ | refine L_val (R_eqIfN rfl rfl) rfl rfl rfl ?_ | refine L_val (R_eqIfNN rfl) rfl rfl rfl ?_) | (refine cL_makeInterface ?_; refine L_val R_mkI rfl rfl rfl ?_) | (refine cL_not ?_; refine L_val (R_not rfl) rfl rfl rfl ?_) | (refine cL_sub ?_; refine L_val (R_subI rfl rfl) rfl rfl rfl ?_) | refine L_nil ?_) | refine G_seq ?_ | refine G_region ?_ | refine G_skip ?_ | refine G_block ?_ | refine G_end ?_ | refine G_true rfl ?_ | refine G_false rfl ?_)); exact k_.out) : G := h ⟨k⟩
theorem r75 {G G' : Prop} (k : G') (h : Hid G' → G := by intro k_; (first | (refine cL ?_; first | (refine cL_guard ?_; refine L_unwanted rfl rfl rfl ?_) | (refine cL_move ?_; refine L_val R_move rfl rfl rfl ?_) | (refine cL_load ?_; first | refine L_val (R_loadB rfl (by assumption) (by rfl)) rfl rfl rfl ?_ | refine L_val (R_loadH (by assumption) rfl (by assumption) (by rfl)) rfl rfl rfl ?_) | (refine cL_fieldAddr ?_; refine L_val (R_fa rfl) rfl rfl rfl ?_) | (refine cL_nilCheck ?_; refine L_val (R_nil rfl) rfl rfl rfl ?_) | (refine cL_assign ?_; refine L_val R_assign rfl rfl rfl ?_) | (refine cL_extract ?_; refine L_val (R_extract rfl rfl) rfl rfl rfl ?_) | (refine cL_typeAssert ?_; first | refine L_val (R_taY rfl) rfl rfl rfl ?_ | refine L_val (R_taN rfl rfl) rfl rfl rfl ?_ | refine L_val (R_taNil rfl) rfl rfl rfl ?_) | (refine cL_pick ?_; first | refine L_val (R_pickT rfl) rfl rfl rfl ?_ | refine L_val (R_pickF rfl) rfl rfl rfl ?_) | (refine cL_neq ?_; first | refine L_val (R_nePN rfl rfl) rfl rfl rfl ?_ | refine L_val (R_neI rfl rfl) rfl rfl rfl ?_ | refine L_val (R_neB rfl rfl) rfl rfl rfl ?_ | refine L_val (R_neIfN rfl rfl) rfl rfl rfl ?_ | refine L_val (R_neIfNN rfl) rfl rfl rfl ?_) | refine L_nil ?_) | refine G_seq ?_ | refine G_region ?_ | refine G_skip ?_ | refine G_block ?_ | refine G_end ?_ | refine G_true rfl ?_ | refine G_false rfl ?_); exact k_.out) : G := h ⟨k⟩

theorem newSig_plain (px py : Option Addr) (w : World) : Calls Tryz.prog 48 #[.pointer none, .slice none 0 0, .slice none 0 0, .pointer px, .pointer py, .bool false] w (Ret (NewP [.pointer none, .pointer none, .pointer px, .pointer py, .bool false] 134 w)) := by
  (refine calls_enter Tryz.func48 Tryz.ntmps48 rfl rfl ?_)
  (repeat (first | (refine cL ?_; first | (refine cL_guard ?_; refine L_unwanted rfl rfl rfl ?_) | (refine cL_build ?_; refine L_val (R_build (cs := [.pointer none, .pointer none, .pointer px, .pointer py, .bool false]) rfl) rfl rfl rfl ?_)) | refine r73 ?_))
  refine L_box rfl rfl rfl fun b w1 hn => ?_
  (refine r74 ?_)
  (refine G_retF rfl ?_)
  exact ⟨_, rfl, b, rfl, hn⟩

theorem isBasic_slice (a : Nat) (w : World) : Calls Tryz.prog 133 #[.iface 97 (ptr a), .int .i64 32] w (Ret (Is (.bool false) w)) := by
  (refine calls_enter Tryz.func133 Tryz.ntmps133 rfl rfl ?_)
  (repeat (first | (refine cL ?_; first | (refine cL_guard ?_; refine L_unwanted rfl rfl rfl ?_) | (refine cL_call ?_; refine L_invokeI rfl (under_slice a w) rfl rfl ?_)) | refine r75 ?_))
  (refine G_retF rfl ?_)
  exact ⟨_, rfl, rfl, rfl⟩
theorem isString_slice (a : Nat) (w : World) : Calls Tryz.prog 96 #[.iface 97 (ptr a)] w (Ret (Is (.bool false) w)) := by
  (refine calls_enter Tryz.func96 Tryz.ntmps96 rfl rfl ?_)
  (repeat (first | (refine cL ?_; first | (refine cL_call ?_; refine L_callI (isBasic_slice a w) rfl rfl ?_)) | refine r32 ?_))
  (refine G_retF rfl ?_)
  exact ⟨_, rfl, rfl, rfl⟩
theorem tupleAt_any {H : Hp} {a i : Nat} {b cap : Nat} {len : Nat} {xs : List Value} {x : Value} (w : World) (hA : Agree H w) (h : H a = some (Ob [.slice (some ⟨b, 0, none⟩) len cap] 194)) (hb : H b = some (Ob xs 108)) (hi : i < len) (hx : lget xs i = some x) :
    Calls Tryz.prog 94 #[ptr a, .int .i64 (i : Int)] w (Ret (Is x w)) := by
  (refine calls_enter Tryz.func94 Tryz.ntmps94 rfl rfl ?_)
  (repeat (first | (refine cL ?_; first | (refine cL_load ?_; refine L_val (R_loadH hA rfl hb hx) rfl rfl rfl ?_) | (refine cL_indexAddr ?_; refine L_valE (R_ia rfl rfl (by omega) (by omega)) (ia0 _ _) rfl rfl rfl ?_)) | refine r12 ?_))
  (refine G_retF rfl ?_)
  exact ⟨_, rfl, rfl, rfl⟩
end Go.Proofs.YtjilnjifegeceaaGreatDoor

/-
  Types in the place of a declaration's own type parameters. Plain Lean.
-/
namespace Go.Proofs.YtjilnjifegeceaaGreatDoor

def Ty.setNm (t : Ty) (s : ByteArray) : Ty := match t with | .mk k n c b _ es => .mk k n c b s es

mutual
def substT (ts : List Ty) : Ty → Ty
  | .mk k n c b nm es => if k = 3 then ((ts[n.toNat]?).getD (.mk k n c b nm es)).setNm nm else .mk k n c b nm (substL ts es)
def substL (ts : List Ty) : List Ty → List Ty
  | [] => []
  | e :: es => substT ts e :: substL ts es
end

theorem setNm_nm (t : Ty) (s : ByteArray) : (t.setNm s).nm = s := by cases t; rfl
theorem substT_nm (ts : List Ty) (t : Ty) : (substT ts t).nm = t.nm := by
  cases t
  unfold substT
  split
  · rw [setNm_nm]; rfl
  · rfl
theorem substL_nm (ts : List Ty) : ∀ es : List Ty, (substL ts es).map Ty.nm = es.map Ty.nm
  | [] => rfl
  | e :: es => by simp only [substL, List.map_cons, substT_nm, substL_nm ts es]
theorem substL_len (ts : List Ty) : ∀ es : List Ty, (substL ts es).length = es.length
  | [] => rfl
  | e :: es => by simp only [substL, List.length_cons, substL_len ts es]
theorem rep_setNm {E : Env} {H : Hp} {t : Ty} {s : ByteArray} {v : Value} (h : Rep E H t v) : Rep E H (t.setNm s) v := by
  cases t
  simp only [Rep, Ty.setNm] at h ⊢
  exact h

theorem headB_noOwn {ds : List (Int × Ty)} {k n c : Int} {b : Bool} {es : List Ty} {params : Int} (h : headB ds k n c b es params 0 = true) : k ≠ 3 := by
  intro hk
  subst hk
  simp only [headB, Bool.and_eq_true, Bool.not_eq_true'] at h
  have h4 := h.2.1
  have hl : limitL ds.length 3 params 0 = 0 := by simp [limitL]
  rw [hl] at h4
  simp [head4] at h4
  omega

theorem substL_id {ts : List Ty} : ∀ {es : List Ty}, (∀ e ∈ es, substT ts e = e) → substL ts es = es
  | [], _ => rfl
  | e :: es, h => by
    simp only [substL]
    rw [h e List.mem_cons_self, substL_id fun x hx => h x (List.mem_cons_of_mem _ hx)]

theorem substT_closed {ds : List (Int × Ty)} {params : Int} {ts : List Ty} : ∀ t : Ty, shapedB ds params 0 t = true → substT ts t = t := by
  refine Ty.ind fun k n c b nm es ih h => ?_
  have hk : k ≠ 3 := headB_noOwn (shaped_head h)
  unfold substT
  rw [if_neg hk, substL_id fun e he => ih e he (shaped_part h he)]
end Go.Proofs.YtjilnjifegeceaaGreatDoor

/-
  The law's guard on sizes.
-/
namespace Go.Proofs.YtjilnjifegeceaaGreatDoor
set_option maxRecDepth 100000
set_option maxHeartbeats 4000000
attribute [local irreducible] Calls execOp

theorem r76 {G G' : Prop} (k : G') (h : Hid G' → G := by intro k_; (repeat (first | (refine cL ?_; first | (refine cL_load ?_; first | refine L_val (R_loadB rfl (by assumption) (by rfl)) rfl rfl rfl ?_ | refine L_val (R_loadH (by assumption) rfl (by assumption) (by rfl)) rfl rfl rfl ?_) | (refine cL_fieldAddr ?_; refine L_val (R_fa rfl) rfl rfl rfl ?_) | (refine cL_assign ?_; refine L_val R_assign rfl rfl rfl ?_) | (refine cL_call ?_; refine L_val (R_len rfl) rfl rfl rfl ?_) | (refine cL_gtr ?_; refine L_val (R_gtI rfl rfl) rfl rfl rfl ?_) | refine L_nil ?_) | refine G_seq ?_ | refine G_region ?_ | refine G_skip ?_ | refine G_block ?_ | refine G_end ?_ | refine G_true rfl ?_ | refine G_false rfl ?_)); exact k_.out) : G := h ⟨k⟩
theorem r77 {G G' : Prop} (k : G') (h : Hid G' → G := by intro k_; (first | (refine cL ?_; first | (refine cL_load ?_; first | refine L_val (R_loadB rfl (by assumption) (by rfl)) rfl rfl rfl ?_ | refine L_val (R_loadH (by assumption) rfl (by assumption) (by rfl)) rfl rfl rfl ?_) | (refine cL_fieldAddr ?_; refine L_val (R_fa rfl) rfl rfl rfl ?_) | (refine cL_assign ?_; refine L_val R_assign rfl rfl rfl ?_) | (refine cL_call ?_; refine L_val (R_len rfl) rfl rfl rfl ?_) | (refine cL_gtr ?_; refine L_val (R_gtI rfl rfl) rfl rfl rfl ?_) | refine L_nil ?_) | refine G_seq ?_ | refine G_region ?_ | refine G_skip ?_ | refine G_block ?_ | refine G_end ?_ | refine G_true rfl ?_ | refine G_false rfl ?_); exact k_.out) : G := h ⟨k⟩

def fitsB (t : Ty) : Bool := !(decide ((t.es.length : Int) > 2147483647)) && !(decide ((t.nm.size : Int) > 2147483647))

theorem fits_any {H : Hp} {t : Ty} {cs : List Value} (w : World) (hA : Agree H w) (hx : DTy H t cs) : Calls Tryz.prog 7 #[.agg cs.toArray] w (Ret (Qt (.bool (fitsB t)) w)) := by
  obtain ⟨p, cap, rfl, -, -, -, hbd, hes⟩ := hx.cells
  unfold fitsB
  (refine calls_enter Tryz.func7 Tryz.ntmps7 rfl rfl ?_)
  (refine r76 ?_)
  refine L_box rfl rfl rfl fun b1 w1 hn1 => ?_
  obtain ⟨H1, g1, hb1⟩ := Grow.ofNew hA hn1
  have hA1 := g1.ag
  cases c1 : decide ((t.es.length : Int) > 2147483647) with
  | true =>
    (repeat (first | (refine cL ?_; first | (refine cL_gtr ?_; refine L_valB (R_gtI rfl rfl) c1 rfl rfl rfl ?_)) | refine r77 ?_))
    (refine G_retF rfl ?_)
    exact ⟨_, rfl, rfl, hn1.ext⟩
  | false =>
    cases c2 : decide ((t.nm.size : Int) > 2147483647) with
    | true =>
      (repeat (first | (refine cL ?_; first | (refine cL_call ?_; refine L_val (R_lenS rfl) rfl rfl rfl ?_) | (refine cL_gtr ?_; first | refine L_valB (R_gtI rfl rfl) c1 rfl rfl rfl ?_ | refine L_valB (R_gtI rfl rfl) c2 rfl rfl rfl ?_)) | refine r77 ?_))
      (refine G_retF rfl ?_)
      exact ⟨_, rfl, rfl, hn1.ext⟩
    | false =>
      (repeat (first | (refine cL ?_; first | (refine cL_call ?_; refine L_val (R_lenS rfl) rfl rfl rfl ?_) | (refine cL_gtr ?_; first | refine L_valB (R_gtI rfl rfl) c1 rfl rfl rfl ?_ | refine L_valB (R_gtI rfl rfl) c2 rfl rfl rfl ?_)) | refine r77 ?_))
      (refine G_retF rfl ?_)
      exact ⟨_, rfl, rfl, hn1.ext⟩
end Go.Proofs.YtjilnjifegeceaaGreatDoor

/-
  Function types with a variadic parameter: one round of a range over a function.
-/
namespace Go.Proofs.YtjilnjifegeceaaGreatDoor
set_option maxRecDepth 100000
set_option maxHeartbeats 4000000
attribute [local irreducible] Calls execOp

theorem r78 {G G' : Prop} (k : G') (h : Hid G' → G := by intro k_; (repeat (first | (refine cL ?_; first | (refine cL_move ?_; refine L_val R_move rfl rfl rfl ?_) | (refine cL_load ?_; first | refine L_val (R_loadB rfl (by assumption) (by rfl)) rfl rfl rfl ?_ | refine L_val (R_loadH (by assumption) rfl (by assumption) (by rfl)) rfl rfl rfl ?_) | refine L_nil ?_) | refine G_seq ?_ | refine G_region ?_ | refine G_skip ?_ | refine G_block ?_ | refine G_end ?_ | refine G_true rfl ?_ | refine G_false rfl ?_)); exact k_.out) : G := h ⟨k⟩
theorem r79 {G G' : Prop} (k : G') (h : Hid G' → G := by intro k_; (repeat (first | (refine cL ?_; first | (refine cL_guard ?_; refine L_unwanted rfl rfl rfl ?_) | (refine cL_move ?_; refine L_val R_move rfl rfl rfl ?_) | (refine cL_load ?_; first | refine L_val (R_loadB rfl (by assumption) (by rfl)) rfl rfl rfl ?_ | refine L_val (R_loadH (by assumption) rfl (by assumption) (by rfl)) rfl rfl rfl ?_) | (refine cL_fieldAddr ?_; refine L_val (R_fa rfl) rfl rfl rfl ?_) | (refine cL_nilCheck ?_; refine L_val (R_nil rfl) rfl rfl rfl ?_) | (refine cL_assign ?_; refine L_val R_assign rfl rfl rfl ?_) | (refine cL_extract ?_; refine L_val (R_extract rfl rfl) rfl rfl rfl ?_) | (refine cL_typeAssert ?_; first | refine L_val (R_taY rfl) rfl rfl rfl ?_ | refine L_val (R_taN rfl rfl) rfl rfl rfl ?_ | refine L_val (R_taNil rfl) rfl rfl rfl ?_) | (refine cL_pick ?_; first | refine L_val (R_pickT rfl) rfl rfl rfl ?_ | refine L_val (R_pickF rfl) rfl rfl rfl ?_) | (refine cL_eql ?_; first | refine L_val (R_eqPN rfl rfl) rfl rfl rfl ?_ | refine L_val (R_eqI rfl rfl) rfl rfl rfl ?_ | refine L_val (R_eqB rfl rfl) rfl rfl rfl ?_ | refine L_val (R_eqIfN rfl rfl) rfl rfl rfl ?_ | refine L_val (R_eqIfNN rfl) rfl rfl rfl ?_) | (refine cL_makeInterface ?_; refine L_val R_mkI rfl rfl rfl ?_) | (refine cL_not ?_; refine L_val (R_not rfl) rfl rfl rfl ?_) | (refine cL_sub ?_; refine L_val (R_subI rfl rfl) rfl rfl rfl ?_) | refine L_nil ?_) | refine GR_seq ?_ | refine GR_region rfl ?_ | refine GR_skip ?_ | refine GR_block ?_ | refine GR_end ?_ | refine GR_true rfl ?_ | refine GR_false rfl ?_)); exact k_.out) : G := h ⟨k⟩
theorem r80 {G G' : Prop} (k : G') (h : Hid G' → G := by intro k_; (first | (refine cL ?_; first | (refine cL_guard ?_; refine L_unwanted rfl rfl rfl ?_) | (refine cL_move ?_; refine L_val R_move rfl rfl rfl ?_) | (refine cL_load ?_; first | refine L_val (R_loadB rfl (by assumption) (by rfl)) rfl rfl rfl ?_ | refine L_val (R_loadH (by assumption) rfl (by assumption) (by rfl)) rfl rfl rfl ?_) | (refine cL_fieldAddr ?_; refine L_val (R_fa rfl) rfl rfl rfl ?_) | (refine cL_nilCheck ?_; refine L_val (R_nil rfl) rfl rfl rfl ?_) | (refine cL_assign ?_; refine L_val R_assign rfl rfl rfl ?_) | (refine cL_extract ?_; refine L_val (R_extract rfl rfl) rfl rfl rfl ?_) | (refine cL_typeAssert ?_; first | refine L_val (R_taY rfl) rfl rfl rfl ?_ | refine L_val (R_taN rfl rfl) rfl rfl rfl ?_ | refine L_val (R_taNil rfl) rfl rfl rfl ?_) | (refine cL_pick ?_; first | refine L_val (R_pickT rfl) rfl rfl rfl ?_ | refine L_val (R_pickF rfl) rfl rfl rfl ?_) | (refine cL_eql ?_; first | refine L_val (R_eqPN rfl rfl) rfl rfl rfl ?_ | refine L_val (R_eqI rfl rfl) rfl rfl rfl ?_ | refine L_val (R_eqB rfl rfl) rfl rfl rfl ?_ | refine L_val (R_eqIfN rfl rfl) rfl rfl rfl ?_ | refine L_val (R_eqIfNN rfl) rfl rfl rfl ?_) | (refine cL_makeInterface ?_; refine L_val R_mkI rfl rfl rfl ?_) | (refine cL_not ?_; refine L_val (R_not rfl) rfl rfl rfl ?_) | (refine cL_sub ?_; refine L_val (R_subI rfl rfl) rfl rfl rfl ?_) | refine L_nil ?_) | refine GR_seq ?_ | refine GR_region rfl ?_ | refine GR_skip ?_ | refine GR_block ?_ | refine GR_end ?_ | refine GR_true rfl ?_ | refine GR_false rfl ?_); exact k_.out) : G := h ⟨k⟩

instance : CallT Tryz.prog 131 := call_of Tryz.func131 (by kernel_rfl) (by kernel_rfl)

theorem entered {w w3 : World} {o o1 : Obj} (h : w3 = (w.alloc o).alloc o1) : w3.heap[w.heap.size + 1]? = some o1 ∧ w3.heap[w.heap.size]? = some o ∧ Ext No w w3 := by
  have h1 := newB_alloc w o
  have h2 := newB_alloc (w.alloc o) o1
  rw [← h] at h2
  have hs : (w.alloc o).heap.size = w.heap.size + 1 := by simp
  rw [hs] at h2
  exact ⟨h2.here, h2.ext.heap (fun h => h) h1.here, h1.ext.trans h2.ext⟩

theorem typeset_any (T : Nat) (x : Value) (w : World) : Calls Tryz.prog 95 #[.iface T x] w (Ret fun r w' => ∃ b, r = .func (.func 131) #[] #[ptr b] ∧ NewB w w' b (Ob [.iface T x] 60)) := by
  (refine calls_enter Tryz.func95 Tryz.ntmps95 rfl rfl ?_)
  (refine r43 ?_)
  refine L_box rfl rfl rfl fun b w1 hn => ?_
  (refine r43 ?_)
  refine L_val (R_makeFunc (xs := [.tmp 1])) rfl rfl rfl ?_
  (refine r43 ?_)
  (refine G_retF rfl ?_)
  exact ⟨_, rfl, b, rfl, hn⟩

section
variable {l sa : Nat} {fn : FuncId} {tm : Array Value} {ps : List Nat} {asg body : Code} {D : Nat} {R : World → Prop}

theorem allU_slice (w : World) (hl : w.heap[l]? = some (.loop (loopRec fn tm ps asg body D .ready none))) (hps : ps.length = 2)
    (hround : RoundIn Fence.wide 0 Tryz.prog l fn ((ps.zip [.iface 97 (ptr sa), .iface 97 (ptr sa)]).foldl (fun t (p, a) => t.setIfInBounds p a) tm) asg body w (fun e w' => e = .returned (.bool true) ∧ R w')) :
    Calls Tryz.prog 132 #[.iface 97 (ptr sa), .func (.yield l) #[] #[]] w (Ret fun _ w' => R w') := by
  (refine calls_enter Tryz.func132 Tryz.ntmps132 rfl rfl ?_)
  (repeat (first | (refine cL ?_; first | (refine cL_typeAssert ?_; refine L_val (R_taN rfl rfl) rfl rfl rfl ?_) | (refine cL_call ?_; first | refine L_callI (unalias_any _ _ _ rfl) rfl rfl ?_ | refine L_invokeI rfl (under_slice sa w) rfl rfl ?_)) | refine r0 ?_))
  refine L_yield (xs := [.tmp 19, .tmp 21]) rfl hl hps.symm hround rfl rfl fun w1 hR => ?_
  (refine r53 ?_)
  (refine G_retF rfl ?_)
  exact ⟨_, rfl, hR⟩

theorem typeset1_any {bx : Nat} (w : World) (hbx : w.heap[bx]? = some (Ob [.iface 97 (ptr sa)] 60)) (hl : w.heap[l]? = some (.loop (loopRec fn tm ps asg body D .ready none))) (hps : ps.length = 2)
    (hround : RoundIn Fence.wide 0 Tryz.prog l fn ((ps.zip [.iface 97 (ptr sa), .iface 97 (ptr sa)]).foldl (fun t (p, a) => t.setIfInBounds p a) tm) asg body w (fun e w' => e = .returned (.bool true) ∧ R w')) :
    Calls Tryz.prog 131 #[.func (.yield l) #[] #[], ptr bx] w (Ret fun _ w' => R w') := by
  (refine calls_enter Tryz.func131 Tryz.ntmps131 rfl rfl ?_)
  (refine r78 ?_)
  refine L_callR (allU_slice w hl hps hround) rfl rfl fun v w1 hR => ?_
  (refine r78 ?_)
  refine G_end0 rfl ?_
  exact ⟨_, rfl, hR⟩
end

theorem newSig_var {H : Hp} {vs : List Value} {px py : Option Addr} {sa : Nat} (w : World) (hA : Agree H w) (hx : TupIs H vs (.pointer px)) (hlast : vs[vs.length - 1]? = some (.iface 97 (ptr sa))) (hbd : vs.length < 9223372036854775808) :
    Calls Tryz.prog 48 #[.pointer none, .slice none 0 0, .slice none 0 0, .pointer px, .pointer py, .bool true] w (Ret fun r w' => ∃ b H', r = ptr b ∧ Grow H w H' w' ∧ H' b = some (Ob [.pointer none, .pointer none, .pointer px, .pointer py, .bool true] 134)) := by
  rcases hx with ⟨_, hvs⟩ | ⟨a, sl, hxe, ha, ⟨b, cap, xs, rfl, hb, hvars⟩, hne⟩
  · rw [hvs] at hlast; simp at hlast
  injection hxe with hxe
  subst hxe
  have hlen : 0 < vs.length := List.length_pos_iff.2 hne
  obtain ⟨nm, av, pos, pkg, kd, n1, n2, n3⟩ := hvars.get hlast
  have e1 : ((vs.length : Int) == 0) = false := by simp; omega
  have e2 : Value.int .i64 (IntKind.i64.wrap ((vs.length : Int) - 1)) = .int .i64 ((vs.length - 1 : Nat) : Int) := by
    rw [wrap_i64 (by omega) (by omega)]
    congr 1
    omega
  (refine calls_enter_m Tryz.func48 Tryz.ntmps48 rfl rfl ?_)
  (repeat (first | (refine cL ?_; first | (refine cL_guard ?_; refine L_unwanted rfl rfl rfl ?_) | (refine cL_call ?_; first | refine L_callI (tupLen_any w hA ha) rfl rfl ?_ | refine L_callI (tupleAt_any w hA ha hb (by omega) n2) rfl rfl ?_) | (refine cL_eql ?_; refine L_valB (R_eqI rfl rfl) e1 rfl rfl rfl ?_) | (refine cL_sub ?_; refine L_valE (R_subI rfl rfl) e2 rfl rfl rfl ?_)) | refine r73 ?_))
  refine L_allocZ (cs := [.pointer none]) rfl rfl rfl fun bS w1 hn1 => ?_
  (refine r74 ?_)
  refine L_callR (typeset_any _ _ w1) rfl rfl fun v w2 ⟨bx, hv, hn2⟩ => ?_
  subst hv
  (refine r74 ?_)
  refine G_range (lb := [ptr bx]) rfl fun fn tm hrp w3 hw3 => ?_
  obtain ⟨hl3, hD3, x3⟩ := entered hw3
  clear hw3
  have hbS3 := x3.heap (fun h => h) (hn2.ext.heap (fun h => h) hn1.here)
  have hbx3 := x3.heap (fun h => h) hn2.here
  have lS := lt_of_heap hn1.here
  have lx := hn2.fresh
  have f1 := hn1.fresh
  have s2 := hn2.size
  have h13 : Ext No w w3 := hn1.ext.trans (hn2.ext.trans x3)
  have hA3 := hA.ext0 h13
  refine (typeset1_any (R := fun w' => w'.heap[bS]? = some (Ob [ptr sa] 97) ∧ w'.heap[w2.heap.size]? = some (.deferred (some [])) ∧ w'.heap[w2.heap.size + 1]? = w3.heap[w2.heap.size + 1]? ∧ Ext (fun k => k = bS ∨ k = w2.heap.size + 1) w3 w') w3 hbx3 hl3 rfl (round_of (D := w2.heap.size) rfl hrp ?_)).mono ?_
  · (refine r79 ?_)
    refine GR_nil ⟨rfl, hl3, fun w4 o ho x4 => ?_⟩
    have hS4 := x4.heap (fun h => by omega) hbS3
    have hA4 : Agree H w4 := hA3.ext x4 fun b o hb hm => by
      have := hA.lt hb
      have := hn1.ext.size
      have := hn2.ext.size
      omega
    (repeat (first | (refine cL ?_; first | (refine cL_guard ?_; refine L_unwanted rfl rfl rfl ?_) | (refine cL_call ?_; first | refine L_callI (isString_slice sa w4) rfl rfl ?_ | refine L_invokeI rfl (under_slice sa w4) rfl rfl ?_)) | refine r80 ?_))
    refine L_store rfl hS4 rfl rfl rfl fun w5 h5 x5 s5 => ?_
    (refine r79 ?_)
    refine GR_nil ⟨rfl, x5.heap (fun h => by omega) ho, fun w6 h6 x6 => ⟨x6.heap (fun h => by omega) h5, ?_, h6, ?_⟩⟩
    · exact x6.heap (fun h => by omega) (x5.heap (fun h => by omega) (x4.heap (fun h => by omega) hD3))
    · exact (x4.mono fun _ _ h => .inr h).trans ((x5.mono fun _ _ h => .inl h).trans (x6.mono fun _ _ h => .inr h))
  · rintro e w4 ⟨v, he, hR1, hR2, hR3, hR4⟩
    refine ⟨⟨v, he⟩, hR3.trans hl3, fun w5 x5 => ?_⟩
    have h5 := x5.heap (fun h => by omega) hR1
    have hD5 := x5.heap (fun h => by omega) hR2
    have sD := lt_of_heap hD3
    (repeat (first | (refine cL ?_; first | (refine cL_guard ?_; refine L_unwanted rfl rfl rfl ?_) | (refine cL_build ?_; refine L_val (R_build (cs := [.pointer none, .pointer none, .pointer (some ⟨a, 0, none⟩), .pointer py, .bool true]) rfl) rfl rfl rfl ?_)) | refine r73 ?_))
    refine L_box rfl rfl rfl fun r w6 hn6 => ?_
    (refine r74 ?_)
    refine G_retM1 rfl (hn6.ext.heap (fun h => h) hD5) ?_
    have x6 : Ext No w w6 := ((h13.trans_new hR4 fun k hk hm => by have := hn1.ext.size; have := hn2.ext.size; omega).trans_new x5 fun k hk hm => by have := hn1.ext.size; have := hn2.ext.size; omega).trans hn6.ext
    have x7 : Ext No w (w6.putObj w2.heap.size (.deferred none)) := x6.trans_new (Ext.putObj _) fun k hk hm => by have := hn1.ext.size; have := hn2.ext.size; omega
    have z3 := hR4.size
    have z5 := x5.size
    have f6 := hn6.fresh
    obtain ⟨H', g', -, hH'⟩ := (Grow.quiet hA x7).add ((Ext.putObj (.deferred none)).heap (fun h => by omega) hn6.here) (by have := h13.size; omega)
    exact ⟨_, rfl, r, H', rfl, g', hH'⟩
end Go.Proofs.YtjilnjifegeceaaGreatDoor

/-
  The thin package's 'typ' and 'all': what is asked, what is shown; 'all'.
-/
namespace Go.Proofs.YtjilnjifegeceaaGreatDoor
set_option maxRecDepth 100000
set_option maxHeartbeats 4000000

theorem r81 {G G' : Prop} (k : G') (h : Hid G' → G := by intro k_; (repeat (first | (refine cL ?_; first | (refine cL_move ?_; refine L_val R_move rfl rfl rfl ?_) | (refine cL_load ?_; first | refine L_val (R_loadB rfl (by assumption) (by rfl)) rfl rfl rfl ?_ | refine L_val (R_loadH (by assumption) rfl (by assumption) (by rfl)) rfl rfl rfl ?_) | (refine cL_assign ?_; refine L_val R_assign rfl rfl rfl ?_) | (refine cL_call ?_; refine L_val (R_len rfl) rfl rfl rfl ?_) | (refine cL_lss ?_; refine L_val (R_ltI rfl rfl) rfl rfl rfl ?_) | (refine cL_add ?_; refine L_val (R_addI rfl rfl) rfl rfl rfl ?_) | refine L_nil ?_) | refine G_seq ?_ | refine G_region ?_ | refine G_skip ?_ | refine G_block ?_ | refine G_end ?_ | refine G_true rfl ?_ | refine G_false rfl ?_)); exact k_.out) : G := h ⟨k⟩
theorem r82 {G G' : Prop} (k : G') (h : Hid G' → G := by intro k_; (first | (refine cL ?_; first | (refine cL_move ?_; refine L_val R_move rfl rfl rfl ?_) | (refine cL_load ?_; first | refine L_val (R_loadB rfl (by assumption) (by rfl)) rfl rfl rfl ?_ | refine L_val (R_loadH (by assumption) rfl (by assumption) (by rfl)) rfl rfl rfl ?_) | (refine cL_assign ?_; refine L_val R_assign rfl rfl rfl ?_) | (refine cL_call ?_; refine L_val (R_len rfl) rfl rfl rfl ?_) | (refine cL_lss ?_; refine L_val (R_ltI rfl rfl) rfl rfl rfl ?_) | (refine cL_add ?_; refine L_val (R_addI rfl rfl) rfl rfl rfl ?_) | refine L_nil ?_) | refine G_seq ?_ | refine G_region ?_ | refine G_skip ?_ | refine G_block ?_ | refine G_end ?_ | refine G_true rfl ?_ | refine G_false rfl ?_); exact k_.out) : G := h ⟨k⟩

instance app_types : AppT Tryz.prog 85 60 16 := ⟨by kernel_rfl, by kernel_rfl⟩

/-- an array of pointers, at its start -/
def PtrsAt (H : Hp) (as_ : List Nat) (q : Option Addr) : Prop := ∀ (i a : Nat), as_[i]? = some a → ∃ g cs T, q = some ⟨g, 0, none⟩ ∧ H g = some (Ob cs T) ∧ lget cs i = some (ptr a)

/-- a declared type, laid: with its underlying type, where it has no type parameters -/
structure DeclIs (H : Hp) (a o : Nat) (z : Prop) : Prop where
  name : ∃ c r, H a = some (Ob (c :: ptr o :: r) 148)
  obj : ∃ n pk s t, H o = some (Ob (ObjC n pk s t) 234)
  und : z → ∃ m1 m2 fr und vz me, H a = some (Ob (namedCells (ptr o) (.pointer none) m1 m2 fr und vz me) 148) ∧ UndOK fr und

/-- the builder, as 'typ' reads it -/
structure BuIs (E : Env) (H : Hp) (ds : List (Int × Ty)) (p : Option Addr) (dcap bB : Nat) : Prop where
  blk : ∃ pk vd cd vp cp, H bB = some (Ob [.slice p ds.length dcap, .pointer pk, .slice vd E.decls.length cd, .slice vp E.params.length cp] 71) ∧ PtrsAt H E.decls vd ∧ PtrsAt H E.params vp
  dl : ∀ (i a : Nat), E.decls[i]? = some a → ∃ o d, E.objs[i]? = some o ∧ ds[i]? = some d ∧ DeclIs H a o (d.1 = 0)

theorem PtrsAt.mono {H H' : Hp} (hh : Hp.le H H') {as_ : List Nat} {q : Option Addr} (h : PtrsAt H as_ q) : PtrsAt H' as_ q := fun i a ha =>
  let ⟨g, cs, T, h1, h2, h3⟩ := h i a ha
  ⟨g, cs, T, h1, hh _ _ h2, h3⟩
theorem DeclIs.mono {H H' : Hp} (hh : Hp.le H H') {a o : Nat} {z : Prop} (h : DeclIs H a o z) : DeclIs H' a o z :=
  ⟨let ⟨c, r, h1⟩ := h.name; ⟨c, r, hh _ _ h1⟩, let ⟨n, pk, s, t, h1⟩ := h.obj; ⟨n, pk, s, t, hh _ _ h1⟩, fun hz => let ⟨m1, m2, fr, und, vz, me, h1, h2⟩ := h.und hz; ⟨m1, m2, fr, und, vz, me, hh _ _ h1, h2⟩⟩
theorem BuIs.mono {E : Env} {H H' : Hp} (hh : Hp.le H H') {ds : List (Int × Ty)} {p : Option Addr} {dcap bB : Nat} (h : BuIs E H ds p dcap bB) : BuIs E H' ds p dcap bB :=
  ⟨let ⟨pk, vd, cd, vp, cp, h1, h2, h3⟩ := h.blk; ⟨pk, vd, cd, vp, cp, hh _ _ h1, h2.mono hh, h3.mono hh⟩, fun i a ha => let ⟨o, d, h1, h2, h3⟩ := h.dl i a ha; ⟨o, d, h1, h2, h3.mono hh⟩⟩
theorem SlAt.mono {H H' : Hp} (hh : Hp.le H H') {vs : List Value} {q : Option Addr} (h : SlAt H vs q) : SlAt H' vs q := fun i v hv =>
  let ⟨h1, g, off, cs, T, h2, h3, h4⟩ := h i v hv
  ⟨h1, g, off, cs, T, h2, hh _ _ h3, h4⟩

/-- what 'typ' answers for a type -/
def TypSays (E : Env) (H : Hp) (w : World) (ts : List Ty) (t : Ty) : Value → World → Prop := fun r w' =>
  ∃ H', Grow H w H' w' ∧ Rep E H' (substT ts t) r ∧ (t.k ≠ 1 → t.k ≠ 2 → t.k ≠ 3 → ∃ T a, r = .iface T (ptr a) ∧ litT T = true)

def TypOK (E : Env) (ds : List (Int × Ty)) (p : Option Addr) (dcap bB : Nat) (own : Int) (t : Ty) : Prop :=
  ∀ (cs : List Value) (H : Hp) (w : World) (ts : List Ty) (vs : List Value) (q : Option Addr) (qc : Nat), Agree H w → Props H → BuIs E H ds p dcap bB → DTy H t cs → DDl H ds p → (ts.length : Int) = own → RepL E H ts vs → SlAt H vs q →
    Calls Tryz.prog 24 #[ptr bB, .agg cs.toArray, .slice q vs.length qc] w (Ret (TypSays E H w ts t))

def AllSays (E : Env) (H : Hp) (w : World) (ts : List Ty) (es : List Ty) : Value → World → Prop := fun r w' =>
  ∃ H' us q c, r = .slice q us.length c ∧ us.length ≤ c ∧ Grow H w H' w' ∧ RepL E H' (substL ts es) us ∧ SlAt H' us q ∧ (us ≠ [] → TySl H' us r)

theorem RepL.snoc {E : Env} {H : Hp} {t : Ty} {v : Value} (hv : Rep E H t v) : ∀ {ts : List Ty} {vs : List Value}, RepL E H ts vs → RepL E H (ts ++ [t]) (vs ++ [v])
  | [], vs, h => by simp only [RepL] at h; subst h; exact ⟨v, [], rfl, hv, rfl⟩
  | e :: ts, vs, h => by
    simp only [RepL] at h
    obtain ⟨x, vs', rfl, h1, h2⟩ := h
    exact ⟨x, vs' ++ [v], rfl, h1, RepL.snoc hv h2⟩
theorem substL_app (ts : List Ty) : ∀ a b : List Ty, substL ts (a ++ b) = substL ts a ++ substL ts b
  | [], b => rfl
  | e :: a, b => by simp only [List.cons_append, substL, substL_app ts a b]
theorem RepL.at {E : Env} {H : Hp} : ∀ {ts : List Ty} {vs : List Value} {i : Nat} {t : Ty}, RepL E H ts vs → ts[i]? = some t → ∃ v, vs[i]? = some v ∧ Rep E H t v
  | [], _, _, _, _, h => by simp at h
  | e :: ts, vs, 0, t, h, he => by
    simp only [RepL] at h
    obtain ⟨x, vs', rfl, h1, h2⟩ := h
    simp only [List.getElem?_cons_zero, Option.some.injEq] at he
    subst he
    exact ⟨x, rfl, h1⟩
  | e :: ts, vs, i + 1, t, h, he => by
    simp only [RepL] at h
    obtain ⟨x, vs', rfl, h1, h2⟩ := h
    obtain ⟨v, h3, h4⟩ := RepL.at (i := i) h2 (by simpa using he)
    exact ⟨v, by simpa using h3, h4⟩
theorem RepL.vals {E : Env} {H : Hp} {v : Value} : ∀ {ts : List Ty} {vs : List Value} {i : Nat}, RepL E H ts vs → vs[i]? = some v → ∃ t, ts[i]? = some t ∧ Rep E H t v
  | [], vs, i, h, hv => by simp only [RepL] at h; subst h; simp at hv
  | e :: ts, vs, 0, h, hv => by
    simp only [RepL] at h
    obtain ⟨x, vs', rfl, h1, h2⟩ := h
    simp only [List.getElem?_cons_zero, Option.some.injEq] at hv
    subst hv
    exact ⟨e, rfl, h1⟩
  | e :: ts, vs, i + 1, h, hv => by
    simp only [RepL] at h
    obtain ⟨x, vs', rfl, h1, h2⟩ := h
    obtain ⟨t, h3, h4⟩ := RepL.vals (i := i) h2 (by simpa using hv)
    exact ⟨t, by simpa using h3, h4⟩

theorem substL_get (ts : List Ty) : ∀ (es : List Ty) (i : Nat), (substL ts es)[i]? = es[i]?.map (substT ts)
  | [], i => by simp [substL]
  | e :: es, 0 => rfl
  | e :: es, i + 1 => by simpa [substL] using substL_get ts es i
/-- what lies in a row of one's own may be read from it -/
theorem slAt_own {H : Hp} {us r : List Value} {g : Nat} {T : Nat} (h : H g = some (Ob (us ++ r) T)) (hi : ∀ v ∈ us, ∃ T x, v = .iface T x) : SlAt H us (some ⟨g, 0, none⟩) := fun i v hv =>
  ⟨hi v (List.mem_of_getElem? hv), g, 0, _, T, rfl, h, by
    rw [lget_eq, Nat.zero_add, List.getElem?_append_left (List.getElem?_eq_some_iff.1 hv).1]; exact hv⟩

attribute [local irreducible] Calls execOp

theorem all_any {E : Env} {ds : List (Int × Ty)} {p : Option Addr} {dcap bB : Nat} {own : Int} {es : List Ty} (ih : ∀ e ∈ es, TypOK E ds p dcap bB own e) {H : Hp} {ts : List Ty} {vs : List Value} {q pe : Option Addr} {qc ecap : Nat} (w : World) (hA : Agree H w) (hP : Props H) (hB : BuIs E H ds p dcap bB) (hes : DSl H es pe) (hd : DDl H ds p) (hown : (ts.length : Int) = own) (hts : RepL E H ts vs) (hq : SlAt H vs q)
    (hbd : es.length * 72 ≤ 140737488351232) :
    Calls Tryz.prog 39 #[ptr bB, .slice pe es.length ecap, .slice q vs.length qc] w (Ret (AllSays E H w ts es)) := by
  (refine calls_enter Tryz.func39 Tryz.ntmps39 rfl rfl ?_)
  (refine r81 ?_)
  refine G_loop (fun f ds0 w0 => ds0 = [] ∧ ∃ (f0 : Fm) (i : Nat) (va : Value) (us : List Value) (Hi : Hp), f = with_ [(12, .int .i64 (i : Int)), (11, .int .i64 (es.length : Int)), (10, .slice pe es.length ecap), (0, ptr bB), (2, .slice q vs.length qc), (7, va)] f0 ∧ i ≤ es.length ∧ Grow H w Hi w0 ∧ OwnS w0 60 va us ∧
      (∀ g, va.ownBlock = some g → Hi g = none ∧ w.heap.size ≤ g) ∧ us.length = i ∧ RepL E Hi (substL ts (es.take i)) us ∧ (i = 0 → va = .slice none 0 0)) (fun f _ _ => countM 12 11 f)
    ⟨rfl, _, 0, .slice none 0 0, [], H, with_self ⟨rfl, rfl, rfl, rfl, rfl, rfl, trivial⟩, Nat.zero_le _, Grow.refl hA, .inl ⟨rfl, rfl⟩, (fun g hg => by cases hg), rfl, rfl, fun _ => rfl⟩ ?_
  rintro f ds0 wr ⟨rfl, f0, i, va, us, Hi, rfl, hi, gr, hown', hob, hul, hrep, hnil⟩
  by_cases h : i < es.length
  · have hbt : decide ((i : Int) < (es.length : Int)) = true := decide_eq_true (by omega)
    obtain ⟨e, he⟩ : ∃ v, es[i]? = some v := ⟨_, List.getElem?_eq_getElem h⟩
    obtain ⟨bk, off, ec, hp', hec, hed⟩ := hes.get he
    obtain ⟨q', qcap, rfl, -, -, -, -, -⟩ := hed.cells
    subst hp'
    have hAr := gr.ag
    have hec' := hec.mono gr.le
    (repeat (first | (refine cL ?_; first | (refine cL_load ?_; refine L_val (R_loadA rfl rfl fun j v hj => hAr.hcell (hec' j v hj)) rfl rfl rfl ?_) | (refine cL_lss ?_; refine L_valB (R_ltI rfl rfl) hbt rfl rfl rfl ?_) | (refine cL_indexAddr ?_; refine L_valE (R_ia rfl rfl (by omega) (by omega)) (ia6 _ _ _) rfl rfl rfl ?_)) | refine r82 ?_))
    refine L_allocS rfl rfl fun b9 w3 hn3 => ?_
    refine L_storeA rfl hn3.here rfl rfl rfl rfl rfl rfl fun w4 h4 e4 s4 => ?_
    have hn4 := hn3.store h4 e4 s4
    obtain ⟨H4, g4, hb9⟩ := Grow.ofNew hAr hn4
    have gA := gr.trans g4
    have hih := ih e (List.mem_of_getElem? he) _ H4 w4 ts vs q qc g4.ag (hP.mono gA.le) (hB.mono gA.le) (DTy.mono gA.le _ _ hed) (hd.mono gA.le) hown (RepL.mono gA.le _ _ hts) (hq.mono gA.le)
    (repeat (first | (refine cL ?_; first | (refine cL_load ?_; refine L_val (R_loadAB rfl rfl (g4.ag _ _ hb9)) rfl rfl rfl ?_)) | refine r82 ?_))
    refine L_callR hih rfl rfl fun v5 w5 ⟨H5, g5, hr5, _⟩ => ?_
    obtain ⟨T5, a5, hv5⟩ := hr5.iface
    subst hv5
    refine L_buildSlice (vs := [.iface T5 (ptr a5)]) rfl rfl rfl rfl rfl rfl fun b6 w6 hn6 => ?_
    have gB := gA.trans g5
    have hlt5 : ∀ b o, va.ownBlock = some b → H5 b = some o → False := fun b o hvb hb5 => by
      have h1 := hown'.lt b hvb
      rcases (g4.trans g5).new b o hb5 with h2 | h2
      · rw [(hob b hvb).1] at h2; cases h2
      · omega
    have hown5 := (hown'.ext (g4.trans g5).ext (fun _ _ h => h)).ext hn6.ext (fun _ _ h => h)
    refine L_push (v := va) (u := .iface T5 (ptr a5)) rfl hown5 rfl hn6.here rfl (by omega) (by simp only [maxLen]; omega) rfl rfl fun va' w7 hpu => ?_
    (repeat (first | (refine cL ?_; first | (refine cL_add ?_; refine L_valE (R_addI rfl rfl) (succ_i64 h (by omega)) rfl rfl rfl ?_)) | refine r82 ?_))
    have hA6 : Agree H5 w6 := gB.ag.ext0 hn6.ext
    have hA7 : Agree H5 w7 := hA6.ext hpu.ext fun b o hb hm => hlt5 b o hm.symm hb
    have hx6 : Ext No w w6 := gB.ext.trans hn6.ext
    have gC : Grow H w H5 w7 := ⟨gB.le, hA7, gB.new, hx6.trans_new hpu.ext fun k hk hm => by have := (hob k hm.symm).2; omega⟩
    have hob7 : ∀ g, va'.ownBlock = some g → H5 g = none ∧ w.heap.size ≤ g := fun g hg7 => by
      rcases hpu.blk with hbk | hbk
      · rw [hbk] at hg7
        refine ⟨?_, (hob g hg7).2⟩
        cases hh : H5 g with
        | none => rfl
        | some o => exact (hlt5 g o hg7 hh).elim
      · rw [hbk] at hg7
        injection hg7 with hg7
        have := hx6.size
        refine ⟨?_, by omega⟩
        cases hh : H5 g with
        | none => rfl
        | some o => have := hA6.lt hh; omega
    have htk : es.take (i + 1) = es.take i ++ [e] := by rw [List.take_add_one, he]; rfl
    have hrep7 : RepL E H5 (substL ts (es.take (i + 1))) (us ++ [.iface T5 (ptr a5)]) := by
      rw [htk, substL_app]
      exact RepL.snoc hr5 (RepL.mono (Hp.le_trans g4.le g5.le) _ _ hrep)
    refine G_inv ⟨⟨rfl, _, i + 1, va', us ++ [.iface T5 (ptr a5)], H5, with_self ⟨rfl, rfl, rfl, rfl, rfl, rfl, trivial⟩, h, gC, hpu.own, hob7, by simp [hul], hrep7, fun h0 => by omega⟩, ?_⟩
    show ((es.length : Int) - ((i + 1 : Nat) : Int)).toNat < ((es.length : Int) - (i : Int)).toNat
    omega
  · have hbt : decide ((i : Int) < (es.length : Int)) = false := decide_eq_false (by omega)
    have hil : i = es.length := by omega
    have htk : es.take i = es := by rw [hil]; exact List.take_length
    rw [htk] at hrep
    (repeat (first | (refine cL ?_; first | (refine cL_lss ?_; refine L_valB (R_ltI rfl rfl) hbt rfl rfl rfl ?_)) | refine G_exit rfl ?_ | refine r82 ?_))
    (refine G_retF rfl ?_)
    rcases hown' with ⟨rfl, rfl⟩ | ⟨g, c, r, rfl, hg, hgl⟩
    · exact ⟨_, rfl, Hi, [], none, 0, rfl, Nat.le_refl _, gr, hrep, fun i v hv => by simp at hv, fun hne => absurd rfl hne⟩
    · obtain ⟨Hg, gg, leg, hHg⟩ := gr.add hg (hob g rfl).2
      have hrep' := RepL.mono leg _ _ hrep
      exact ⟨_, rfl, Hg, us, _, c, rfl, (by simp at hgl; omega), gg, hrep', slAt_own hHg (fun v hv => by
        obtain ⟨j, hj⟩ := List.mem_iff_getElem?.1 hv
        obtain ⟨t, -, h2⟩ := hrep'.vals hj
        obtain ⟨T, a, h3⟩ := h2.iface
        exact ⟨T, _, h3⟩), fun _ => ⟨g, c, r, rfl, hHg⟩⟩
end Go.Proofs.YtjilnjifegeceaaGreatDoor

/-
  The thin package's 'typ': basic types, bound type parameters, a declaration's own.
-/
namespace Go.Proofs.YtjilnjifegeceaaGreatDoor
set_option maxRecDepth 100000
set_option maxHeartbeats 4000000
attribute [local irreducible] Calls execOp

theorem r83 {G G' : Prop} (k : G') (h : Hid G' → G := by intro k_; (repeat (first | (refine cL ?_; first | (refine cL_move ?_; refine L_val R_move rfl rfl rfl ?_) | (refine cL_load ?_; first | refine L_val (R_loadB rfl (by assumption) (by rfl)) rfl rfl rfl ?_ | refine L_val (R_loadH (by assumption) rfl (by assumption) (by rfl)) rfl rfl rfl ?_) | (refine cL_fieldAddr ?_; refine L_val (R_fa rfl) rfl rfl rfl ?_) | (refine cL_nilCheck ?_; refine L_val (R_nil rfl) rfl rfl rfl ?_) | (refine cL_assign ?_; refine L_val R_assign rfl rfl rfl ?_) | (refine cL_call ?_; refine L_val (R_len rfl) rfl rfl rfl ?_) | (refine cL_eql ?_; first | refine L_val (R_eqPN rfl rfl) rfl rfl rfl ?_ | refine L_val (R_eqI rfl rfl) rfl rfl rfl ?_ | refine L_val (R_eqB rfl rfl) rfl rfl rfl ?_ | refine L_val (R_eqIfN rfl rfl) rfl rfl rfl ?_ | refine L_val (R_eqIfNN rfl) rfl rfl rfl ?_) | (refine cL_lss ?_; refine L_val (R_ltI rfl rfl) rfl rfl rfl ?_) | (refine cL_makeInterface ?_; refine L_val R_mkI rfl rfl rfl ?_) | (refine cL_add ?_; refine L_val (R_addI rfl rfl) rfl rfl rfl ?_) | refine L_nil ?_) | refine G_seq ?_ | refine G_region ?_ | refine G_skip ?_ | refine G_block ?_ | refine G_end ?_ | refine G_true rfl ?_ | refine G_false rfl ?_)); exact k_.out) : G := h ⟨k⟩
theorem r84 {G G' A : Prop} (ag : A) (k : G') (h : Hid G' → A → G := by intro k_ ag_; (first | (refine cD_move ?_; refine D_val0 (fun _ _ => R_move) rfl rfl ?_) | (refine cD_load ?_; refine D_val0 (fun w he => R_loadH (ag_ w he) rfl (by assumption) (by rfl)) rfl rfl ?_) | (refine cD_fieldAddr ?_; refine D_val0 (fun _ _ => R_fa rfl) rfl rfl ?_) | (refine cD_nilCheck ?_; refine D_val0 (fun _ _ => R_nil rfl) rfl rfl ?_) | (refine cD_assign ?_; refine D_val0 (fun _ _ => R_assign) rfl rfl ?_) | (refine cD_call ?_; refine D_val0 (fun _ _ => R_len rfl) rfl rfl ?_) | (refine cD_eql ?_; first | refine D_val0 (fun _ _ => R_eqPN rfl rfl) rfl rfl ?_ | refine D_val0 (fun _ _ => R_eqI rfl rfl) rfl rfl ?_ | refine D_val0 (fun _ _ => R_eqB rfl rfl) rfl rfl ?_ | refine D_val0 (fun _ _ => R_eqIfN rfl rfl) rfl rfl ?_ | refine D_val0 (fun _ _ => R_eqIfNN rfl) rfl rfl ?_) | (refine cD_lss ?_; refine D_val0 (fun _ _ => R_ltI rfl rfl) rfl rfl ?_) | (refine cD_makeInterface ?_; refine D_val0 (fun _ _ => R_mkI) rfl rfl ?_) | (refine cD_add ?_; refine D_val0 (fun _ _ => R_addI rfl rfl) rfl rfl ?_)); exact k_.out) : G := h ⟨k⟩ ag
theorem r85 {G G' : Prop} (k : G') (h : Hid G' → G := by intro k_; (first | (refine cL ?_; first | (refine cL_move ?_; refine L_val R_move rfl rfl rfl ?_) | (refine cL_load ?_; first | refine L_val (R_loadB rfl (by assumption) (by rfl)) rfl rfl rfl ?_ | refine L_val (R_loadH (by assumption) rfl (by assumption) (by rfl)) rfl rfl rfl ?_) | (refine cL_fieldAddr ?_; refine L_val (R_fa rfl) rfl rfl rfl ?_) | (refine cL_nilCheck ?_; refine L_val (R_nil rfl) rfl rfl rfl ?_) | (refine cL_assign ?_; refine L_val R_assign rfl rfl rfl ?_) | (refine cL_call ?_; refine L_val (R_len rfl) rfl rfl rfl ?_) | (refine cL_eql ?_; first | refine L_val (R_eqPN rfl rfl) rfl rfl rfl ?_ | refine L_val (R_eqI rfl rfl) rfl rfl rfl ?_ | refine L_val (R_eqB rfl rfl) rfl rfl rfl ?_ | refine L_val (R_eqIfN rfl rfl) rfl rfl rfl ?_ | refine L_val (R_eqIfNN rfl) rfl rfl rfl ?_) | (refine cL_lss ?_; refine L_val (R_ltI rfl rfl) rfl rfl rfl ?_) | (refine cL_makeInterface ?_; refine L_val R_mkI rfl rfl rfl ?_) | (refine cL_add ?_; refine L_val (R_addI rfl rfl) rfl rfl rfl ?_) | refine L_nil ?_) | refine G_seq ?_ | refine G_region ?_ | refine G_skip ?_ | refine G_block ?_ | refine G_end ?_ | refine G_true rfl ?_ | refine G_false rfl ?_); exact k_.out) : G := h ⟨k⟩

theorem headB_basic {ds : List (Int × Ty)} {n c : Int} {b : Bool} {es : List Ty} {params own : Int} (h : headB ds 0 n c b es params own = true) : 0 ≤ n ∧ n < 17 ∧ es = [] := by
  simp only [headB, Bool.and_eq_true, Bool.not_eq_true'] at h
  have h4 := h.2.1
  have h2 := h.1
  simp [limitL, head4] at h4
  simp [head2, elemsL] at h2
  exact ⟨by omega, by omega, h2⟩
theorem headB_param {ds : List (Int × Ty)} {n c : Int} {b : Bool} {es : List Ty} {params own : Int} (h : headB ds 2 n c b es params own = true) (h0 : 0 ≤ params) : 0 ≤ n ∧ n < params ∧ es = [] := by
  simp only [headB, Bool.and_eq_true, Bool.not_eq_true'] at h
  have h4 := h.2.1
  have h2 := h.1
  simp [limitL, head4] at h4
  simp [head2, elemsL] at h2
  exact ⟨by omega, by omega, h2⟩
theorem headB_own2 {ds : List (Int × Ty)} {n c : Int} {b : Bool} {es : List Ty} {params own : Int} (h : headB ds 3 n c b es params own = true) (h0 : 0 ≤ own) : 0 ≤ n ∧ n < own ∧ es = [] := by
  simp only [headB, Bool.and_eq_true, Bool.not_eq_true'] at h
  have h4 := h.2.1
  have h2 := h.1
  simp [limitL, head4] at h4
  simp [head2, elemsL] at h2
  exact ⟨by omega, by omega, h2⟩

section
variable {E : Env} {ds : List (Int × Ty)} {p : Option Addr} {dcap bB m : Nat} {params own n c : Int} {b : Bool} {nm : ByteArray} {es : List Ty}

theorem typ_basic (hsh : shapedB (ds.take m) params own (.mk 0 n c b nm es) = true) : TypOK E ds p dcap bB own (.mk 0 n c b nm es) := by
  intro cs H w ts vs q qc hA hP hB ht hd hown hts hq
  obtain ⟨h0, h17, rfl⟩ := headB_basic (show headB (ds.take m) _ n c b es params own = true from shaped_head hsh)
  obtain ⟨i, rfl⟩ := Int.eq_ofNat_of_zero_le h0
  simp only [DTy] at ht
  obtain ⟨p', cap, rfl, -, -, -, -, -⟩ := ht
  (refine calls_enter Tryz.func24 Tryz.ntmps24 rfl rfl ?_)
  (refine r83 ?_)
  refine L_box rfl rfl rfl fun b4 w1 hn1 => ?_
  obtain ⟨H1, g1, hb4⟩ := Grow.ofNew hA hn1
  have hA1 := g1.ag
  (refine r83 ?_)
  refine L_callR (basic_any i w1 hA1 (by omega)) rfl rfl fun v w2 ⟨a, hv, a', H2, u, s, he, g2, h2⟩ => ?_
  subst hv
  obtain rfl : a = a' := by injection he with he; injection he with he; injection he
  (refine r83 ?_)
  (refine G_retF rfl ?_)
  exact ⟨_, rfl, H2, g1.trans g2, by simp only [substT]; exact ⟨[], rfl, .basic h2 h0⟩, fun _ _ _ => ⟨_, a, rfl, rfl⟩⟩

theorem typ_param (hpar : params ≤ E.params.length) (h0p : 0 ≤ params) (hsh : shapedB (ds.take m) params own (.mk 2 n c b nm es) = true) : TypOK E ds p dcap bB own (.mk 2 n c b nm es) := by
  intro cs H w ts vs q qc hA hP hB ht hd hown hts hq
  obtain ⟨h0, hlt, rfl⟩ := headB_param (show headB (ds.take m) _ n c b es params own = true from shaped_head hsh) h0p
  obtain ⟨i, rfl⟩ := Int.eq_ofNat_of_zero_le h0
  simp only [DTy] at ht
  obtain ⟨p', cap, rfl, -, -, -, -, -⟩ := ht
  obtain ⟨pk, vd, cd, vp, cp, hbb, -, hvp⟩ := hB.blk
  obtain ⟨a, ha⟩ : ∃ a, E.params[i]? = some a := ⟨_, List.getElem?_eq_getElem (by omega)⟩
  obtain ⟨g, gcs, T, rfl, hg, hgv⟩ := hvp i a ha
  (refine calls_enter Tryz.func24 Tryz.ntmps24 rfl rfl ?_)
  (refine r83 ?_)
  refine L_box rfl rfl rfl fun b4 w1 hn1 => ?_
  obtain ⟨H1, g1, hb4⟩ := Grow.ofNew hA hn1
  have hA1 := g1.ag
  have hbb1 := g1.le _ _ hbb
  have hg1 := g1.le _ _ hg
  have hAg : ∀ w', Ext No w1 w' → Agree H1 w' := fun _ he => hA1.ext0 he
  (refine r83 ?_)
  (refine G_draw No (0 :: 1 :: 2 :: 3 :: 4 :: 5 :: 6 :: 7 :: 8 :: 9 :: []) [] follows (by kernel_rfl) rfl ?_)
  (repeat (first | (refine cD_load ?_; refine D_val0 (fun w he => R_loadH (hAg w he) rfl hg1 hgv) rfl rfl ?_) | (refine cD_indexAddr ?_; refine D_valE (fun _ _ => R_ia rfl rfl (by omega) (by omega)) (ia0 _ _) rfl rfl ?_) | refine r84 hAg ?_))
  refine D_nil fun w2 hw2 => ?_
  (refine r83 ?_)
  (refine G_retF rfl ?_)
  exact ⟨_, rfl, H1, g1.trans (Grow.quiet hA1 hw2), by simp only [substT]; exact ⟨[], rfl, .param ha h0⟩, fun _ h _ => absurd rfl h⟩

theorem typ_own (how : 0 ≤ own) (hsh : shapedB (ds.take m) params own (.mk 3 n c b nm es) = true) : TypOK E ds p dcap bB own (.mk 3 n c b nm es) := by
  intro cs H w ts vs q qc hA hP hB ht hd hown hts hq
  obtain ⟨h0, hlt, rfl⟩ := headB_own2 (show headB (ds.take m) _ n c b es params own = true from shaped_head hsh) how
  obtain ⟨i, rfl⟩ := Int.eq_ofNat_of_zero_le h0
  simp only [DTy] at ht
  obtain ⟨p', cap, rfl, -, -, -, -, -⟩ := ht
  obtain ⟨t, hti⟩ : ∃ t, ts[i]? = some t := ⟨_, List.getElem?_eq_getElem (by omega)⟩
  obtain ⟨v, hv, hr⟩ := hts.at hti
  obtain ⟨-, g, off, gcs, T, rfl, hg, hgv⟩ := hq i v hv
  have hvl := (List.getElem?_eq_some_iff.1 hv).1
  (refine calls_enter Tryz.func24 Tryz.ntmps24 rfl rfl ?_)
  (refine r83 ?_)
  refine L_box rfl rfl rfl fun b4 w1 hn1 => ?_
  obtain ⟨H1, g1, hb4⟩ := Grow.ofNew hA hn1
  have hA1 := g1.ag
  have hg1 := g1.le _ _ hg
  (repeat (first | (refine cL ?_; first | (refine cL_load ?_; refine L_val (R_loadH hA1 rfl hg1 hgv) rfl rfl rfl ?_) | (refine cL_indexAddr ?_; refine L_valE (R_ia rfl rfl (by omega) (by omega)) (iaO _ _ _) rfl rfl rfl ?_)) | refine r85 ?_))
  (refine G_retF rfl ?_)
  refine ⟨_, rfl, H1, g1, ?_, fun _ _ h => absurd rfl h⟩
  have e : substT ts (.mk 3 (i : Int) c b nm []) = t.setNm nm := by
    unfold substT
    rw [if_pos rfl, show ((i : Int).toNat) = i from rfl, hti]
    rfl
  rw [e]
  exact rep_setNm (Rep.mono g1.le _ _ hr)
end
end Go.Proofs.YtjilnjifegeceaaGreatDoor

/-
  The thin package's 'typ': pointers, slices, arrays, maps, channels. Printed by gen_w35.py.
-/
namespace Go.Proofs.YtjilnjifegeceaaGreatDoor
set_option maxRecDepth 100000
set_option maxHeartbeats 4000000
attribute [local irreducible] Calls execOp

theorem r86 {G G' A : Prop} (ag : A) (k : G') (h : Hid G' → A → G := by intro k_ ag_; (repeat (first | (refine cD_move ?_; refine D_val0 (fun _ _ => R_move) rfl rfl ?_) | (refine cD_load ?_; refine D_val0 (fun w he => R_loadH (ag_ w he) rfl (by assumption) (by rfl)) rfl rfl ?_) | (refine cD_fieldAddr ?_; refine D_val0 (fun _ _ => R_fa rfl) rfl rfl ?_) | (refine cD_nilCheck ?_; refine D_val0 (fun _ _ => R_nil rfl) rfl rfl ?_) | (refine cD_assign ?_; refine D_val0 (fun _ _ => R_assign) rfl rfl ?_) | (refine cD_call ?_; refine D_val0 (fun _ _ => R_len rfl) rfl rfl ?_) | (refine cD_eql ?_; first | refine D_val0 (fun _ _ => R_eqPN rfl rfl) rfl rfl ?_ | refine D_val0 (fun _ _ => R_eqI rfl rfl) rfl rfl ?_ | refine D_val0 (fun _ _ => R_eqB rfl rfl) rfl rfl ?_ | refine D_val0 (fun _ _ => R_eqIfN rfl rfl) rfl rfl ?_ | refine D_val0 (fun _ _ => R_eqIfNN rfl) rfl rfl ?_) | (refine cD_lss ?_; refine D_val0 (fun _ _ => R_ltI rfl rfl) rfl rfl ?_) | (refine cD_makeInterface ?_; refine D_val0 (fun _ _ => R_mkI) rfl rfl ?_) | (refine cD_add ?_; refine D_val0 (fun _ _ => R_addI rfl rfl) rfl rfl ?_))); exact k_.out) : G := h ⟨k⟩ ag

theorem substT_node {ts : List Ty} {k n c : Int} {b : Bool} {nm : ByteArray} {es : List Ty} (hk : k ≠ 3) : substT ts (.mk k n c b nm es) = .mk k n c b nm (substL ts es) := by
  unfold substT
  rw [if_neg hk]

theorem headB_one {ds : List (Int × Ty)} {k n c : Int} {b : Bool} {es : List Ty} {params own : Int} (h : headB ds k n c b es params own = true) (hk : elemsL k = 1) : ∃ e, es = [e] := by
  simp only [headB, Bool.and_eq_true, Bool.not_eq_true'] at h
  have h2 := h.1
  simp [head2, hk] at h2
  exact List.length_eq_one_iff.1 (by omega)
theorem headB_two {ds : List (Int × Ty)} {n c : Int} {b : Bool} {es : List Ty} {params own : Int} (h : headB ds 7 n c b es params own = true) : ∃ e e', es = [e, e'] := by
  simp only [headB, Bool.and_eq_true, Bool.not_eq_true'] at h
  have h2 := h.1
  simp [head2, elemsL] at h2
  rcases es with _ | ⟨x, _ | ⟨y, _ | ⟨z, r⟩⟩⟩
  · simp at h2
  · simp at h2
  · exact ⟨x, y, rfl⟩
  · simp at h2; omega
theorem headB_arr {ds : List (Int × Ty)} {n c : Int} {b : Bool} {es : List Ty} {params own : Int} (h : headB ds 6 n c b es params own = true) : 0 ≤ n := by
  simp only [headB, Bool.and_eq_true, Bool.not_eq_true'] at h
  have h4 := h.2.1
  simp [limitL, head4] at h4
  omega
theorem headB_chan {ds : List (Int × Ty)} {n c : Int} {b : Bool} {es : List Ty} {params own : Int} (h : headB ds 8 n c b es params own = true) : 0 ≤ n ∧ n < 3 := by
  simp only [headB, Bool.and_eq_true, Bool.not_eq_true'] at h
  have h4 := h.2.1
  simp [limitL, head4] at h4
  omega

section
variable {E : Env} {ds : List (Int × Ty)} {p : Option Addr} {dcap bB m : Nat} {params own n c : Int} {b : Bool} {nm : ByteArray} {es : List Ty}

theorem typ_pointer (ih : ∀ e ∈ es, TypOK E ds p dcap bB own e) (hsh : shapedB (ds.take m) params own (.mk 4 n c b nm es) = true) : TypOK E ds p dcap bB own (.mk 4 n c b nm es) := by
  intro cs H w ts vs q qc hA hP hB ht hd hown hts hq
  obtain ⟨e, rfl⟩ := headB_one (show headB (ds.take m) 4 n c b es params own = true from shaped_head hsh) rfl
  simp only [DTy] at ht
  obtain ⟨p', cap, rfl, -, -, -, hbd, hes⟩ := ht
  (refine calls_enter Tryz.func24 Tryz.ntmps24 rfl rfl ?_)
  (refine r83 ?_)
  refine L_box rfl rfl rfl fun b4 w1 hn1 => ?_
  obtain ⟨H1, g1, hb4⟩ := Grow.ofNew hA hn1
  have hA1 := g1.ag
  have hal := all_any (qc := qc) (ecap := cap) ih w1 hA1 (hP.mono g1.le) (hB.mono g1.le) (DSl.mono g1.le hes) (hd.mono g1.le) hown (RepL.mono g1.le _ _ hts) (hq.mono g1.le) hbd.1
  (refine r83 ?_)
  refine L_callR hal rfl rfl fun v w2 ⟨H2, us, q2, c2, hv, _, g2, hrep, hsl, _⟩ => ?_
  subst hv
  simp only [substL, RepL] at hrep
  obtain ⟨u, _, rfl, hr, rfl⟩ := hrep
  obtain ⟨⟨T0, x0, rfl⟩, g, off, gcs, T, rfl, hg, hgv⟩ := hsl 0 u rfl
  have hA2 := g2.ag
  have hb4' := g2.le _ _ hb4
  have hAg : ∀ w', Ext No w2 w' → Agree H2 w' := fun _ he => hA2.ext0 he
  (repeat (first | (refine cL ?_; first | (refine cL_load ?_; refine L_val (R_loadH hA2 rfl hg hgv) rfl rfl rfl ?_) | (refine cL_indexAddr ?_; refine L_valE (R_ia rfl rfl (by omega) (by simp)) (iaO _ _ 0) rfl rfl rfl ?_)) | refine r85 ?_))
  refine L_callR (newPointer_any T0 x0 w2) rfl rfl fun v w3 ⟨a, hv, hn3⟩ => ?_
  subst hv
  obtain ⟨H3, g3, ha⟩ := Grow.ofNew hA2 hn3
  (refine r83 ?_)
  (refine G_retF rfl ?_)
  exact ⟨.iface 95 (ptr a), rfl, H3, g1.trans (g2.trans g3), by rw [substT_node (by decide)]; exact ⟨[.iface T0 x0], ⟨_, [], rfl, Rep.mono g3.le _ _ hr, rfl⟩, .pointer ha⟩, fun _ _ _ => ⟨_, a, rfl, rfl⟩⟩

theorem typ_slice (ih : ∀ e ∈ es, TypOK E ds p dcap bB own e) (hsh : shapedB (ds.take m) params own (.mk 5 n c b nm es) = true) : TypOK E ds p dcap bB own (.mk 5 n c b nm es) := by
  intro cs H w ts vs q qc hA hP hB ht hd hown hts hq
  obtain ⟨e, rfl⟩ := headB_one (show headB (ds.take m) 5 n c b es params own = true from shaped_head hsh) rfl
  simp only [DTy] at ht
  obtain ⟨p', cap, rfl, -, -, -, hbd, hes⟩ := ht
  (refine calls_enter Tryz.func24 Tryz.ntmps24 rfl rfl ?_)
  (refine r83 ?_)
  refine L_box rfl rfl rfl fun b4 w1 hn1 => ?_
  obtain ⟨H1, g1, hb4⟩ := Grow.ofNew hA hn1
  have hA1 := g1.ag
  have hal := all_any (qc := qc) (ecap := cap) ih w1 hA1 (hP.mono g1.le) (hB.mono g1.le) (DSl.mono g1.le hes) (hd.mono g1.le) hown (RepL.mono g1.le _ _ hts) (hq.mono g1.le) hbd.1
  (refine r83 ?_)
  refine L_callR hal rfl rfl fun v w2 ⟨H2, us, q2, c2, hv, _, g2, hrep, hsl, _⟩ => ?_
  subst hv
  simp only [substL, RepL] at hrep
  obtain ⟨u, _, rfl, hr, rfl⟩ := hrep
  obtain ⟨⟨T0, x0, rfl⟩, g, off, gcs, T, rfl, hg, hgv⟩ := hsl 0 u rfl
  have hA2 := g2.ag
  have hb4' := g2.le _ _ hb4
  have hAg : ∀ w', Ext No w2 w' → Agree H2 w' := fun _ he => hA2.ext0 he
  (repeat (first | (refine cL ?_; first | (refine cL_load ?_; refine L_val (R_loadH hA2 rfl hg hgv) rfl rfl rfl ?_) | (refine cL_indexAddr ?_; refine L_valE (R_ia rfl rfl (by omega) (by simp)) (iaO _ _ 0) rfl rfl rfl ?_)) | refine r85 ?_))
  refine L_callR (newSlice_any T0 x0 w2) rfl rfl fun v w3 ⟨a, hv, hn3⟩ => ?_
  subst hv
  obtain ⟨H3, g3, ha⟩ := Grow.ofNew hA2 hn3
  (refine r83 ?_)
  (refine G_retF rfl ?_)
  exact ⟨.iface 97 (ptr a), rfl, H3, g1.trans (g2.trans g3), by rw [substT_node (by decide)]; exact ⟨[.iface T0 x0], ⟨_, [], rfl, Rep.mono g3.le _ _ hr, rfl⟩, .slice ha⟩, fun _ _ _ => ⟨_, a, rfl, rfl⟩⟩

theorem typ_array (ih : ∀ e ∈ es, TypOK E ds p dcap bB own e) (hsh : shapedB (ds.take m) params own (.mk 6 n c b nm es) = true) : TypOK E ds p dcap bB own (.mk 6 n c b nm es) := by
  intro cs H w ts vs q qc hA hP hB ht hd hown hts hq
  have hn0 := headB_arr (show headB (ds.take m) 6 n c b es params own = true from shaped_head hsh)
  obtain ⟨e, rfl⟩ := headB_one (show headB (ds.take m) 6 n c b es params own = true from shaped_head hsh) rfl
  simp only [DTy] at ht
  obtain ⟨p', cap, rfl, -, -, -, hbd, hes⟩ := ht
  (refine calls_enter Tryz.func24 Tryz.ntmps24 rfl rfl ?_)
  (refine r83 ?_)
  refine L_box rfl rfl rfl fun b4 w1 hn1 => ?_
  obtain ⟨H1, g1, hb4⟩ := Grow.ofNew hA hn1
  have hA1 := g1.ag
  have hal := all_any (qc := qc) (ecap := cap) ih w1 hA1 (hP.mono g1.le) (hB.mono g1.le) (DSl.mono g1.le hes) (hd.mono g1.le) hown (RepL.mono g1.le _ _ hts) (hq.mono g1.le) hbd.1
  (refine r83 ?_)
  refine L_callR hal rfl rfl fun v w2 ⟨H2, us, q2, c2, hv, _, g2, hrep, hsl, _⟩ => ?_
  subst hv
  simp only [substL, RepL] at hrep
  obtain ⟨u, _, rfl, hr, rfl⟩ := hrep
  obtain ⟨⟨T0, x0, rfl⟩, g, off, gcs, T, rfl, hg, hgv⟩ := hsl 0 u rfl
  have hA2 := g2.ag
  have hb4' := g2.le _ _ hb4
  have hAg : ∀ w', Ext No w2 w' → Agree H2 w' := fun _ he => hA2.ext0 he
  (refine r83 ?_)
  (refine G_draw No (0 :: 1 :: 2 :: 3 :: 4 :: 5 :: 6 :: 7 :: []) [5] follows (by kernel_rfl) rfl ?_)
  (repeat (first | (refine cD_load ?_; refine D_val0 (fun w he => R_loadH (hAg w he) rfl hg hgv) rfl rfl ?_) | (refine cD_indexAddr ?_; refine D_valE (fun _ _ => R_ia rfl rfl (by omega) (by simp)) (iaO _ _ 0) rfl rfl ?_) | refine r84 hAg ?_))
  refine D_callRR (fun w he => newArray_any T0 x0 n w) rfl fun w3 v w4 he3 ⟨a, hv, hn3⟩ => ⟨hn3.ext, ?_⟩
  subst hv
  obtain ⟨H3, g3, ha⟩ := Grow.ofNew (hAg _ he3) hn3
  have hAg3 : ∀ w', Ext No w4 w' → Agree H3 w' := fun _ he => g3.ag.ext0 he
  (refine r86 hAg3 ?_)
  refine D_nil fun w5 he5 => ?_
  (refine r83 ?_)
  (refine G_retF rfl ?_)
  exact ⟨.iface 99 (ptr a), rfl, H3, g1.trans (g2.trans ((Grow.quiet hA2 he3).trans (g3.trans (Grow.quiet g3.ag he5)))), by rw [substT_node (by decide)]; exact ⟨[.iface T0 x0], ⟨_, [], rfl, Rep.mono g3.le _ _ hr, rfl⟩, .array ha hn0⟩, fun _ _ _ => ⟨_, a, rfl, rfl⟩⟩

theorem typ_map (ih : ∀ e ∈ es, TypOK E ds p dcap bB own e) (hsh : shapedB (ds.take m) params own (.mk 7 n c b nm es) = true) : TypOK E ds p dcap bB own (.mk 7 n c b nm es) := by
  intro cs H w ts vs q qc hA hP hB ht hd hown hts hq
  obtain ⟨e, e2, rfl⟩ := headB_two (show headB (ds.take m) 7 n c b es params own = true from shaped_head hsh)
  simp only [DTy] at ht
  obtain ⟨p', cap, rfl, -, -, -, hbd, hes⟩ := ht
  (refine calls_enter Tryz.func24 Tryz.ntmps24 rfl rfl ?_)
  (refine r83 ?_)
  refine L_box rfl rfl rfl fun b4 w1 hn1 => ?_
  obtain ⟨H1, g1, hb4⟩ := Grow.ofNew hA hn1
  have hA1 := g1.ag
  have hal := all_any (qc := qc) (ecap := cap) ih w1 hA1 (hP.mono g1.le) (hB.mono g1.le) (DSl.mono g1.le hes) (hd.mono g1.le) hown (RepL.mono g1.le _ _ hts) (hq.mono g1.le) hbd.1
  (refine r83 ?_)
  refine L_callR hal rfl rfl fun v w2 ⟨H2, us, q2, c2, hv, _, g2, hrep, hsl, _⟩ => ?_
  subst hv
  simp only [substL, RepL] at hrep
  obtain ⟨u, _, rfl, hr, u2, _, rfl, hr2, rfl⟩ := hrep
  obtain ⟨⟨T0, x0, rfl⟩, g, off, gcs, T, hq2, hg, hgv⟩ := hsl 0 u rfl
  obtain ⟨⟨T1, x1, rfl⟩, g', off', gcs', T', hq3, hg', hgv'⟩ := hsl 1 u2 rfl
  subst hq2
  injection hq3 with hq3
  injection hq3 with hq3 hq4
  subst hq3
  subst hq4
  have hA2 := g2.ag
  have hb4' := g2.le _ _ hb4
  have hAg : ∀ w', Ext No w2 w' → Agree H2 w' := fun _ he => hA2.ext0 he
  (refine r83 ?_)
  (refine G_draw No (0 :: 1 :: 2 :: 3 :: 4 :: 5 :: 6 :: 7 :: 8 :: []) [6] follows (by kernel_rfl) rfl ?_)
  (repeat (first | (refine cD_load ?_; first | refine D_val0 (fun w he => R_loadH (hAg w he) rfl hg hgv) rfl rfl ?_ | refine D_val0 (fun w he => R_loadH (hAg w he) rfl hg' hgv') rfl rfl ?_) | (refine cD_indexAddr ?_; first | refine D_valE (fun _ _ => R_ia rfl rfl (by omega) (by simp)) (iaO _ _ 0) rfl rfl ?_ | refine D_valE (fun _ _ => R_ia rfl rfl (by omega) (by simp)) (iaO _ _ 1) rfl rfl ?_) | refine r84 hAg ?_))
  refine D_callRR (fun w he => newMap_any T0 T1 x0 x1 w) rfl fun w3 v w4 he3 ⟨a, hv, hn3⟩ => ⟨hn3.ext, ?_⟩
  subst hv
  obtain ⟨H3, g3, ha⟩ := Grow.ofNew (hAg _ he3) hn3
  have hAg3 : ∀ w', Ext No w4 w' → Agree H3 w' := fun _ he => g3.ag.ext0 he
  (refine r86 hAg3 ?_)
  refine D_nil fun w5 he5 => ?_
  (refine r83 ?_)
  (refine G_retF rfl ?_)
  exact ⟨.iface 101 (ptr a), rfl, H3, g1.trans (g2.trans ((Grow.quiet hA2 he3).trans (g3.trans (Grow.quiet g3.ag he5)))), by rw [substT_node (by decide)]; exact ⟨[.iface T0 x0, .iface T1 x1], ⟨_, _, rfl, Rep.mono g3.le _ _ hr, _, [], rfl, Rep.mono g3.le _ _ hr2, rfl⟩, .map ha⟩, fun _ _ _ => ⟨_, a, rfl, rfl⟩⟩

theorem typ_chan (ih : ∀ e ∈ es, TypOK E ds p dcap bB own e) (hsh : shapedB (ds.take m) params own (.mk 8 n c b nm es) = true) : TypOK E ds p dcap bB own (.mk 8 n c b nm es) := by
  intro cs H w ts vs q qc hA hP hB ht hd hown hts hq
  obtain ⟨hn0, h3n⟩ := headB_chan (show headB (ds.take m) 8 n c b es params own = true from shaped_head hsh)
  obtain ⟨e, rfl⟩ := headB_one (show headB (ds.take m) 8 n c b es params own = true from shaped_head hsh) rfl
  simp only [DTy] at ht
  obtain ⟨p', cap, rfl, -, -, -, hbd, hes⟩ := ht
  (refine calls_enter Tryz.func24 Tryz.ntmps24 rfl rfl ?_)
  (refine r83 ?_)
  refine L_box rfl rfl rfl fun b4 w1 hn1 => ?_
  obtain ⟨H1, g1, hb4⟩ := Grow.ofNew hA hn1
  have hA1 := g1.ag
  have hal := all_any (qc := qc) (ecap := cap) ih w1 hA1 (hP.mono g1.le) (hB.mono g1.le) (DSl.mono g1.le hes) (hd.mono g1.le) hown (RepL.mono g1.le _ _ hts) (hq.mono g1.le) hbd.1
  (refine r83 ?_)
  refine L_callR hal rfl rfl fun v w2 ⟨H2, us, q2, c2, hv, _, g2, hrep, hsl, _⟩ => ?_
  subst hv
  simp only [substL, RepL] at hrep
  obtain ⟨u, _, rfl, hr, rfl⟩ := hrep
  obtain ⟨⟨T0, x0, rfl⟩, g, off, gcs, T, rfl, hg, hgv⟩ := hsl 0 u rfl
  have hA2 := g2.ag
  have hb4' := g2.le _ _ hb4
  have hAg : ∀ w', Ext No w2 w' → Agree H2 w' := fun _ he => hA2.ext0 he
  (refine r83 ?_)
  (refine G_draw No (0 :: 1 :: 2 :: 3 :: 4 :: 5 :: 6 :: 7 :: 8 :: []) [6] follows (by kernel_rfl) rfl ?_)
  (repeat (first | (refine cD_load ?_; refine D_val0 (fun w he => R_loadH (hAg w he) rfl hg hgv) rfl rfl ?_) | (refine cD_call ?_; refine D_callQ (fun w he => Is.qt (direction_any n w hn0 h3n)) rfl ?_) | (refine cD_indexAddr ?_; refine D_valE (fun _ _ => R_ia rfl rfl (by omega) (by simp)) (iaO _ _ 0) rfl rfl ?_) | refine r84 hAg ?_))
  refine D_callRR (fun w he => newChan_any T0 x0 n w) rfl fun w3 v w4 he3 ⟨a, hv, hn3⟩ => ⟨hn3.ext, ?_⟩
  subst hv
  obtain ⟨H3, g3, ha⟩ := Grow.ofNew (hAg _ he3) hn3
  have hAg3 : ∀ w', Ext No w4 w' → Agree H3 w' := fun _ he => g3.ag.ext0 he
  (refine r86 hAg3 ?_)
  refine D_nil fun w5 he5 => ?_
  (refine r83 ?_)
  (refine G_retF rfl ?_)
  exact ⟨.iface 103 (ptr a), rfl, H3, g1.trans (g2.trans ((Grow.quiet hA2 he3).trans (g3.trans (Grow.quiet g3.ag he5)))), by rw [substT_node (by decide)]; exact ⟨[.iface T0 x0], ⟨_, [], rfl, Rep.mono g3.le _ _ hr, rfl⟩, .chan ha hn0 h3n⟩, fun _ _ _ => ⟨_, a, rfl, rfl⟩⟩

end
end Go.Proofs.YtjilnjifegeceaaGreatDoor

/-
  The thin package's 'typ': struct types.
-/
namespace Go.Proofs.YtjilnjifegeceaaGreatDoor
set_option maxRecDepth 100000
set_option maxHeartbeats 4000000

theorem r87 {G G' A : Prop} (ag : A) (k : G') (h : Hid G' → A → G := by intro k_ ag_; (first | (refine cX_move ?_; first | refine X_val0 (fun _ _ => R_move) rfl rfl ?_ | refine X_pure (fun _ => R_move) rfl rfl ?_) | (refine cX_load ?_; refine X_val0 (fun w he => R_loadH (ag_ w he) rfl (by assumption) (by rfl)) rfl rfl ?_) | (refine cX_fieldAddr ?_; first | refine X_val0 (fun _ _ => R_fa rfl) rfl rfl ?_ | refine X_pure (fun _ => R_fa rfl) rfl rfl ?_) | (refine cX_nilCheck ?_; first | refine X_val0 (fun _ _ => R_nil rfl) rfl rfl ?_ | refine X_pure (fun _ => R_nil rfl) rfl rfl ?_) | (refine cX_assign ?_; first | refine X_val0 (fun _ _ => R_assign) rfl rfl ?_ | refine X_pure (fun _ => R_assign) rfl rfl ?_) | (refine cX_call ?_; first | refine X_val0 (fun _ _ => R_len rfl) rfl rfl ?_ | refine X_pure (fun _ => R_len rfl) rfl rfl ?_) | (refine cX_eql ?_; first | refine X_val0 (fun _ _ => R_eqPN rfl rfl) rfl rfl ?_ | refine X_pure (fun _ => R_eqPN rfl rfl) rfl rfl ?_ | refine X_val0 (fun _ _ => R_eqI rfl rfl) rfl rfl ?_ | refine X_pure (fun _ => R_eqI rfl rfl) rfl rfl ?_ | refine X_val0 (fun _ _ => R_eqB rfl rfl) rfl rfl ?_ | refine X_pure (fun _ => R_eqB rfl rfl) rfl rfl ?_ | refine X_val0 (fun _ _ => R_eqIfN rfl rfl) rfl rfl ?_ | refine X_pure (fun _ => R_eqIfN rfl rfl) rfl rfl ?_ | refine X_val0 (fun _ _ => R_eqIfNN rfl) rfl rfl ?_ | refine X_pure (fun _ => R_eqIfNN rfl) rfl rfl ?_) | (refine cX_lss ?_; first | refine X_val0 (fun _ _ => R_ltI rfl rfl) rfl rfl ?_ | refine X_pure (fun _ => R_ltI rfl rfl) rfl rfl ?_) | (refine cX_makeInterface ?_; first | refine X_val0 (fun _ _ => R_mkI) rfl rfl ?_ | refine X_pure (fun _ => R_mkI) rfl rfl ?_) | (refine cX_add ?_; first | refine X_val0 (fun _ _ => R_addI rfl rfl) rfl rfl ?_ | refine X_pure (fun _ => R_addI rfl rfl) rfl rfl ?_)); exact k_.out) : G := h ⟨k⟩ ag
theorem r88 {G G' A : Prop} (ag : A) (k : G') (h : Hid G' → A → G := by intro k_ ag_; (repeat (first | (refine cX_move ?_; first | refine X_val0 (fun _ _ => R_move) rfl rfl ?_ | refine X_pure (fun _ => R_move) rfl rfl ?_) | (refine cX_load ?_; refine X_val0 (fun w he => R_loadH (ag_ w he) rfl (by assumption) (by rfl)) rfl rfl ?_) | (refine cX_fieldAddr ?_; first | refine X_val0 (fun _ _ => R_fa rfl) rfl rfl ?_ | refine X_pure (fun _ => R_fa rfl) rfl rfl ?_) | (refine cX_nilCheck ?_; first | refine X_val0 (fun _ _ => R_nil rfl) rfl rfl ?_ | refine X_pure (fun _ => R_nil rfl) rfl rfl ?_) | (refine cX_assign ?_; first | refine X_val0 (fun _ _ => R_assign) rfl rfl ?_ | refine X_pure (fun _ => R_assign) rfl rfl ?_) | (refine cX_call ?_; first | refine X_val0 (fun _ _ => R_len rfl) rfl rfl ?_ | refine X_pure (fun _ => R_len rfl) rfl rfl ?_) | (refine cX_eql ?_; first | refine X_val0 (fun _ _ => R_eqPN rfl rfl) rfl rfl ?_ | refine X_pure (fun _ => R_eqPN rfl rfl) rfl rfl ?_ | refine X_val0 (fun _ _ => R_eqI rfl rfl) rfl rfl ?_ | refine X_pure (fun _ => R_eqI rfl rfl) rfl rfl ?_ | refine X_val0 (fun _ _ => R_eqB rfl rfl) rfl rfl ?_ | refine X_pure (fun _ => R_eqB rfl rfl) rfl rfl ?_ | refine X_val0 (fun _ _ => R_eqIfN rfl rfl) rfl rfl ?_ | refine X_pure (fun _ => R_eqIfN rfl rfl) rfl rfl ?_ | refine X_val0 (fun _ _ => R_eqIfNN rfl) rfl rfl ?_ | refine X_pure (fun _ => R_eqIfNN rfl) rfl rfl ?_) | (refine cX_lss ?_; first | refine X_val0 (fun _ _ => R_ltI rfl rfl) rfl rfl ?_ | refine X_pure (fun _ => R_ltI rfl rfl) rfl rfl ?_) | (refine cX_makeInterface ?_; first | refine X_val0 (fun _ _ => R_mkI) rfl rfl ?_ | refine X_pure (fun _ => R_mkI) rfl rfl ?_) | (refine cX_add ?_; first | refine X_val0 (fun _ _ => R_addI rfl rfl) rfl rfl ?_ | refine X_pure (fun _ => R_addI rfl rfl) rfl rfl ?_))); exact k_.out) : G := h ⟨k⟩ ag

theorem capital_of {s : ByteArray} (h : letterB s = true) : capital s := by
  simp only [letterB, Bool.and_eq_true] at h
  obtain ⟨h1, h2, h3⟩ := h
  have hs : s.data.size = 1 := by
    have : (s.size : Int) = 1 := by simpa using h1
    have : s.size = 1 := by omega
    exact this
  obtain ⟨u, hu⟩ : ∃ u, s.toList = [u] := by
    rw [ByteArray.toList_eq]
    exact List.length_eq_one_iff.1 (by simpa using hs)
  refine ⟨u, hu, ?_, ?_⟩
  · rw [hu, show (⟨#[65]⟩ : ByteArray).toList = [65] from by rw [ByteArray.toList_eq]] at h2
    simp [Op.bytesLess] at h2
    exact UInt8.le_iff_toNat_le.1 h2
  · rw [hu, show (⟨#[90]⟩ : ByteArray).toList = [90] from by rw [ByteArray.toList_eq]] at h3
    simp [Op.bytesLess] at h3
    rcases h3 with h3 | h3
    · have := UInt8.lt_iff_toNat_lt.1 h3
      have e : (90 : UInt8).toNat = 90 := rfl
      omega
    · rw [h3]; decide

theorem names_caps {es : List Ty} (h : namesB es = true) : ∀ s ∈ es.map Ty.nm, capital s := by
  intro s hs
  obtain ⟨e, he, rfl⟩ := List.mem_map.1 hs
  obtain ⟨i, hi⟩ := List.mem_iff_getElem?.1 he
  have hlt := (List.getElem?_eq_some_iff.1 hi).1
  have h1 := List.all_eq_true.1 h i (List.mem_range.2 hlt)
  simp only [nameB, Bool.and_eq_true] at h1
  have h2 := h1.2
  simp only [nmAt, hi, Option.map_some, Option.getD_some] at h2
  exact capital_of h2
theorem names_dis {es : List Ty} (h : namesB es = true) : ∀ (i j : Nat) (a b : ByteArray), i < j → (es.map Ty.nm)[i]? = some a → (es.map Ty.nm)[j]? = some b → beqB b a = false := by
  intro i j a b hij ha hb
  rw [List.getElem?_map] at ha hb
  obtain ⟨e, he, rfl⟩ := Option.map_eq_some_iff.1 ha
  obtain ⟨e', he', rfl⟩ := Option.map_eq_some_iff.1 hb
  have hlt := (List.getElem?_eq_some_iff.1 he').1
  have h1 := List.all_eq_true.1 h j (List.mem_range.2 hlt)
  simp only [nameB, Bool.and_eq_true] at h1
  have h2 := List.all_eq_true.1 h1.1 i (List.mem_range.2 hij)
  simp only [nmAt, he, he', Option.map_some, Option.getD_some, Bool.not_eq_true'] at h2
  unfold beqB at h2 ⊢
  rw [Bool.beq_comm]
  exact h2
theorem shaped_names {ds : List (Int × Ty)} {params own n c : Int} {b : Bool} {nm : ByteArray} {es : List Ty} (h : shapedB ds params own (.mk 9 n c b nm es) = true) : namesB es = true := by
  simp only [shapedB, Bool.and_eq_true] at h
  simpa using h.2.2

attribute [local irreducible] Calls execOp

theorem typ_struct {E : Env} {ds : List (Int × Ty)} {p : Option Addr} {dcap bB m : Nat} {params own n c : Int} {b : Bool} {nm : ByteArray} {es : List Ty} (ih : ∀ e ∈ es, TypOK E ds p dcap bB own e) (hsh : shapedB (ds.take m) params own (.mk 9 n c b nm es) = true) : TypOK E ds p dcap bB own (.mk 9 n c b nm es) := by
  intro cs H w ts vs q qc hA hP hB ht hd hown hts hq
  have hnm := shaped_names hsh
  simp only [DTy] at ht
  obtain ⟨p', cap, rfl, -, -, -, hbd, hes⟩ := ht
  (refine calls_enter Tryz.func24 Tryz.ntmps24 rfl rfl ?_)
  (refine r83 ?_)
  refine L_box rfl rfl rfl fun b4 w1 hn1 => ?_
  obtain ⟨H1, g1, hb4⟩ := Grow.ofNew hA hn1
  have hA1 := g1.ag
  have hal := all_any (qc := qc) (ecap := cap) ih w1 hA1 (hP.mono g1.le) (hB.mono g1.le) (DSl.mono g1.le hes) (hd.mono g1.le) hown (RepL.mono g1.le _ _ hts) (hq.mono g1.le) hbd.1
  (refine r83 ?_)
  refine L_callR hal rfl rfl fun v w2 ⟨H2, us, q2, c2, hv, _, g2, hrep, hsl, _⟩ => ?_
  subst hv
  have g12 := g1.trans g2
  have hA2 := g2.ag
  have hb4' := g2.le _ _ hb4
  have hes2 : DSl H2 es p' := DSl.mono g12.le hes
  obtain ⟨pk, vd, cd, vp, cp, hbb, -, -⟩ := (hB.mono g12.le).blk
  have hul : us.length = es.length := by have := hrep.length; rw [substL_len] at this; exact this.symm
  have hbl := hbd.1
  have hA2' := hA2
  clear hA2
  have hA2 := hA2'
  (refine r83 ?_)
  refine G_loop (fun f ds0 w0 => ds0 = [] ∧ ∃ (f0 : Fm) (i : Nat) (va : Value) (xs : List Value) (Hi : Hp), f = with_ [(90, .int .i64 (i : Int)), (89, .int .i64 (us.length : Int)), (88, .slice q2 us.length c2), (0, ptr bB), (4, ptr b4), (8, va)] f0 ∧ i ≤ us.length ∧ Grow H2 w2 Hi w0 ∧ OwnS w0 108 va xs ∧
      (∀ g, va.ownBlock = some g → Hi g = none ∧ w2.heap.size ≤ g) ∧ xs.length = i ∧ VarsIs Hi ((es.map Ty.nm).take i) (us.take i) xs ∧ (i = 0 → va = .slice none 0 0)) (fun f _ _ => countM 90 89 f)
    ⟨rfl, _, 0, .slice none 0 0, [], H2, with_self ⟨rfl, rfl, rfl, rfl, rfl, rfl, trivial⟩, Nat.zero_le _, Grow.refl hA2, .inl ⟨rfl, rfl⟩, (fun g hg => by cases hg), rfl, (by simp [VarsIs]), fun _ => rfl⟩ ?_
  rintro f ds0 wr ⟨rfl, f0, i, va, xs, Hi, rfl, hi, gr, hown', hob, hxl, hvars, hnil⟩
  by_cases h : i < us.length
  · have hbt : decide ((i : Int) < (us.length : Int)) = true := decide_eq_true (by omega)
    obtain ⟨u, hu⟩ : ∃ u, us[i]? = some u := ⟨_, List.getElem?_eq_getElem h⟩
    obtain ⟨⟨T, x, rfl⟩, g, off, gcs, T', rfl, hg, hgv⟩ := hsl i u hu
    obtain ⟨e, he⟩ : ∃ e, es[i]? = some e := ⟨_, List.getElem?_eq_getElem (by omega)⟩
    obtain ⟨bk, eoff, ec, hp', hec, hed⟩ := hes2.get he
    obtain ⟨q', qcap, rfl, -, -, -, -, -⟩ := hed.cells
    subst hp'
    have hAr := gr.ag
    have hg' := gr.le _ _ hg
    have hbb' := gr.le _ _ hbb
    have hb4r := gr.le _ _ hb4'
    have hec' := hec.mono gr.le
    have hAg : ∀ w', Ext No wr w' → Agree Hi w' := fun _ he => hAr.ext0 he
    have hnmc : ∀ w', Ext No wr w' → w'.cell? ⟨bk, eoff + i * 6 + 5, none⟩ = some (.string e.nm) := fun w' he => (hAg w' he).hcell (hec' 5 _ rfl)
    (repeat (first | (refine cL ?_; first | (refine cL_load ?_; refine L_val (R_loadH hAr rfl hg' hgv) rfl rfl rfl ?_) | (refine cL_lss ?_; refine L_valB (R_ltI rfl rfl) hbt rfl rfl rfl ?_) | (refine cL_indexAddr ?_; refine L_valE (R_ia rfl rfl (by omega) (by omega)) (iaO _ _ _) rfl rfl rfl ?_)) | refine r85 ?_))
    (refine G_drawX No (.op 0 (.op 1 (.op 2 (.op 3 (.op 4 (.op 5 (.op 6 (.op 7 (.op 8 (.op 9 (.op 10 (.op 11 (.op 12 (.op 13 (.op 14 (.op 15 .nil)))))))))))))))) [(12, 1), (13, 1), (14, 2)] follows (by kernel_rfl) ?_)
    (repeat (first | (refine cX_load ?_; refine X_val0 (fun w he => R_load rfl (hnmc w he)) rfl rfl ?_) | (refine cX_indexAddr ?_; refine X_valE (fun _ _ => R_ia rfl rfl (by omega) (by omega)) (ia6 _ _ _) rfl rfl ?_) | refine r87 hAg ?_))
    refine X_call (fun w he => newField_any 0 pk e.nm T x w) rfl fun w3 v w4 he3 ⟨av, hv, hn4⟩ => ⟨hn4.ext, ?_⟩
    subst hv
    refine X_make rfl rfl fun w5 he5 => ⟨_, _, R_buildSlice (vs := [ptr av]) rfl rfl rfl rfl, Ext.alloc w5 _, ?_⟩
    have hn6 := newB_alloc w5 (Ob (flat [ptr av]) 108)
    have x5 : Ext No wr w5 := he3.trans (hn4.ext.trans he5)
    obtain ⟨H4, g4, hav⟩ := Grow.ofNew (hAr.ext0 he3) hn4
    have gA : Grow Hi wr H4 w5 := (Grow.quiet hAr he3).trans (g4.trans (Grow.quiet g4.ag he5))
    refine X_push (v := va) (u := ptr av) rfl (fun w7 he7 => (hown'.ext x5 (fun _ _ h => h)).ext (hn6.ext.trans he7) (fun _ _ h => h)) rfl (fun w7 he7 => he7.heap (fun h => h) hn6.here) rfl (by omega) (by simp only [maxLen]; omega) rfl fun w7 va' w8 he7 hpu => ?_
    (refine r88 hAg ?_)
    refine X_nil fun w9 he9 => ?_
    (repeat (first | (refine cL ?_; first | (refine cL_add ?_; refine L_valE (R_addI rfl rfl) (succ_i64 h (by omega)) rfl rfl rfl ?_)) | refine r85 ?_))
    have x57 : Ext No w5 w7 := hn6.ext.trans he7
    have gB : Grow H2 w2 H4 w7 := gr.trans (gA.trans (Grow.quiet gA.ag x57))
    have hlt4 : ∀ b o, va.ownBlock = some b → H4 b = some o → False := fun b o hvb hb4 => by
      have h1 := hown'.lt b hvb
      rcases gA.new b o hb4 with h2 | h2
      · rw [(hob b hvb).1] at h2; cases h2
      · omega
    have hA8 : Agree H4 w8 := gB.ag.ext hpu.ext fun b o hb hm => hlt4 b o hm.symm hb
    have gC : Grow H2 w2 H4 w8 := ⟨gB.le, hA8, gB.new, gB.ext.trans_new hpu.ext fun k hk hm => by have := (hob k hm.symm).2; omega⟩
    have hob8 : ∀ g, va'.ownBlock = some g → H4 g = none ∧ w2.heap.size ≤ g := fun g hg8 => by
      rcases hpu.blk with hbk | hbk
      · rw [hbk] at hg8
        refine ⟨?_, (hob g hg8).2⟩
        cases hh : H4 g with
        | none => rfl
        | some o => exact (hlt4 g o hg8 hh).elim
      · rw [hbk] at hg8
        injection hg8 with hg8
        have := gB.ext.size
        refine ⟨?_, by omega⟩
        cases hh : H4 g with
        | none => rfl
        | some o => have := gB.ag.lt hh; omega
    have htk : us.take (i + 1) = us.take i ++ [.iface T x] := by rw [List.take_add_one, hu]; rfl
    have htn : (es.map Ty.nm).take (i + 1) = (es.map Ty.nm).take i ++ [e.nm] := by rw [List.take_add_one, List.getElem?_map, he]; rfl
    have hl1 : (us.take i).length = i := by rw [List.length_take]; omega
    have hl2 : ((es.map Ty.nm).take i).length = i := by rw [List.length_take, List.length_map]; omega
    have hvars8 : VarsIs H4 ((es.map Ty.nm).take (i + 1)) (us.take (i + 1)) (xs ++ [ptr av]) := by
      rw [htk, htn]
      exact VarsIs.snoc ⟨av, _, _, _, rfl, hav⟩ (hvars.mono gA.le) (hl2.trans hl1.symm) (hxl.trans hl1.symm)
    have gD := gC.trans (Grow.quiet hA8 he9)
    have hown9 := hpu.own.ext he9 (fun _ _ h => h)
    refine G_inv ⟨⟨rfl, _, i + 1, va', xs ++ [ptr av], H4, with_self ⟨rfl, rfl, rfl, rfl, rfl, rfl, trivial⟩, h, gD, hown9, hob8, by simp [hxl], hvars8, fun h0 => by omega⟩, ?_⟩
    show ((us.length : Int) - ((i + 1 : Nat) : Int)).toNat < ((us.length : Int) - (i : Int)).toNat
    omega
  · have hbt : decide ((i : Int) < (us.length : Int)) = false := decide_eq_false (by omega)
    have hil : i = us.length := by omega
    have htk : us.take i = us := by rw [hil]; exact List.take_length
    have htn : (es.map Ty.nm).take i = es.map Ty.nm := List.take_of_length_le (by rw [List.length_map]; omega)
    rw [htk, htn] at hvars
    (repeat (first | (refine cL ?_; first | (refine cL_lss ?_; refine L_valB (R_ltI rfl rfl) hbt rfl rfl rfl ?_)) | refine G_exit rfl ?_ | refine r85 ?_))
    have hfs : ∃ q5 c5 H5, va = .slice q5 us.length c5 ∧ Grow H2 w2 H5 wr ∧ FieldSl H5 (es.map Ty.nm) us q5 c5 := by
      rcases hown' with ⟨rfl, rfl⟩ | ⟨g, c, r, rfl, hg, hgl⟩
      · have h0 : us.length = 0 := by rw [← hil]; exact hxl.symm
        have hue : us = [] := List.length_eq_zero_iff.1 h0
        have hee : es = [] := List.length_eq_zero_iff.1 (by omega)
        subst hue
        subst hee
        exact ⟨none, 0, Hi, rfl, gr, .inl ⟨rfl, rfl, rfl, rfl⟩⟩
      · obtain ⟨Hg, gg, leg, hHg⟩ := gr.add hg (hob g rfl).2
        have hlen : xs.length = us.length := hxl.trans hil
        refine ⟨some ⟨g, 0, none⟩, c, Hg, by rw [hlen], gg, .inr ⟨g, c, xs ++ r, rfl, hHg, (hvars.mono leg).more⟩⟩
    obtain ⟨q5, c5, H5, rfl, g5, hfs⟩ := hfs
    have hns := newStruct_any wr g5.ag (hP.mono (Hp.le_trans g12.le g5.le)) hfs (by simp [hul]) (names_caps hnm) (names_dis hnm) (by omega)
    refine L_callR hns rfl rfl fun v w3 ⟨a, H6, sl', hv, g6, ha, hvs⟩ => ?_
    subst hv
    (refine r83 ?_)
    (refine G_retF rfl ?_)
    exact ⟨.iface 111 (ptr a), rfl, H6, g12.trans (g5.trans g6), by rw [substT_node (by decide)]; exact ⟨us, RepL.mono (Hp.le_trans g5.le g6.le) _ _ hrep, .struct ha (by rw [substL_nm]; exact hvs) (by rw [substL_nm]; exact names_caps hnm) (by simp [substL_len, hul])⟩, fun _ _ _ => ⟨_, a, rfl, rfl⟩⟩
end Go.Proofs.YtjilnjifegeceaaGreatDoor

/-
  The thin package's 'typ': function types.
-/
namespace Go.Proofs.YtjilnjifegeceaaGreatDoor
set_option maxRecDepth 100000
set_option maxHeartbeats 4000000

theorem headB_func {ds : List (Int × Ty)} {n c : Int} {b : Bool} {es : List Ty} {params own : Int} (h : headB ds 10 n c b es params own = true) : 0 ≤ c ∧ c ≤ es.length ∧ (b = true → 0 < c ∧ ∃ e, es[(c - 1).toNat]? = some e ∧ e.k = 5) := by
  simp only [headB, Bool.and_eq_true, Bool.not_eq_true'] at h
  have h8 := h.2.2.2
  simp only [head8, beq_self_eq_true, Bool.true_and, Bool.or_eq_false_iff, decide_eq_false_iff_not] at h8
  obtain ⟨h1, h2, h3⟩ := h8
  refine ⟨by omega, by omega, fun hb => ?_⟩
  subst hb
  simp only [Bool.true_and, Bool.or_eq_false_iff] at h3
  obtain ⟨h3, h4⟩ := h3
  have hc : c ≠ 0 := by simpa using h3
  obtain ⟨e, he⟩ : ∃ e, es[(c - 1).toNat]? = some e := ⟨_, List.getElem?_eq_getElem (by omega)⟩
  refine ⟨by omega, e, he, ?_⟩
  rw [he] at h4
  simpa using h4

theorem Sh.inv5 {E : Env} {H : Hp} {k n c : Int} {b : Bool} {nms : List ByteArray} {vs : List Value} {v : Value} (h : Sh E H k n c b nms vs v) (hk : k = 5) : ∃ a, v = .iface 97 (ptr a) := by
  cases h <;> first
    | exact ⟨_, rfl⟩
    | exact absurd hk (by decide)
theorem rep_slice {E : Env} {H : Hp} {ts : List Ty} {e : Ty} {v : Value} (h : Rep E H (substT ts e) v) (hk : e.k = 5) : ∃ a, v = .iface 97 (ptr a) := by
  obtain ⟨k, n, c, b, nm, es⟩ := e
  simp only [Ty.k] at hk
  subst hk
  rw [substT_node (by decide)] at h
  simp only [Rep] at h
  obtain ⟨vs, _, hS⟩ := h
  exact hS.inv5 rfl

theorem TupIs.ptr {H : Hp} {vs : List Value} {x : Value} (h : TupIs H vs x) : ∃ px, x = .pointer px := by
  rcases h with ⟨rfl, _⟩ | ⟨a, sl, rfl, _⟩
  · exact ⟨_, rfl⟩
  · exact ⟨_, rfl⟩

theorem slAt_take {H : Hp} {us : List Value} {q : Option Addr} (n : Nat) (h : SlAt H us q) : SlAt H (us.take n) q := fun i v hv =>
  h i v (by
    rw [List.getElem?_take] at hv
    split at hv
    · exact hv
    · cases hv)
theorem slAt_drop {H : Hp} {us : List Value} {q : Option Addr} (n cap : Nat) (hc : us.length ≤ cap) (h : SlAt H us q) : SlAt H (us.drop n) (if cap = n then q else q.map fun a => a.add (n * 1)) := fun i v hv => by
  rw [List.getElem?_drop] at hv
  have hlt := (List.getElem?_eq_some_iff.1 hv).1
  obtain ⟨h1, g, off, cs, T, rfl, h3, h4⟩ := h _ v hv
  rw [if_neg (by omega)]
  exact ⟨h1, g, off + n, cs, T, by simp [Addr.add], h3, by rw [← h4]; congr 1; omega⟩

attribute [local irreducible] Calls execOp

theorem newSig_any {H : Hp} {vs : List Value} {px py : Option Addr} {b : Bool} (w : World) (hA : Agree H w) (hx : TupIs H vs (.pointer px)) (hb : b = true → ∃ sa, vs[vs.length - 1]? = some (.iface 97 (ptr sa))) (hbd : vs.length < 9223372036854775808) :
    Calls Tryz.prog 48 #[.pointer none, .slice none 0 0, .slice none 0 0, .pointer px, .pointer py, .bool b] w (Ret fun r w' => ∃ a H', r = ptr a ∧ Grow H w H' w' ∧ H' a = some (Ob [.pointer none, .pointer none, .pointer px, .pointer py, .bool b] 134)) := by
  cases b with
  | true =>
    obtain ⟨sa, hs⟩ := hb rfl
    exact newSig_var w hA hx hs hbd
  | false =>
    refine (newSig_plain px py w).mono fun e w' ⟨v, he, a, hv, hn⟩ => ⟨v, he, ?_⟩
    obtain ⟨H', g, h⟩ := Grow.ofNew hA hn
    exact ⟨a, H', hv, g, h⟩

theorem typ_func {E : Env} {ds : List (Int × Ty)} {p : Option Addr} {dcap bB m : Nat} {params own n c : Int} {b : Bool} {nm : ByteArray} {es : List Ty} (ih : ∀ e ∈ es, TypOK E ds p dcap bB own e) (hsh : shapedB (ds.take m) params own (.mk 10 n c b nm es) = true) : TypOK E ds p dcap bB own (.mk 10 n c b nm es) := by
  intro cs H w ts vs q qc hA hP hB ht hd hown hts hq
  obtain ⟨hc0, hc1, hvar⟩ := headB_func (show headB (ds.take m) 10 n c b es params own = true from shaped_head hsh)
  simp only [DTy] at ht
  obtain ⟨p', cap, rfl, -, -, -, hbd, hes⟩ := ht
  (refine calls_enter Tryz.func24 Tryz.ntmps24 rfl rfl ?_)
  (refine r83 ?_)
  refine L_box rfl rfl rfl fun b4 w1 hn1 => ?_
  obtain ⟨H1, g1, hb4⟩ := Grow.ofNew hA hn1
  have hA1 := g1.ag
  have hal := all_any (qc := qc) (ecap := cap) ih w1 hA1 (hP.mono g1.le) (hB.mono g1.le) (DSl.mono g1.le hes) (hd.mono g1.le) hown (RepL.mono g1.le _ _ hts) (hq.mono g1.le) hbd.1
  (refine r83 ?_)
  refine L_callR hal rfl rfl fun v w2 ⟨H2, us, q2, c2, hv, hcap2, g2, hrep, hsl, _⟩ => ?_
  subst hv
  have g12 := g1.trans g2
  have hA2 := g2.ag
  have hb4' := g2.le _ _ hb4
  obtain ⟨pk, vd, cd, vp, cp, hbb, -, -⟩ := (hB.mono g12.le).blk
  have hul : us.length = es.length := by have := hrep.length; rw [substL_len] at this; exact this.symm
  have hbl := hbd.1
  have hAg : ∀ w', Ext No w2 w' → Agree H2 w' := fun _ he => hA2.ext0 he
  have htl : (us.take c.toNat).length = c.toNat := by rw [List.length_take]; omega
  have hdl : (us.drop c.toNat).length = us.length - c.toNat := List.length_drop
  have hlast : b = true → ∃ sa, (us.take c.toNat)[(us.take c.toNat).length - 1]? = some (.iface 97 (ptr sa)) := fun hb => by
    obtain ⟨hcp, e, he, hk⟩ := hvar hb
    have hsub : (substL ts es)[(c - 1).toNat]? = some (substT ts e) := by rw [substL_get, he]; rfl
    obtain ⟨v, hv, hr⟩ := hrep.at hsub
    obtain ⟨a, rfl⟩ := rep_slice hr hk
    refine ⟨a, ?_⟩
    rw [htl, List.getElem?_take, if_pos (by omega), ← hv]
    congr 1
    omega
  (refine r83 ?_)
  (refine G_drawX No (.op 0 (.op 1 (.op 2 (.op 3 (.op 4 (.op 6 (.op 7 (.op 8 (.op 9 (.op 10 (.op 12 (.op 13 (.op 5 (.op 11 (.op 14 (.op 15 (.op 16 .nil))))))))))))))))) [(5, 1), (11, 1), (14, 1)] follows (by kernel_rfl) ?_)
  (repeat (first | (refine cX_slice ?_; first | refine X_val0 (fun _ _ => R_sliceH rfl rfl hc0 (by omega)) rfl rfl ?_ | refine X_val0 (fun _ _ => R_sliceL rfl rfl hc0 (by omega)) rfl rfl ?_) | refine r87 hAg ?_))
  have ht5 := fun w' he => tuple_any (vs := us.take c.toNat) (cap := c2) w' (hAg w' he) ((hAg w' he) _ _ hbb) (slAt_take c.toNat hsl) (by rw [htl]; omega)
  rw [htl] at ht5
  refine X_call ht5 rfl fun w3 x w4 he3 ⟨H4, g4, hx⟩ => ⟨g4.ext, ?_⟩
  have hbb4 := g4.le _ _ hbb
  have hAg4 : ∀ w', Ext No w4 w' → Agree H4 w' := fun _ he => g4.ag.ext0 he
  have hsd := slAt_drop c.toNat c2 hcap2 hsl
  have ht11 := fun w' he => tuple_any (vs := us.drop c.toNat) (cap := c2 - c.toNat) w' (hAg4 w' he) ((hAg4 w' he) _ _ hbb4) (hsd.mono g4.le) (by rw [hdl]; omega)
  rw [hdl] at ht11
  refine X_call ht11 rfl fun w5 y w6 he5 ⟨H6, g6, hy⟩ => ⟨g6.ext, ?_⟩
  have hAg6 : ∀ w', Ext No w6 w' → Agree H6 w' := fun _ he => g6.ag.ext0 he
  obtain ⟨px, rfl⟩ := hx.ptr
  obtain ⟨py, rfl⟩ := hy.ptr
  have hx6 := hx.mono g6.le
  have hns := fun w' (he : Ext No w6 w') => newSig_any (px := px) (b := b) (py := py) w' (hAg6 w' he) hx6 hlast (by rw [htl]; omega)
  refine X_call (Φ := fun w0 r w' => ∃ a H', r = ptr a ∧ Grow H6 w0 H' w' ∧ H' a = some (Ob [.pointer none, .pointer none, .pointer px, .pointer py, .bool b] 134)) hns rfl fun w7 v w8 he7 ⟨a, H8, hv, g8, ha⟩ => ⟨g8.ext, ?_⟩
  subst hv
  have hAg8 : ∀ w', Ext No w8 w' → Agree H8 w' := fun _ he => g8.ag.ext0 he
  (refine r88 hAg8 ?_)
  refine X_nil fun w9 he9 => ?_
  (refine r83 ?_)
  (refine G_retF rfl ?_)
  have gall := g12.trans ((Grow.quiet hA2 he3).trans (g4.trans ((Grow.quiet g4.ag he5).trans (g6.trans ((Grow.quiet g6.ag he7).trans (g8.trans (Grow.quiet g8.ag he9)))))))
  have hle := Hp.le_trans g4.le (Hp.le_trans g6.le g8.le)
  exact ⟨.iface 113 (ptr a), rfl, H8, gall, by rw [substT_node (by decide)]; exact ⟨us, RepL.mono hle _ _ hrep, .func ha (hx6.mono g8.le) (hy.mono g8.le) hc0 (by omega)⟩, fun _ _ _ => ⟨_, a, rfl, rfl⟩⟩
end Go.Proofs.YtjilnjifegeceaaGreatDoor

/-
  The thin package's 'typ': defined types and instances; all of it.
-/
namespace Go.Proofs.YtjilnjifegeceaaGreatDoor
set_option maxRecDepth 100000
set_option maxHeartbeats 4000000
attribute [local irreducible] Calls execOp

/-- what lies under a type literal, through the interface -/
theorem under_lit {f : Fm} {dst : Option Nat} {ty : TypeId} {pos : String} {aft : Array Edge} {g : Option (Nat × Bool)} {x : Operand} {ts : Array TypeId} {T a : Nat} (hT : litT T = true) (hx : ev f x = .iface T (ptr a)) :
    ∃ fn, (∀ w, (execOp (ev f) ⟨dst, .call ⟨.invoke x "Underlying", #[], ts⟩, ty, pos, aft, g⟩).run Tryz.prog w = .ok (.enter fn #[ptr a]) w) ∧ ∀ w, Calls Tryz.prog fn #[ptr a] w (Ret (Is (.iface T (ptr a)) w)) := by
  simp only [litT, Bool.or_eq_true] at hT
  rcases hT with ((((((h | h) | h) | h) | h) | h) | h) | h <;> (have := Nat.eq_of_beq_eq_true h; subst this)
  · exact ⟨_, fun w => R_invoke hx, fun w => under_basic a w⟩
  · exact ⟨_, fun w => R_invoke hx, fun w => under_pointer a w⟩
  · exact ⟨_, fun w => R_invoke hx, fun w => under_slice a w⟩
  · exact ⟨_, fun w => R_invoke hx, fun w => under_array a w⟩
  · exact ⟨_, fun w => R_invoke hx, fun w => under_map a w⟩
  · exact ⟨_, fun w => R_invoke hx, fun w => under_chan a w⟩
  · exact ⟨_, fun w => R_invoke hx, fun w => under_struct a w⟩
  · exact ⟨_, fun w => R_invoke hx, fun w => under_signature a w⟩

theorem D_under {M : Nat → Prop} {ops : List Oper} {K : DK} {rest : List (Oper × Bool)} {f : Fm} {wb : World} {ty : TypeId} {pos : String} {aft : Array Edge} {g : Option (Nat × Bool)} {d : Nat} {x : Operand} {ts : Array TypeId} {T a : Nat} (hT : litT T = true) (hx : ev f x = .iface T (ptr a))
    (hw : wantd ops f ⟨some d, .call ⟨.invoke x "Underlying", #[], ts⟩, ty, pos, aft, g⟩ = true) (h : D Tryz.prog M ops K rest (upd f d (.iface T (ptr a))) wb) : D Tryz.prog M ops K ((⟨some d, .call ⟨.invoke x "Underlying", #[], ts⟩, ty, pos, aft, g⟩, false) :: rest) f wb := by
  obtain ⟨fn, h1, h2⟩ := under_lit (dst := some d) (ty := ty) (pos := pos) (aft := aft) (g := g) (ts := ts) hT hx
  exact D_call h1 hw rfl (fun w _ => (h2 w).mono fun _ _ ⟨v, h3, hv, hw'⟩ => by subst hv; subst hw'; exact ⟨h3, Ext.refl _ _⟩) h

theorem L_under {n : Nat} {ops rest : List Oper} {K : LK} {ds : List Deferred} {f : Fm} {w : World} {ty : TypeId} {pos : String} {aft : Array Edge} {g : Option (Nat × Bool)} {d : Nat} {x : Operand} {ts : Array TypeId} {T a : Nat} (hT : litT T = true) (hx : ev f x = .iface T (ptr a))
    (hw : wantd ops f ⟨some d, .call ⟨.invoke x "Underlying", #[], ts⟩, ty, pos, aft, g⟩ = true) (hn : Nat.blt d n = true) (h : L Tryz.prog n ops K rest (upd f d (.iface T (ptr a))) ds w) : L Tryz.prog n ops K (⟨some d, .call ⟨.invoke x "Underlying", #[], ts⟩, ty, pos, aft, g⟩ :: rest) f ds w := by
  obtain ⟨fn, h1, h2⟩ := under_lit (dst := some d) (ty := ty) (pos := pos) (aft := aft) (g := g) (ts := ts) hT hx
  exact L_enter (h1 w) hw rfl hn (h2 w) fun _ w' ⟨v, he, hv, hw'⟩ => ⟨v, he, by subst hv; subst hw'; exact h⟩

/-- the declarations, as they are valid -/
def DeclsV (ds : List (Int × Ty)) : Prop := ∀ (n : Nat) (d : Int × Ty), ds[n]? = some d → 0 ≤ d.1 ∧ d.2.k ≠ 1 ∧ d.2.k ≠ 3 ∧ shapedB (ds.take n) 0 d.1 d.2 = true

theorem DeclsV.lit {ds : List (Int × Ty)} (h : DeclsV ds) {n : Nat} {d : Int × Ty} (hd : ds[n]? = some d) : d.2.k ≠ 1 ∧ d.2.k ≠ 2 ∧ d.2.k ≠ 3 := by
  obtain ⟨h0, h1, h3, hs⟩ := h n d hd
  refine ⟨h1, fun h2 => ?_, h3⟩
  have hh := shaped_head hs
  rw [h2] at hh
  obtain ⟨ha, hb, _⟩ := headB_param hh (Int.le_refl 0)
  omega

theorem headB_def {ds : List (Int × Ty)} {n c : Int} {b : Bool} {es : List Ty} {params own : Int} (h : headB ds 1 n c b es params own = true) : 0 ≤ n ∧ n < ds.length ∧ ∃ d, ds[n.toNat]? = some d ∧ (es.length : Int) = d.1 := by
  obtain ⟨h0, h1⟩ := headB_named h rfl
  obtain ⟨d, hd⟩ : ∃ d, ds[n.toNat]? = some d := ⟨_, List.getElem?_eq_getElem (by omega)⟩
  refine ⟨h0, h1, d, hd, ?_⟩
  simp only [headB, Bool.and_eq_true, Bool.not_eq_true'] at h
  have h6 := h.2.2.1
  simp [head6, hd] at h6
  exact h6

section
variable {E : Env} {ds : List (Int × Ty)} {p : Option Addr} {dcap bB m : Nat} {params own n c : Int} {b : Bool} {nm : ByteArray} {es : List Ty}

theorem typ_named (hm : m ≤ E.decls.length) (hV : DeclsV ds) (ihm : ∀ (i : Nat) (d : Int × Ty), i < m → ds[i]? = some d → TypOK E ds p dcap bB d.1 d.2)
    (ih : ∀ e ∈ es, TypOK E ds p dcap bB own e) (hsh : shapedB (ds.take m) params own (.mk 1 n c b nm es) = true) : TypOK E ds p dcap bB own (.mk 1 n c b nm es) := by
  intro cs H w ts vs q qc hA hP hB ht hd hown hts hq
  obtain ⟨h0, hlt, d, hdn, hel⟩ := headB_def (show headB (ds.take m) 1 n c b es params own = true from shaped_head hsh)
  obtain ⟨i, rfl⟩ := Int.eq_ofNat_of_zero_le h0
  rw [List.length_take] at hlt
  have him : i < m := by omega
  have hdn : ds[i]? = some d := by
    rw [List.getElem?_take] at hdn
    split at hdn
    · exact hdn
    · cases hdn
  simp only [DTy] at ht
  obtain ⟨p', cap, rfl, -, -, -, hbd, hes⟩ := ht
  (refine calls_enter Tryz.func24 Tryz.ntmps24 rfl rfl ?_)
  (refine r83 ?_)
  refine L_box rfl rfl rfl fun b4 w1 hn1 => ?_
  obtain ⟨H1, g1, hb4⟩ := Grow.ofNew hA hn1
  have hA1 := g1.ag
  have hal := all_any (qc := qc) (ecap := cap) ih w1 hA1 (hP.mono g1.le) (hB.mono g1.le) (DSl.mono g1.le hes) (hd.mono g1.le) hown (RepL.mono g1.le _ _ hts) (hq.mono g1.le) hbd.1
  (refine r83 ?_)
  refine L_callR hal rfl rfl fun v w2 ⟨H2, us, q2, c2, hv, hcap2, g2, hrep, hsl, hty⟩ => ?_
  subst hv
  have g12 := g1.trans g2
  have hA2 := g2.ag
  have hb4' := g2.le _ _ hb4
  have hB2 := hB.mono g12.le
  obtain ⟨pk, vd, cd, vp, cp, hbb, hvd, -⟩ := hB2.blk
  have hul : us.length = es.length := by have := hrep.length; rw [substL_len] at this; exact this.symm
  obtain ⟨a, ha⟩ : ∃ a, E.decls[i]? = some a := ⟨_, List.getElem?_eq_getElem (by omega)⟩
  obtain ⟨g, gcs, T, rfl, hg, hgv⟩ := hvd i a ha
  obtain ⟨o, d', ho, hd', hdi⟩ := hB2.dl i a ha
  obtain rfl : d' = d := by rw [hdn] at hd'; injection hd' with hd'; exact hd'.symm
  have hAg : ∀ w', Ext No w2 w' → Agree H2 w' := fun _ he => hA2.ext0 he
  cases c4 : ((us.length : Int) == 0) with
  | true =>
    have hu0 : us.length = 0 := by have : (us.length : Int) = 0 := by simpa using c4
                                   omega
    have hue : us = [] := List.length_eq_zero_iff.1 hu0
    have hee : es = [] := List.length_eq_zero_iff.1 (by omega)
    have hz : d'.1 = 0 := by rw [← hel, hee]; rfl
    obtain ⟨m1, m2, fr, und, vz, me, hna, huo⟩ := hdi.und hz
    (repeat (first | (refine cL ?_; first | (refine cL_eql ?_; refine L_valB (R_eqI rfl rfl) c4 rfl rfl rfl ?_)) | refine r85 ?_))
    (refine G_draw No (0 :: 1 :: 2 :: 3 :: 4 :: 5 :: 6 :: 7 :: 8 :: 9 :: []) [] follows (by kernel_rfl) rfl ?_)
    (repeat (first | (refine cD_load ?_; refine D_val0 (fun w he => R_loadH (hAg w he) rfl hg hgv) rfl rfl ?_) | (refine cD_indexAddr ?_; refine D_valE (fun _ _ => R_ia rfl rfl (by omega) (by omega)) (ia0 _ _) rfl rfl ?_) | refine r84 hAg ?_))
    refine D_nil fun w3 he3 => ?_
    (refine r83 ?_)
    (refine G_retF rfl ?_)
    subst hue
    subst hee
    exact ⟨.iface 80 (ptr a), rfl, H2, g12.trans (Grow.quiet hA2 he3), by rw [substT_node (by decide)]; exact ⟨[], rfl, .named ha h0 ho hna huo⟩, fun h => absurd rfl h⟩
  | false =>
    have hu0 : us ≠ [] := fun h => by rw [h] at c4; simp at c4
    obtain ⟨bk, off, tcs, rfl, hdc, hdt, -⟩ := (hd.mono g12.le) _ _ hdn
    obtain ⟨q', qcap, rfl, -, -, -, -, -⟩ := hdt.cells
    obtain ⟨-, -, -, hds⟩ := hV i d' hdn
    have hcl : ∀ w', Ext No w2 w' → ∀ j v, lget (tyCells d'.2.k d'.2.n d'.2.c d'.2.b (.slice q' d'.2.es.length qcap) d'.2.nm) j = some v → w'.cell? ⟨bk, off + i * 7 + 1 + j, none⟩ = some v := fun w' he j v hj => by
      have h1 := (hAg w' he).hcell (hdc (j + 1) v hj)
      have h2 : off + i * 7 + 1 + j = off + i * 7 + (j + 1) := by omega
      rw [h2]
      exact h1
    have hcall : ∀ w', Ext No w2 w' → Calls Tryz.prog 24 #[ptr bB, .agg (tyCells d'.2.k d'.2.n d'.2.c d'.2.b (.slice q' d'.2.es.length qcap) d'.2.nm).toArray, .slice q2 us.length c2] w' (Ret (TypSays E H2 w' (substL ts es) d'.2)) := fun w' he =>
      ihm i d' him hdn _ H2 w' (substL ts es) us q2 c2 (hAg w' he) (hP.mono g12.le) hB2 hdt (hd.mono g12.le) (by rw [substL_len]; exact hel) hrep hsl
    (repeat (first | (refine cL ?_; first | (refine cL_eql ?_; refine L_valB (R_eqI rfl rfl) c4 rfl rfl rfl ?_)) | refine r85 ?_))
    (refine G_draw No (0 :: 1 :: 2 :: 3 :: 4 :: 5 :: 6 :: 7 :: 8 :: 9 :: 10 :: 11 :: 12 :: 13 :: 14 :: 15 :: 16 :: 17 :: 18 :: 19 :: 20 :: 21 :: 22 :: 23 :: 24 :: []) [20, 22] follows (by kernel_rfl) rfl ?_)
    (repeat (first | (refine cD_load ?_; first | refine D_val0 (fun w he => R_loadH (hAg w he) rfl hg hgv) rfl rfl ?_ | refine D_val0 (fun w he => R_loadA rfl rfl (hcl w he)) rfl rfl ?_) | (refine cD_indexAddr ?_; first | refine D_valE (fun _ _ => R_ia rfl rfl (by omega) (by omega)) (ia0 _ _) rfl rfl ?_ | refine D_valE (fun _ _ => R_ia rfl rfl (by omega) (by omega)) (ia7 _ _ _) rfl rfl ?_) | refine r84 hAg ?_))
    refine D_callRR hcall rfl fun w3 v w4 he3 ⟨H4, g4, hr4, hlit⟩ => ⟨g4.ext, ?_⟩
    obtain ⟨hk1, hk2, hk3⟩ := hV.lit hdn
    obtain ⟨T4, a4, rfl, hT4⟩ := hlit hk1 hk2 hk3
    refine D_under hT4 rfl rfl ?_
    have hAg4 : ∀ w', Ext No w4 w' → Agree H4 w' := fun _ he => g4.ag.ext0 he
    obtain ⟨c', r', hna⟩ := hdi.name
    obtain ⟨n', pk', s', t', hoa⟩ := hdi.obj
    have hni := fun w' (he : Ext No w4 w') => newInstance_any (p := q2) (len := us.length) (cap := c2) (b := a4) w' (hAg4 w' he) (g4.le _ _ hna) (g4.le _ _ hoa) (List.length_pos_iff.2 hu0) hT4
    refine D_callRR hni rfl fun w5 v w6 he5 ⟨a6, i6, tl6, o6, H6, hv, g6, h61, h62, h63⟩ => ⟨g6.ext, ?_⟩
    subst hv
    have hAg6 : ∀ w', Ext No w6 w' → Agree H6 w' := fun _ he => g6.ag.ext0 he
    (refine r86 hAg6 ?_)
    refine D_nil fun w7 he7 => ?_
    (refine r83 ?_)
    (refine G_retF rfl ?_)
    have hle := Hp.le_trans g4.le g6.le
    have gall := g12.trans ((Grow.quiet hA2 he3).trans (g4.trans ((Grow.quiet g4.ag he5).trans (g6.trans (Grow.quiet g6.ag he7)))))
    refine ⟨.iface 80 (ptr a6), rfl, H6, gall, ?_, fun h => absurd rfl h⟩
    rw [substT_node (by decide)]
    refine ⟨us, RepL.mono hle _ _ hrep, ?_⟩
    have hty6 := (hty hu0).mono hle
    have hmap : ∃ v0 us', us = v0 :: us' := by
      cases us with
      | nil => exact absurd rfl hu0
      | cons v0 us' => exact ⟨v0, us', rfl⟩
    obtain ⟨v0, us', rfl⟩ := hmap
    exact .inst ha h0 h61 h62 h63 hty6 ⟨⟨_, _, rfl⟩, _, _, rfl, hT4⟩
end
end Go.Proofs.YtjilnjifegeceaaGreatDoor

/-
  The thin package's 'typ', whatever the type.
-/
namespace Go.Proofs.YtjilnjifegeceaaGreatDoor
set_option maxRecDepth 100000
set_option maxHeartbeats 4000000
attribute [local irreducible] Calls execOp

theorem headB_kinds {ds : List (Int × Ty)} {k n c : Int} {b : Bool} {es : List Ty} {params own : Int} (h : headB ds k n c b es params own = true) : 0 ≤ k ∧ k ≤ 10 := by
  simp only [headB, Bool.and_eq_true, Bool.not_eq_true'] at h
  have h2 := h.1
  simp [head2] at h2
  omega

theorem typB_any {E : Env} {ds : List (Int × Ty)} {p : Option Addr} {dcap bB : Nat} (hV : DeclsV ds) : ∀ (m : Nat), m ≤ E.decls.length → ∀ (t : Ty) (params own : Int), 0 ≤ params → params ≤ E.params.length → 0 ≤ own → shapedB (ds.take m) params own t = true → TypOK E ds p dcap bB own t := by
  intro m
  induction m using Nat.strongRecOn with
  | ind m ihm =>
  intro hm
  refine Ty.ind fun k n c b nm es ih => ?_
  intro params own hp0 hp how hsh
  have ih' : ∀ e ∈ es, TypOK E ds p dcap bB own e := fun e he => ih e he params own hp0 hp how (shaped_part hsh he)
  have hk := headB_kinds (show headB (ds.take m) k n c b es params own = true from shaped_head hsh)
  rcases (show k = 0 ∨ k = 1 ∨ k = 2 ∨ k = 3 ∨ k = 4 ∨ k = 5 ∨ k = 6 ∨ k = 7 ∨ k = 8 ∨ k = 9 ∨ k = 10 by omega) with rfl | rfl | rfl | rfl | rfl | rfl | rfl | rfl | rfl | rfl | rfl
  · exact typ_basic hsh
  · exact typ_named hm hV (fun i d hi hd => by
      obtain ⟨h0, -, -, hs⟩ := hV i d hd
      exact ihm i hi (by omega) d.2 0 d.1 (Int.le_refl 0) (by omega) h0 hs) ih' hsh
  · exact typ_param hp hp0 hsh
  · exact typ_own how hsh
  · exact typ_pointer ih' hsh
  · exact typ_slice ih' hsh
  · exact typ_array ih' hsh
  · exact typ_map ih' hsh
  · exact typ_chan ih' hsh
  · exact typ_struct ih' hsh
  · exact typ_func ih' hsh
end Go.Proofs.YtjilnjifegeceaaGreatDoor

/-
  The thin package's 'build': what is asked, what is shown; the type parameters.
-/
namespace Go.Proofs.YtjilnjifegeceaaGreatDoor
set_option maxRecDepth 100000
set_option maxHeartbeats 4000000

instance app_tpars : AppT Tryz.prog 69 72 8 := ⟨by kernel_rfl, by kernel_rfl⟩
instance app_nameds : AppT Tryz.prog 68 80 8 := ⟨by kernel_rfl, by kernel_rfl⟩

theorem Grow.step {H H' : Hp} {w w' w'' : World} {M : Nat → Prop} (g : Grow H w H' w') (x : Ext M w' w'') (hM : ∀ k, M k → H' k = none ∧ w.heap.size ≤ k) : Grow H w H' w'' :=
  ⟨g.le, g.ag.ext x (fun b o hb hm => by rw [(hM b hm).1] at hb; cases hb), g.new, g.ext.trans_new x fun i hi hm => by have := (hM i hm).2; omega⟩

theorem Grow.addP {H H' : Hp} {w w' : World} {b : Nat} {o : Obj} (g : Grow H w H' w') (hb : w'.heap[b]? = some o) (hs : w.heap.size ≤ b) : Grow H w (H'.put b o) w' ∧ Hp.le H' (H'.put b o) := by
  have hle : Hp.le H' (H'.put b o) := fun k p hk => by
    by_cases hkb : k = b
    · subst hkb
      have := g.ag k p hk
      rw [hb] at this
      rw [Hp.put_same, this]
    · rw [Hp.put_other _ _ hkb]; exact hk
  refine ⟨⟨Hp.le_trans g.le hle, fun k p hk => ?_, fun k p hk => ?_, g.ext⟩, hle⟩
  · by_cases hkb : k = b
    · subst hkb
      rw [Hp.put_same] at hk
      rw [hb, hk]
    · rw [Hp.put_other _ _ hkb] at hk
      exact g.ag k p hk
  · by_cases hkb : k = b
    · exact .inr (by rw [hkb]; exact hs)
    · rw [Hp.put_other _ _ hkb] at hk
      exact g.new k p hk

theorem nodup_snoc {l : List Nat} {a : Nat} (h : l.Nodup) (ha : a ∉ l) : (l ++ [a]).Nodup := by
  rw [List.nodup_append]
  exact ⟨h, List.pairwise_singleton _ _, fun x hx y hy => by
    rw [List.mem_singleton] at hy
    subst hy
    exact fun e => ha (e ▸ hx)⟩

/-- the builder, while it lays type parameters -/
structure PState (H : Hp) (w : World) (dv : Value) (bB : Nat) (pk : Option Addr) (as_ : List Nat) (va : Value) (Hi : Hp) (w0 : World) : Prop where
  gr : Grow H w Hi w0
  bb : w0.heap[bB]? = some (Ob [dv, .pointer pk, .slice none 0 0, va] 71)
  bn : Hi bB = none
  bs : w.heap.size ≤ bB
  own : OwnS w0 72 va (as_.map ptr)
  ob : ∀ g, va.ownBlock = some g → Hi g = none ∧ w.heap.size ≤ g ∧ g ≠ bB
  nd : as_.Nodup
  lv : ∀ a ∈ as_, LiveH Hi a

theorem LiveH.mono {H H' : Hp} (hh : Hp.le H H') {a : Nat} (h : LiveH H a) : LiveH H' a := let ⟨c, cs, T, h1⟩ := h; ⟨c, cs, T, hh _ _ h1⟩

attribute [local irreducible] Calls execOp

/-- one more type parameter -/
theorem params_round {H : Hp} {w : World} {dv : Value} {bB : Nat} {pk : Option Addr} {as_ : List Nat} {va : Value} {Hi : Hp} {wr w5 w6 w7 w8 : World} {t : Nat} {va' : Value} {cs : List Value} (s : PState H w dv bB pk as_ va Hi wr)
    (x5 : Ext No wr w5) (ht : w5.heap[t]? = some (Ob cs 241)) (hcs : cs ≠ []) (hf : wr.heap.size ≤ t) (hp : Pushed w5 w6 72 va va' (as_.map ptr ++ [ptr t])) (hb : w7.heap[bB]? = some (Ob [dv, .pointer pk, .slice none 0 0, va'] 71)) (x7 : Ext (fun k => k = bB) w6 w7) (x8 : Ext No w7 w8) :
    ∃ H', PState H w dv bB pk (as_ ++ [t]) va' H' w8 := by
  have hbb := lt_of_heap s.bb
  have z := s.gr.ext.size
  have z5 := x5.size
  have g5 : Grow H w Hi w5 := s.gr.step x5 fun k h => h.elim
  have hob : ∀ k, some k = va.ownBlock → Hi k = none ∧ w.heap.size ≤ k := fun k h => ⟨(s.ob k h.symm).1, (s.ob k h.symm).2.1⟩
  have g6 := g5.step hp.ext hob
  have g7 := g6.step x7 fun k h => by rw [h]; exact ⟨s.bn, s.bs⟩
  have g8 := g7.step x8 fun k h => h.elim
  have hvt : ∀ g, va.ownBlock = some g → g < wr.heap.size := fun g hg => s.own.lt g hg
  have ht8 : w8.heap[t]? = some (Ob cs 241) := x8.heap (fun h => h) (x7.heap (fun h => by omega) (hp.ext.heap (fun h => by have := hvt t h.symm; omega) ht))
  have htn : Hi t = none := by
    cases hh : Hi t with
    | none => rfl
    | some o => have := s.gr.ag.lt hh; omega
  obtain ⟨g', le'⟩ := g8.addP ht8 (by omega)
  have hvb : ∀ g, va'.ownBlock = some g → g ≠ bB ∧ g ≠ t ∧ w.heap.size ≤ g ∧ Hi g = none := fun g hg => by
    rcases hp.blk with h | h
    · rw [h] at hg
      have h1 := s.ob g hg
      have h2 := hvt g hg
      exact ⟨h1.2.2, by omega, h1.2.1, h1.1⟩
    · rw [h] at hg
      injection hg with hg
      have h1 := lt_of_heap ht
      refine ⟨by omega, by omega, by omega, ?_⟩
      cases hh : Hi g with
      | none => rfl
      | some o => have := s.gr.ag.lt hh; omega
  refine ⟨_, ⟨g', x8.heap (fun h => h) hb, by rw [Hp.put_other _ _ (by omega)]; exact s.bn, s.bs, ?_, fun g hg => ?_, ?_, fun a ha => ?_⟩⟩
  · rw [List.map_append]
    exact (hp.own.ext x7 fun g hg h => (hvb g hg).1 h).ext x8 fun _ _ h => h
  · obtain ⟨h1, h2, h3, h4⟩ := hvb g hg
    exact ⟨by rw [Hp.put_other _ _ h2]; exact h4, h3, h1⟩
  · refine nodup_snoc s.nd fun hm => ?_
    obtain ⟨c, l, T, hl⟩ := s.lv t hm
    rw [htn] at hl
    cases hl
  · rcases List.mem_append.1 ha with ha | ha
    · exact (s.lv a ha).mono le'
    · rw [List.mem_singleton] at ha
      subst ha
      cases cs with
      | nil => exact absurd rfl hcs
      | cons c l => exact ⟨c, l, _, Hp.put_same _ _ _⟩

/-- the first loop of 'build' -/
def PDone (H : Hp) (w : World) (dv : Value) (params : Int) (f : Fm) (ds0 : List Deferred) (w0 : World) : Prop :=
  ds0 = [] ∧ ∃ (f0 : Fm) (bB : Nat) (pk : Option Addr) (as_ : List Nat) (va : Value) (Hi : Hp), f = with_ [(0, dv), (5, ptr bB)] f0 ∧ PState H w dv bB pk as_ va Hi w0 ∧ (as_.length : Int) = params
end Go.Proofs.YtjilnjifegeceaaGreatDoor

/-
  The thin package's 'build': the declared types.
-/
namespace Go.Proofs.YtjilnjifegeceaaGreatDoor
set_option maxRecDepth 100000
set_option maxHeartbeats 4000000

/-- the builder, while it lays declared types -/
structure DState (H : Hp) (w : World) (ds : List (Int × Ty)) (dv : Value) (bB : Nat) (pk : Option Addr) (as_ : List Nat) (vp : Option Addr) (cp : Nat) (decls objs : List Nat) (va : Value) (Hi : Hp) (w0 : World) : Prop where
  gr : Grow H w Hi w0
  bb : w0.heap[bB]? = some (Ob [dv, .pointer pk, va, .slice vp as_.length cp] 71)
  bn : Hi bB = none
  bs : w.heap.size ≤ bB
  own : OwnS w0 80 va (decls.map ptr)
  ob : ∀ g, va.ownBlock = some g → Hi g = none ∧ w.heap.size ≤ g ∧ g ≠ bB
  dn : decls.Nodup
  on : objs.Nodup
  ol : objs.length = decls.length
  dl : ∀ (i a : Nat), decls[i]? = some a → ∃ o d, objs[i]? = some o ∧ ds[i]? = some d ∧ DeclIs Hi a o (d.1 = 0)
  pa : PtrsAt Hi as_ vp
  pn : as_.Nodup
  pl : ∀ a ∈ as_, LiveH Hi a

theorem ptrs_own {H : Hp} {l : List Nat} {r : List Value} {g T : Nat} (h : H g = some (Ob (l.map ptr ++ r) T)) : PtrsAt H l (some ⟨g, 0, none⟩) := fun i a ha => by
  refine ⟨g, _, T, rfl, h, ?_⟩
  have hlt := (List.getElem?_eq_some_iff.1 ha).1
  rw [lget_eq, List.getElem?_append_left (by simpa using hlt), List.getElem?_map, ha]
  rfl

/-- the type parameters are laid: on to the declared types -/
theorem PState.done {H : Hp} {w : World} {ds : List (Int × Ty)} {dv : Value} {bB : Nat} {pk : Option Addr} {as_ : List Nat} {va : Value} {Hi : Hp} {w0 : World} (s : PState H w dv bB pk as_ va Hi w0) :
    ∃ vp cp H', va = .slice vp as_.length cp ∧ DState H w ds dv bB pk as_ vp cp [] [] (.slice none 0 0) H' w0 := by
  rcases s.own with ⟨rfl, h2⟩ | ⟨g, c, r, rfl, hg, hl⟩
  · have h0 : as_ = [] := by simpa using h2
    subst h0
    exact ⟨none, 0, Hi, rfl, s.gr, s.bb, s.bn, s.bs, .inl ⟨rfl, rfl⟩, (fun g hg => by cases hg), List.nodup_nil, List.nodup_nil, rfl, (fun i a ha => by simp at ha), (fun i a ha => by simp at ha), s.nd, s.lv⟩
  · obtain ⟨h1, h2, h3⟩ := s.ob g rfl
    obtain ⟨g', le'⟩ := s.gr.addP hg h2
    have hbb := s.bb
    rw [List.length_map] at hbb
    exact ⟨_, c, _, by rw [List.length_map], g', hbb, by rw [Hp.put_other _ _ (Ne.symm h3)]; exact s.bn, s.bs, .inl ⟨rfl, rfl⟩, (fun g hg => by cases hg), List.nodup_nil, List.nodup_nil, rfl, (fun i a ha => by simp at ha), ptrs_own (Hp.put_same _ _ _), s.nd, fun a ha => (s.lv a ha).mono le'⟩

theorem DState.step {H : Hp} {w : World} {ds : List (Int × Ty)} {dv : Value} {bB : Nat} {pk : Option Addr} {as_ : List Nat} {vp : Option Addr} {cp : Nat} {decls objs : List Nat} {va : Value} {Hi : Hp} {w0 w1 : World} (s : DState H w ds dv bB pk as_ vp cp decls objs va Hi w0) (x : Ext No w0 w1) : DState H w ds dv bB pk as_ vp cp decls objs va Hi w1 :=
  { s with gr := s.gr.step x fun _ h => h.elim, bb := x.heap (fun h => h) s.bb, own := s.own.ext x fun _ _ h => h }

/-- what 'typ' reads: the builder's own blocks with the rest -/
theorem DState.reads {H : Hp} {w : World} {ds : List (Int × Ty)} {p : Option Addr} {dcap : Nat} {bB : Nat} {pk : Option Addr} {as_ : List Nat} {vp : Option Addr} {cp : Nat} {decls objs : List Nat} {va : Value} {Hi : Hp} {w0 : World} (s : DState H w ds (.slice p ds.length dcap) bB pk as_ vp cp decls objs va Hi w0) :
    ∃ H', Grow H w H' w0 ∧ Hp.le Hi H' ∧ BuIs ⟨as_, decls, objs⟩ H' ds p dcap bB := by
  rcases s.own with ⟨rfl, h2⟩ | ⟨g, c, r, rfl, hg, hl⟩
  · have h0 : decls = [] := by simpa using h2
    subst h0
    obtain ⟨g', le'⟩ := s.gr.addP s.bb s.bs
    exact ⟨_, g', le', ⟨pk, none, 0, vp, cp, Hp.put_same _ _ _, (fun i a ha => by simp at ha), s.pa.mono le'⟩, fun i a ha => by simp at ha⟩
  · obtain ⟨h1, h2, h3⟩ := s.ob g rfl
    obtain ⟨g1, le1⟩ := s.gr.addP hg h2
    obtain ⟨g2, le2⟩ := g1.addP s.bb s.bs
    have le' := Hp.le_trans le1 le2
    refine ⟨_, g2, le', ⟨pk, some ⟨g, 0, none⟩, c, vp, cp, by rw [Hp.put_same, List.length_map], (ptrs_own (Hp.put_same _ _ _)).mono le2, s.pa.mono le'⟩, fun i a ha => ?_⟩
    obtain ⟨o, d, h4, h5, h6⟩ := s.dl i a ha
    exact ⟨o, d, h4, h5, h6.mono le'⟩

/-- one more declared type -/
theorem decls_round {H : Hp} {w : World} {ds : List (Int × Ty)} {dv : Value} {bB : Nat} {pk : Option Addr} {as_ : List Nat} {vp : Option Addr} {cp : Nat} {decls objs : List Nat} {va : Value} {Hi : Hp} {wr w5 w6 w7 w8 : World} {a o : Nat} {va' : Value} {cs : List Value} {d : Int × Ty} {n : Int} {pk' : Option Addr} {s' : ByteArray} {t' : Value}
    (s : DState H w ds dv bB pk as_ vp cp decls objs va Hi wr) (x5 : Ext No wr w5) (ha : w5.heap[a]? = some (Ob cs 148)) (ho : w5.heap[o]? = some (Ob (ObjC n pk' s' t') 234)) (hfa : wr.heap.size ≤ a) (hfo : wr.heap.size ≤ o) (hne : a ≠ o)
    (hcs : ∃ c r, cs = c :: ptr o :: r) (hd : ds[decls.length]? = some d) (hund : d.1 = 0 → ∃ m1 m2 fr und vz me, cs = namedCells (ptr o) (.pointer none) m1 m2 fr und vz me ∧ UndOK fr und)
    (hp : Pushed w5 w6 80 va va' (decls.map ptr ++ [ptr a])) (hb : w7.heap[bB]? = some (Ob [dv, .pointer pk, va', .slice vp as_.length cp] 71)) (x7 : Ext (fun k => k = bB) w6 w7) (x8 : Ext No w7 w8) :
    ∃ H', DState H w ds dv bB pk as_ vp cp (decls ++ [a]) (objs ++ [o]) va' H' w8 := by
  have hbb := lt_of_heap s.bb
  have z := s.gr.ext.size
  have z5 := x5.size
  have g5 : Grow H w Hi w5 := s.gr.step x5 fun k h => h.elim
  have hob : ∀ k, some k = va.ownBlock → Hi k = none ∧ w.heap.size ≤ k := fun k h => ⟨(s.ob k h.symm).1, (s.ob k h.symm).2.1⟩
  have g6 := g5.step hp.ext hob
  have g7 := g6.step x7 fun k h => by rw [h]; exact ⟨s.bn, s.bs⟩
  have g8 := g7.step x8 fun k h => h.elim
  have hvt : ∀ g, va.ownBlock = some g → g < wr.heap.size := fun g hg => s.own.lt g hg
  have hnew : ∀ k, wr.heap.size ≤ k → Hi k = none := fun k hk => by
    cases hh : Hi k with
    | none => rfl
    | some o => have := s.gr.ag.lt hh; omega
  have hkeep : ∀ k ob, wr.heap.size ≤ k → w5.heap[k]? = some ob → w8.heap[k]? = some ob := fun k ob hk h => x8.heap (fun h => h) (x7.heap (fun h => by omega) (hp.ext.heap (fun h => by have := hvt k h.symm; omega) h))
  have ha8 := hkeep a _ hfa ha
  have ho8 := hkeep o _ hfo ho
  obtain ⟨ga, lea⟩ := g8.addP ha8 (by omega)
  obtain ⟨go, leo⟩ := ga.addP ho8 (by omega)
  have le' := Hp.le_trans lea leo
  have hvb : ∀ g, va'.ownBlock = some g → g ≠ bB ∧ g ≠ a ∧ g ≠ o ∧ w.heap.size ≤ g ∧ Hi g = none := fun g hg => by
    rcases hp.blk with h | h
    · rw [h] at hg
      have h1 := s.ob g hg
      have h2 := hvt g hg
      exact ⟨h1.2.2, by omega, by omega, h1.2.1, h1.1⟩
    · rw [h] at hg
      injection hg with hg
      have h1 := lt_of_heap ha
      have h2 := lt_of_heap ho
      exact ⟨by omega, by omega, by omega, by omega, hnew g (by omega)⟩
  have hput : ∀ k, k ≠ a → k ≠ o → Hi k = none → ((Hi.put a (Ob cs 148)).put o (Ob (ObjC n pk' s' t') 234)) k = none := fun k h1 h2 h => by
    rw [Hp.put_other _ _ h2, Hp.put_other _ _ h1]; exact h
  have hHa : ((Hi.put a (Ob cs 148)).put o (Ob (ObjC n pk' s' t') 234)) a = some (Ob cs 148) := by
    rw [Hp.put_other _ _ hne, Hp.put_same]
  refine ⟨_, go, x8.heap (fun h => h) hb, hput bB (by omega) (by omega) s.bn, s.bs, ?_, fun g hg => ?_, ?_, ?_, by simp [s.ol], fun i b hib => ?_, s.pa.mono le', s.pn, fun b hb => (s.pl b hb).mono le'⟩
  · rw [List.map_append]
    exact (hp.own.ext x7 fun g hg h => (hvb g hg).1 h).ext x8 fun _ _ h => h
  · obtain ⟨h1, h2, h3, h4, h5⟩ := hvb g hg
    exact ⟨hput g h2 h3 h5, h4, h1⟩
  · refine nodup_snoc s.dn fun hm => ?_
    obtain ⟨i, hi⟩ := List.mem_iff_getElem?.1 hm
    obtain ⟨o', d', -, -, h3⟩ := s.dl i a hi
    obtain ⟨c, r, h4⟩ := h3.name
    rw [hnew a hfa] at h4
    cases h4
  · refine nodup_snoc s.on fun hm => ?_
    obtain ⟨i, hi⟩ := List.mem_iff_getElem?.1 hm
    have hil := (List.getElem?_eq_some_iff.1 hi).1
    obtain ⟨b, hbi⟩ : ∃ b, decls[i]? = some b := ⟨_, List.getElem?_eq_getElem (by rw [← s.ol]; exact hil)⟩
    obtain ⟨o', d', h1, -, h3⟩ := s.dl i b hbi
    rw [hi] at h1
    injection h1 with h1
    subst h1
    obtain ⟨n2, pk2, s2, t2, h4⟩ := h3.obj
    rw [hnew o hfo] at h4
    cases h4
  · by_cases hil : i < decls.length
    · rw [List.getElem?_append_left hil] at hib
      obtain ⟨o', d', h1, h2, h3⟩ := s.dl i b hib
      exact ⟨o', d', by rw [List.getElem?_append_left (by rw [s.ol]; exact hil)]; exact h1, h2, h3.mono le'⟩
    · have hi2 := (List.getElem?_eq_some_iff.1 hib).1
      have hie : i = decls.length := by simp at hi2; omega
      subst hie
      have hba : b = a := by simpa using hib.symm
      subst hba
      refine ⟨o, d, by rw [← s.ol]; simp, hd, ⟨?_, ⟨n, pk', s', t', Hp.put_same _ _ _⟩, fun hz => ?_⟩⟩
      · obtain ⟨c, r, rfl⟩ := hcs
        exact ⟨c, r, hHa⟩
      · obtain ⟨m1, m2, fr, und, vz, me, rfl, hu⟩ := hund hz
        exact ⟨m1, m2, fr, und, vz, me, hHa, hu⟩

attribute [local irreducible] Calls execOp

/-- a declared type, generic or with its underlying type -/
theorem newNamedU_any {o : Nat} {n : Int} {pk : Option Addr} {s : ByteArray} {u : Value} (w : World) (ho : w.heap[o]? = some (Ob (ObjC n pk s .nilIface) 234)) (hu : u = .nilIface ∨ ∃ T b, u = .iface T (ptr b) ∧ litT T = true) :
    Calls Tryz.prog 33 #[ptr o, u, .slice none 0 0] w (Ret fun r w' => ∃ a cs t, r = ptr a ∧ w'.heap[a]? = some (Ob cs 148) ∧ (∃ c r, cs = c :: ptr o :: r) ∧ (u ≠ .nilIface → ∃ m1 m2 fr und vz me, cs = namedCells (ptr o) (.pointer none) m1 m2 fr und vz me ∧ UndOK fr und) ∧
      w'.heap[o]? = some (Ob (ObjC n pk s t) 234) ∧ Ext (fun k => k = o) w w' ∧ w.heap.size ≤ a) := by
  rcases hu with rfl | ⟨T, b, rfl, hT⟩
  · refine (newNamedG_any w ho).mono fun e w' ⟨v, he, a, hv, h1, h2, h3, h4⟩ => ⟨v, he, a, _, _, hv, h1, ⟨_, _, rfl⟩, fun h => absurd rfl h, h2, h3, h4⟩
  · refine (newNamedD_any w ho hT).mono fun e w' ⟨v, he, a, hv, h1, h2, h3, h4⟩ => ⟨v, he, a, _, _, hv, h1, ⟨_, _, rfl⟩, fun _ => ⟨_, _, _, _, _, _, rfl, ⟨_, _, rfl⟩, _, _, rfl, hT⟩, h2, h3, h4⟩

theorem cell_tail {w : World} {b j : Nat} {x v : Value} {cs : List Value} {T : TypeId} (h : w.heap[b]? = some (Ob (x :: cs) T)) (hj : lget cs j = some v) : w.cell? ⟨b, 1 + j, none⟩ = some v := by
  rw [lget_eq] at hj
  simp only [World.cell?, h, Ob]
  rw [Nat.add_comm]
  simpa using hj
end Go.Proofs.YtjilnjifegeceaaGreatDoor

/-
  The thin package's 'build', walked: the type parameters.
-/
namespace Go.Proofs.YtjilnjifegeceaaGreatDoor
set_option maxRecDepth 100000
set_option maxHeartbeats 4000000
attribute [local irreducible] Calls execOp

/-- what 'build' has laid -/
def BuildSays (H : Hp) (w : World) (ds : List (Int × Ty)) (p : Option Addr) (dcap : Nat) (params : Int) : Value → World → Prop := fun r w' =>
  ∃ bB E H', r = ptr bB ∧ Grow H w H' w' ∧ BuIs E H' ds p dcap bB ∧ (E.params.length : Int) = params ∧ E.decls.length = ds.length ∧ EnvOK E H'

theorem buildI_any {H : Hp} {ds : List (Int × Ty)} {p : Option Addr} {dcap : Nat} {params : Int} (w : World) (hA : Agree H w) (hP : Props H) (hd : DDl H ds p) (hV : DeclsV ds) (h0 : 0 ≤ params) (h8 : params ≤ 8) (h16 : ds.length ≤ 16) :
    Calls Tryz.prog 21 #[.slice p ds.length dcap, .int .i64 params] w (Ret (BuildSays H w ds p dcap params)) := by
  obtain ⟨np, rfl⟩ := Int.eq_ofNat_of_zero_le h0
  (refine calls_enter Tryz.func21 Tryz.ntmps21 rfl rfl ?_)
  (refine r83 ?_)
  refine L_callR (newPackage_any _ _ _) rfl rfl fun v w1 ⟨b1, hv, hn1⟩ => ?_
  subst hv
  (repeat (first | (refine cL ?_; first | (refine cL_build ?_; refine L_val (R_build (cs := [.slice p ds.length dcap, ptr b1, .slice none 0 0, .slice none 0 0]) rfl) rfl rfl rfl ?_)) | refine r85 ?_))
  refine L_box rfl rfl rfl fun bB w2 hn2 => ?_
  (refine r83 ?_)
  have f1 := hn1.fresh
  have f2 := hn2.fresh
  have z1 := hn1.size
  have s0 : PState H w (.slice p ds.length dcap) bB (some ⟨b1, 0, none⟩) [] (.slice none 0 0) H w2 := ⟨Grow.quiet hA (hn1.ext.trans hn2.ext), hn2.here, by
    cases hh : H bB with
    | none => rfl
    | some o => have := hA.lt hh; omega, by omega, .inl ⟨rfl, rfl⟩, (fun g hg => by cases hg), List.nodup_nil, fun a ha => by cases ha⟩
  refine G_cut2 (PDone H w (.slice p ds.length dcap) (np : Int)) ?_ ?_
  · refine G_loop (fun f ds0 w0 => ds0 = [] ∧ ∃ (f0 : Fm) (i : Nat) (as_ : List Nat) (va : Value) (Hi : Hp), f = with_ [(14, .int .i64 (i : Int)), (13, .int .i64 (np : Int)), (0, .slice p ds.length dcap), (5, ptr bB)] f0 ∧ i ≤ np ∧ as_.length = i ∧ PState H w (.slice p ds.length dcap) bB (some ⟨b1, 0, none⟩) as_ va Hi w0) (fun f _ _ => countM 14 13 f)
      ⟨rfl, _, 0, [], _, H, with_self ⟨rfl, rfl, rfl, rfl, trivial⟩, Nat.zero_le _, rfl, s0⟩ ?_
    rintro f ds0 wr ⟨rfl, f0, i, as_, va, Hi, rfl, hi, hal, st⟩
    by_cases h : i < np
    · have hbt : decide ((i : Int) < (np : Int)) = true := decide_eq_true (by omega)
      have hbb := st.bb
      have hAg : ∀ w', Ext (fun k => wr.heap.size ≤ k) wr w' → Agree Hi w' := fun _ he => st.gr.ag.ext he fun b o hb hm => by have := st.gr.ag.lt hb; omega
      have lbb := lt_of_heap hbb
      (repeat (first | (refine cL ?_; first | (refine cL_lss ?_; refine L_valB (R_ltI rfl rfl) hbt rfl rfl rfl ?_)) | refine r85 ?_))
      (refine G_drawX (fun k => wr.heap.size ≤ k) (.op 0 (.op 1 (.op 2 (.op 3 (.op 4 (.op 5 (.op 6 (.op 7 (.op 8 (.op 9 (.op 10 (.op 11 (.op 12 (.op 13 (.op 14 (.op 15 .nil)))))))))))))))) [(0, 3), (6, 1), (7, 1), (8, 1), (10, 1), (11, 1), (12, 2), (15, 2)] follows (by kernel_rfl) ?_)
      (repeat (first | (refine cX_load ?_; refine X_val0 (fun w he => R_loadB rfl (he.heap (fun h => by omega) hbb) rfl) rfl rfl ?_) | refine r87 hAg ?_))
      have hname := fun w' (he : Ext No wr w') => name_any (b := bB) ⟨#[80]⟩ w' (he.heap (fun h => h) hbb)
      refine X_call hname rfl fun w3 v w4 he3 ⟨o, hv, hn4⟩ => ⟨hn4.ext.of_no, ?_⟩
      subst hv
      refine X_call (fun w' he => newInterface_any w') rfl fun w5 v w6 he5 ⟨b, tset, hv, x6, hb6, hbh⟩ => ⟨x6.of_no, ?_⟩
      subst hv
      have hcm := fun w' (he : Ext No w6 w') => complete_any (b := b) (ts := tset) w' (he.heap (fun h => h) hbh)
      refine X_call hcm rfl fun w7 v w8 he7 ⟨hv, hw8⟩ => ⟨by rw [hw8]; exact Ext.refl _ _, ?_⟩
      subst hv
      subst hw8
      (refine r88 hAg ?_)
      have hob : ∀ w', Ext No w8 w' → w'.heap[o]? = some (Ob [.int .i64 0, .pointer (some ⟨b1, 0, none⟩), .string ⟨#[80]⟩, .nilIface] 234) := fun w' he => he.heap (fun h => h) (he7.heap (fun h => h) (x6.heap (fun h => h) (he5.heap (fun h => h) hn4.here)))
      have hbb7 : ∀ w', Ext No w8 w' → w'.heap[b]? = some (Ob (ifcCells tset) 127) := fun w' he => he.heap (fun h => h) (he7.heap (fun h => h) hbh)
      have lo := lt_of_heap hn4.here
      have z5 := he5.size
      have hne : b ≠ o := by omega
      have htp := fun w' (he : Ext No w8 w') => newTP_any (o := o) (b := b) w' (hob w' he) (hbb7 w' he) hne
      refine X_call htp rfl fun w9 v w10 he9 ⟨t, hv, x10, ht10, hth, _⟩ => ?_
      subst hv
      have hfo := hn4.fresh
      have z3 := he3.size
      refine ⟨x10.mono fun k hk hm => by omega, ?_⟩
      refine X_make rfl rfl fun w11 he11 => ⟨_, _, R_buildSlice (vs := [ptr t]) rfl rfl rfl rfl, Ext.alloc w11 _, ?_⟩
      have hn12 := newB_alloc w11 (Ob (flat [ptr t]) 72)
      have x9 : Ext No wr w9 := he3.trans (hn4.ext.trans (he5.trans (x6.trans (he7.trans he9))))
      have x11 : Ext No wr w11 := (x9.trans_new x10 fun k hk hm => by omega).trans he11
      have hth11 := he11.heap (fun h => h) hth
      have hown : ∀ w', Ext No (w11.alloc (Ob (flat [ptr t]) 72)) w' → OwnS w' 72 va (as_.map ptr) := fun w' he => st.own.ext (x11.trans (hn12.ext.trans he)) fun _ _ h => h
      refine X_push (v := va) (u := ptr t) rfl hown rfl (fun w7 he7 => he7.heap (fun h => h) hn12.here) rfl (by rw [List.length_map]; omega) (by rw [List.length_map]; simp only [maxLen]; omega) rfl fun w13 va' w14 he13 hpu => ?_
      have x13 : Ext No wr w13 := x11.trans (hn12.ext.trans he13)
      have hb14 : w14.heap[bB]? = some (Ob [.slice p ds.length dcap, .pointer (some ⟨b1, 0, none⟩), .slice none 0 0, va] 71) := hpu.ext.heap (fun h => (st.ob bB h.symm).2.2 rfl) (x13.heap (fun h => h) hbb)
      obtain ⟨gq, lq, cq, hva'⟩ := hpu.some_
      subst hva'
      (refine r88 hAg ?_)
      refine X_store rfl (fun w he => he.heap (fun h => h) hb14) rfl rfl rfl fun w15 w16 he15 hB16 x16 s16 => ?_
      refine X_nil fun w17 he17 => ?_
      have hth13 := he13.heap (fun h => h) (hn12.ext.heap (fun h => h) hth11)
      obtain ⟨H', st'⟩ := params_round st x13 hth13 (by simp) (by have := x9.size; omega) hpu hB16 ((he15.mono fun _ _ h => h.elim).trans x16) he17
      (repeat (first | (refine cL ?_; first | (refine cL_add ?_; refine L_valE (R_addI rfl rfl) (succ_i64 h (by omega)) rfl rfl rfl ?_)) | refine r85 ?_))
      refine G_inv ⟨⟨rfl, _, i + 1, as_ ++ [t], _, H', with_self ⟨rfl, rfl, rfl, rfl, trivial⟩, h, by simp [hal], st'⟩, ?_⟩
      show ((np : Int) - ((i + 1 : Nat) : Int)).toNat < ((np : Int) - (i : Int)).toNat
      omega
    · have hbt : decide ((i : Int) < (np : Int)) = false := decide_eq_false (by omega)
      (repeat (first | (refine cL ?_; first | (refine cL_lss ?_; refine L_valB (R_ltI rfl rfl) hbt rfl rfl rfl ?_)) | refine G_exit rfl ?_ | refine r85 ?_))
      refine G_inv ?_
      exact ⟨rfl, _, bB, _, as_, va, Hi, with_self ⟨rfl, rfl, trivial⟩, st, by omega⟩
  · rintro f ds0 wa ⟨rfl, f0, bB', pk, as_, va, Ha, rfl, st, hal⟩
    obtain ⟨vp, cp, H2, rfl, dt⟩ := st.done (ds := ds)
    clear s0 hn1 hn2 st hA
    (refine r83 ?_)
    refine G_loop (fun f ds0 w0 => ds0 = [] ∧ ∃ (f0 : Fm) (i : Nat) (decls objs : List Nat) (va : Value) (Hi : Hp), f = with_ [(34, .int .i64 (i : Int)), (33, .int .i64 (ds.length : Int)), (32, .slice p ds.length dcap), (5, ptr bB')] f0 ∧ i ≤ ds.length ∧ decls.length = i ∧ DState H w ds (.slice p ds.length dcap) bB' pk as_ vp cp decls objs va Hi w0) (fun f _ _ => countM 34 33 f)
      ⟨rfl, _, 0, [], [], _, H2, with_self ⟨rfl, rfl, rfl, rfl, trivial⟩, Nat.zero_le _, rfl, dt⟩ ?_
    rintro f ds0 wr ⟨rfl, f0, i, decls, objs, va, Hi, rfl, hi, hdl, s⟩
    by_cases h : i < ds.length
    · have hbt : decide ((i : Int) < (ds.length : Int)) = true := decide_eq_true (by omega)
      obtain ⟨d, hdi⟩ : ∃ d, ds[i]? = some d := ⟨_, List.getElem?_eq_getElem h⟩
      obtain ⟨bk, off, tcs, rfl, hdc, hdt, -⟩ := hd i d hdi
      obtain ⟨q', qcap, rfl, -, -, -, -, -⟩ := hdt.cells
      have hAr := s.gr.ag
      have hdc' := hdc.mono s.gr.le
      (repeat (first | (refine cL ?_; first | (refine cL_load ?_; refine L_val (R_loadA rfl rfl fun j v hj => hAr.hcell (hdc' j v hj)) rfl rfl rfl ?_) | (refine cL_lss ?_; refine L_valB (R_ltI rfl rfl) hbt rfl rfl rfl ?_) | (refine cL_indexAddr ?_; refine L_valE (R_ia rfl rfl (by omega) (by omega)) (ia7 _ _ _) rfl rfl rfl ?_)) | refine r85 ?_))
      refine L_allocS rfl rfl fun b7 w3 hn3 => ?_
      refine L_storeA rfl hn3.here rfl rfl rfl rfl rfl rfl fun w4 h4 e4 s4 => ?_
      have hn4 := hn3.store h4 e4 s4
      have s4 := s.step hn4.ext
      have h7 := hn4.here
      clear hn3 h4 e4 hAr
      (refine r83 ?_)
      refine G_cut1 (fun f ds0 w5 => ds0 = [] ∧ ∃ (f0 : Fm) (u : Value), f = with_ [(34, .int .i64 (i : Int)), (33, .int .i64 (ds.length : Int)), (32, .slice (some ⟨bk, off, none⟩) ds.length dcap), (5, ptr bB'), (8, u)] f0 ∧ Ext No w4 w5 ∧ (u = .nilIface ∨ ∃ T b, u = .iface T (ptr b) ∧ litT T = true) ∧ (d.1 = 0 → u ≠ .nilIface)) ?_ ?_
      · by_cases hz : d.1 = 0
        · have hz' : (d.1 == 0) = true := by simp [hz]
          refine G_true (by show Value.bool (d.1 == 0) = .bool true; rw [hz']) ?_
          obtain ⟨Ht, gt, let_, hbu⟩ := s4.reads
          obtain ⟨-, -, -, hsh⟩ := hV i d hdi
          rw [hz] at hsh
          have hty := typB_any (E := ⟨as_, decls, objs⟩) (p := some ⟨bk, off, none⟩) (dcap := dcap) (bB := bB') hV i (by simp [hdl]) d.2 0 0 (Int.le_refl 0) (by simp) (Int.le_refl 0) hsh
          have hcall := hty _ Ht w4 [] [] none 0 gt.ag (hP.mono gt.le) hbu (DTy.mono gt.le _ _ hdt) (hd.mono gt.le) rfl rfl (fun i v hv => by simp at hv)
          have h7c : ∀ j v, lget (tyCells d.2.k d.2.n d.2.c d.2.b (.slice q' d.2.es.length qcap) d.2.nm) j = some v → w4.cell? ⟨b7, 1 + j, none⟩ = some v := fun j v hj => cell_tail h7 hj
          (repeat (first | (refine cL ?_; first | (refine cL_load ?_; refine L_val (R_loadA rfl rfl h7c) rfl rfl rfl ?_)) | refine r85 ?_))
          refine L_callR hcall rfl rfl fun v w5 ⟨H5, g5, _, hlit⟩ => ?_
          obtain ⟨hk1, hk2, hk3⟩ := hV.lit hdi
          obtain ⟨T5, a5, rfl, hT5⟩ := hlit hk1 hk2 hk3
          refine L_under hT5 rfl rfl rfl ?_
          (refine r83 ?_)
          refine G_inv ?_
          exact ⟨rfl, _, .iface T5 (ptr a5), with_self ⟨rfl, rfl, rfl, rfl, rfl, trivial⟩, g5.ext, .inr ⟨_, _, rfl, hT5⟩, fun _ h => by cases h⟩
        · have hz' : (d.1 == 0) = false := by simp [hz]
          refine G_false (by show Value.bool (d.1 == 0) = .bool false; rw [hz']) ?_
          (refine r83 ?_)
          refine G_inv ?_
          exact ⟨rfl, _, .nilIface, with_self ⟨rfl, rfl, rfl, rfl, rfl, trivial⟩, Ext.refl _ _, .inl rfl, fun h => absurd h hz⟩
      · rintro f ds0 wz ⟨rfl, f0, u, rfl, xz, hu, huz⟩
        have sz := s4.step xz
        have hbb := sz.bb
        have lbb := lt_of_heap hbb
        have hAg : ∀ w', Ext (fun k => wz.heap.size ≤ k) wz w' → Agree Hi w' := fun _ he => sz.gr.ag.ext he fun b o hb hm => by have := sz.gr.ag.lt hb; omega
        (refine r83 ?_)
        (refine G_drawX (fun k => wz.heap.size ≤ k) (.op 0 (.op 1 (.op 2 (.op 3 (.op 4 (.op 5 (.op 7 (.op 6 (.op 8 (.op 9 (.op 10 (.op 11 (.op 12 (.op 13 .nil)))))))))))))) [(0, 3), (6, 1), (8, 1), (9, 1), (10, 2), (13, 2)] follows (by kernel_rfl) ?_)
        (repeat (first | (refine cX_load ?_; refine X_val0 (fun w he => R_loadB rfl (he.heap (fun h => by omega) hbb) rfl) rfl rfl ?_) | refine r87 hAg ?_))
        have hname := fun w' (he : Ext No wz w') => name_any (b := bB') ⟨#[84]⟩ w' (he.heap (fun h => h) hbb)
        refine X_call hname rfl fun w5 v w6 he5 ⟨o, hv, hn6⟩ => ⟨hn6.ext.of_no, ?_⟩
        subst hv
        (refine r88 hAg ?_)
        have hnew := fun w' (he : Ext No w6 w') => newNamedU_any (u := u) w' (he.heap (fun h => h) hn6.here) hu
        refine X_call hnew rfl fun w7 v w8 he7 ⟨a, cs, t, hv, ha, hcs, hun, ho, x8, hfa⟩ => ?_
        subst hv
        have hfo := hn6.fresh
        have z5 := he5.size
        have z6 := hn6.size
        have z7 := he7.size
        refine ⟨x8.mono fun k hk hm => by omega, ?_⟩
        refine X_make rfl rfl fun w11 he11 => ⟨_, _, R_buildSlice (vs := [ptr a]) rfl rfl rfl rfl, Ext.alloc w11 _, ?_⟩
        have hn12 := newB_alloc w11 (Ob (flat [ptr a]) 80)
        have x7 : Ext No wz w7 := he5.trans (hn6.ext.trans he7)
        have x11 : Ext No wz w11 := (x7.trans_new x8 fun k hk hm => by omega).trans he11
        have hown : ∀ w', Ext No (w11.alloc (Ob (flat [ptr a]) 80)) w' → OwnS w' 80 va (decls.map ptr) := fun w' he => sz.own.ext (x11.trans (hn12.ext.trans he)) fun _ _ h => h
        refine X_push (v := va) (u := ptr a) rfl hown rfl (fun w7 he7 => he7.heap (fun h => h) hn12.here) rfl (by rw [List.length_map]; omega) (by rw [List.length_map]; simp only [maxLen]; omega) rfl fun w13 va' w14 he13 hpu => ?_
        have x13 : Ext No wz w13 := x11.trans (hn12.ext.trans he13)
        have hb14 := hpu.ext.heap (fun h => (sz.ob bB' h.symm).2.2 rfl) (x13.heap (fun h => h) hbb)
        obtain ⟨gq, lq, cq, hva'⟩ := hpu.some_
        subst hva'
        (refine r88 hAg ?_)
        refine X_store rfl (fun w he => he.heap (fun h => h) hb14) rfl rfl rfl fun w15 w16 he15 hB16 x16 s16 => ?_
        refine X_nil fun w17 he17 => ?_
        have x813 : Ext No w8 w13 := he11.trans (hn12.ext.trans he13)
        have ha13 := x813.heap (fun h => h) ha
        have ho13 := x813.heap (fun h => h) ho
        have lo := lt_of_heap hn6.here
        obtain ⟨H', st'⟩ := decls_round sz x13 ha13 ho13 (by omega) (by omega) (by omega) hcs (by rw [hdl]; exact hdi) (fun hz => hun (huz hz)) hpu hB16 ((he15.mono fun _ _ h => h.elim).trans x16) he17
        (repeat (first | (refine cL ?_; first | (refine cL_add ?_; refine L_valE (R_addI rfl rfl) (succ_i64 h (by omega)) rfl rfl rfl ?_)) | refine r85 ?_))
        refine G_inv ⟨⟨rfl, _, i + 1, decls ++ [a], objs ++ [o], _, H', with_self ⟨rfl, rfl, rfl, rfl, trivial⟩, h, by simp [hdl], st'⟩, ?_⟩
        show ((ds.length : Int) - ((i + 1 : Nat) : Int)).toNat < ((ds.length : Int) - (i : Int)).toNat
        omega
    · have hbt : decide ((i : Int) < (ds.length : Int)) = false := decide_eq_false (by omega)
      (repeat (first | (refine cL ?_; first | (refine cL_lss ?_; refine L_valB (R_ltI rfl rfl) hbt rfl rfl rfl ?_)) | refine G_exit rfl ?_ | refine r85 ?_))
      (refine G_retF rfl ?_)
      obtain ⟨H', g', le', hbu⟩ := s.reads
      refine ⟨ptr bB', rfl, bB', ⟨as_, decls, objs⟩, H', rfl, g', hbu, hal, by simp [hdl]; omega, ?_⟩
      refine ⟨fun a ha => (s.pl a ha).mono le', s.pn, fun n a hn => ?_, s.dn, fun a ha => ?_, s.on⟩
      · obtain ⟨o, d, h1, h2, h3⟩ := s.dl n a hn
        obtain ⟨c, r, h4⟩ := h3.name
        exact ⟨c, o, r, h1, le' _ _ h4⟩
      · obtain ⟨j, hj⟩ := List.mem_iff_getElem?.1 ha
        have hjl := (List.getElem?_eq_some_iff.1 hj).1
        obtain ⟨b, hb⟩ : ∃ b, decls[j]? = some b := ⟨_, List.getElem?_eq_getElem (by have := s.ol; simp at hjl; omega)⟩
        obtain ⟨o, d, h1, h2, h3⟩ := s.dl j b hb
        have hj' : objs[j]? = some a := hj
        rw [hj'] at h1
        injection h1 with h1
        subst h1
        obtain ⟨n, pk', s', t', h4⟩ := h3.obj
        exact ⟨_, _, _, le' _ _ h4⟩
end Go.Proofs.YtjilnjifegeceaaGreatDoor

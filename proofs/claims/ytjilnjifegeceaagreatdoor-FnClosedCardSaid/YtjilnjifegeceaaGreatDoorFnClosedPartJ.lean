/-
  A part of the proof that laws.FnClosed returns true at every input: the walk's own rules and the contracts of functions, in build order.
  Its conditions are those of the statement: see the last text.
-/
import Derived.Test.YtjilnjifegeceaaGreatDoorFnClosedPartI

/-
  The unifier's 'nify' on a type parameter of which nothing is known yet, and a type that is none: it is inferred.
-/
namespace Go.Proofs.YtjilnjifegeceaaGreatDoor
set_option maxRecDepth 100000
set_option maxHeartbeats 4000000
attribute [local irreducible] Calls execOp

theorem r109 {G G' : Prop} (k : G') (h : Hid G' → G := by intro k_; (first | (refine cL ?_; first | (refine cL_move ?_; refine L_val R_move rfl rfl rfl ?_) | (refine cL_load ?_; first | refine L_val (R_loadB rfl (by assumption) (by rfl)) rfl rfl rfl ?_ | refine L_val (R_loadH (by assumption) rfl (by assumption) (by rfl)) rfl rfl rfl ?_) | (refine cL_fieldAddr ?_; refine L_val (R_fa rfl) rfl rfl rfl ?_) | (refine cL_nilCheck ?_; refine L_val (R_nil rfl) rfl rfl rfl ?_) | (refine cL_neq ?_; first | refine L_val (R_nePN rfl rfl) rfl rfl rfl ?_ | refine L_val (R_neI rfl rfl) rfl rfl rfl ?_ | refine L_val (R_neB rfl rfl) rfl rfl rfl ?_ | refine L_val (R_neIfN rfl rfl) rfl rfl rfl ?_ | refine L_val (R_neIfNN rfl) rfl rfl rfl ?_) | refine L_nil ?_) | refine G_seq ?_ | refine G_region ?_ | refine G_skip ?_ | refine G_block ?_ | refine G_end ?_ | refine G_true rfl ?_ | refine G_false rfl ?_); exact k_.out) : G := h ⟨k⟩
theorem r110 {G G' : Prop} (k : G') (h : Hid G' → G := by intro k_; (repeat (first | (refine cL ?_; first | (refine cL_move ?_; refine L_val R_move rfl rfl rfl ?_) | (refine cL_load ?_; first | refine L_val (R_loadB rfl (by assumption) (by rfl)) rfl rfl rfl ?_ | refine L_val (R_loadH (by assumption) rfl (by assumption) (by rfl)) rfl rfl rfl ?_) | (refine cL_fieldAddr ?_; refine L_val (R_fa rfl) rfl rfl rfl ?_) | (refine cL_nilCheck ?_; refine L_val (R_nil rfl) rfl rfl rfl ?_) | (refine cL_neq ?_; first | refine L_val (R_nePN rfl rfl) rfl rfl rfl ?_ | refine L_val (R_neI rfl rfl) rfl rfl rfl ?_ | refine L_val (R_neB rfl rfl) rfl rfl rfl ?_ | refine L_val (R_neIfN rfl rfl) rfl rfl rfl ?_ | refine L_val (R_neIfNN rfl) rfl rfl rfl ?_) | refine L_nil ?_) | refine G_seq ?_ | refine G_region ?_ | refine G_skip ?_ | refine G_block ?_ | refine G_end ?_ | refine G_true rfl ?_ | refine G_false rfl ?_)); exact k_.out) : G := h ⟨k⟩

def HS.put (s : HS) (h : Nat) (v : Value) : HS := ⟨s.hs, fun k => if k = h then v else s.val k⟩

theorem isTypeLit_param (v : Value) (w : World) : Calls Tryz.prog 144 #[.iface 72 v] w (Ret (Is (.bool false) w)) := by
  (refine calls_enter Tryz.func144 Tryz.ntmps144 rfl rfl ?_)
  (repeat (first | (refine cL ?_; first | (refine cL_call ?_; refine L_callI (unalias_any 72 v _ rfl) rfl rfl ?_)) | refine r92 ?_))
  (refine G_retF rfl ?_)
  exact ⟨_, rfl, rfl, rfl⟩

section
variable {H : Hp} {as_ : List Nat} {u hm : Nat} {M : Nat → Prop} {hu : M u} {hH : ∀ b o, H b = some o → ¬ M b} {s : HS} {d : Nat} {w : World}

theorem lookup_hs (hw : UW (mkUC H as_ u hm M hu hH) s d w) (hnd : as_.Nodup) {i a h : Nat} (ha : as_[i]? = some a) (hh : s.hs[i]? = some h) : lookI (hMap as_ s.hs) a 0 = some (0 + i, ptr h) :=
  lookI_some (by rw [hMap_keys hw.si.1]; exact hnd) (hMap_get ha hh)

theorem abtp_yes (hw : UW (mkUC H as_ u hm M hu hH) s d w) (hal : ∀ a ∈ as_, LiveH H a) (hnd : as_.Nodup) {i a h : Nat} (ha : as_[i]? = some a) (hh : s.hs[i]? = some h) :
    Calls Tryz.prog 143 #[ptr u, .iface 72 (ptr a)] w (Ret (Is (ptr a) w)) := by
  have hub := hw.ub
  unfold UCells at hub
  have h2 := hw.si.2.1
  have hA : Agree H w := hw.ag
  have hlk : (match lookI (hMap as_ s.hs) a 0 with | some (_, v) => Value.tuple #[v, .bool true] | none => .tuple #[.pointer none, .bool false]) = .tuple #[ptr h, .bool true] := by
    rw [lookup_hs hw hnd ha hh]
  have hub' : w.heap[u]? = some (Ob [.pointer none, .map (some hm), .int .i64 (d : Int), .bool false] 253) := hub
  clear hub
  (refine calls_enter Tryz.func143 Tryz.ntmps143 rfl rfl ?_)
  (repeat (first | (refine cL ?_; first | refine L_valE (R_lookupPok rfl rfl h2 (hA.live (hal a (List.mem_of_getElem? ha))) (hMap_live hA hal)) hlk rfl rfl rfl ?_ | (refine cL_call ?_; refine L_callI (unalias_any _ _ _ rfl) rfl rfl ?_)) | refine r91 ?_))
  (refine G_retF rfl ?_)
  exact ⟨_, rfl, rfl, rfl⟩

theorem UW.put (hw : UW (mkUC H as_ u hm M hu hH) s d w) {h : Nat} {v : Value} (hm' : h ∈ s.hs) (h1 : v.oneCell' = true) {w' : World} (hb : w'.heap[h]? = some (Ob [v] 60)) (he : Ext (fun k => k = h) w w') :
    UW (mkUC H as_ u hm M hu hH) (s.put h v) d w' := by
  obtain ⟨g1, g2, g3, g4, g5⟩ := hw.si
  obtain ⟨e1, e2, e3, e4⟩ := g3 h hm'
  have hne : hm ≠ h := by
    rintro rfl
    obtain ⟨es, cl, e5, -⟩ := g2
    rw [e5] at e1
    cases e1
  refine ⟨hw.ag.ext he fun b o hb' hk => hH b o hb' (hk ▸ e2), he.heap (fun x => e3 x.symm) hw.ub, fun b hb => Nat.lt_of_lt_of_le (hw.ml b hb) he.size, g1, g2.ext he hne, fun h' hh' => ?_, g4, g5⟩
  obtain ⟨f1, f2, f3, f4⟩ := g3 h' hh'
  by_cases hk : h' = h
  · subst hk
    refine ⟨?_, f2, f3, ?_⟩
    · rw [hb]
      simp [HS.put]
    · simpa [HS.put] using h1
  · refine ⟨?_, f2, f3, ?_⟩
    · rw [he.heap hk f1]
      simp [HS.put, hk]
    · simpa [HS.put, hk] using f4

theorem set_any (hw : UW (mkUC H as_ u hm M hu hH) s d w) (hal : ∀ a ∈ as_, LiveH H a) (hnd : as_.Nodup) {i a h T : Nat} {v : Value} (ha : as_[i]? = some a) (hh : s.hs[i]? = some h) :
    Calls Tryz.prog 149 #[ptr u, ptr a, .iface T v] w (Ret fun _ w' => UW (mkUC H as_ u hm M hu hH) (s.put h (.iface T v)) d w' ∧ Ext M w w') := by
  have hub := hw.ub
  unfold UCells at hub
  have h2 := hw.si.2.1
  have hA : Agree H w := hw.ag
  have hhm := List.mem_of_getElem? hh
  obtain ⟨g1, gM, -, -⟩ := hw.si.2.2.1 h hhm
  have hlk : (match lookI (hMap as_ s.hs) a 0 with | some (_, v) => v | none => .pointer none) = ptr h := by
    rw [lookup_hs hw hnd ha hh]
  have hub' : w.heap[u]? = some (Ob [.pointer none, .map (some hm), .int .i64 (d : Int), .bool false] 253) := hub
  clear hub
  (refine calls_enter Tryz.func149 Tryz.ntmps149 rfl rfl ?_)
  (repeat (first | (refine cL ?_; first | refine L_valE (R_lookupP rfl rfl h2 (hA.live (hal a (List.mem_of_getElem? ha))) (hMap_live hA hal)) hlk rfl rfl rfl ?_ | (refine cL_call ?_; refine L_callI (assert_true _) rfl rfl ?_)) | refine r109 ?_))
  refine L_store rfl g1 rfl rfl rfl fun w2 h2' e2 s2 => ?_
  (refine r110 ?_)
  refine G_end0 rfl ?_
  exact ⟨_, rfl, hw.put hhm rfl h2' e2, e2.mono fun _ _ hk => hk ▸ gM⟩

theorem nf_set {m m' : Int} {i a h b : Nat} {T : Nat} [PtrEq Tryz.prog T] [CmpT Tryz.prog T] (hTa : Nat.beq T 258 = false) (hTp : Nat.beq T 72 = false) (hTn : Nat.beq T 80 = false) (hm0 : Md m m') (hd : d + 1 ≤ 50) (hal : ∀ a ∈ as_, LiveH H a) (hnd : as_.Nodup) (ha : as_[i]? = some a) (hh : s.hs[i]? = some h) (hnil : s.val h = .nilIface) (hl' : LiveH H b) {Q : Bool → HS → Prop} (hq : Q true (s.put h (.iface T (ptr b)))) :
    Nf (mkUC H as_ u hm M hu hH) m (.iface 72 (ptr a)) (.iface T (ptr b)) d s Q := by
  intro w hw
  have hl : LiveH H a := hal a (List.mem_of_getElem? ha)
  have hinc : Value.int .i64 (IntKind.i64.wrap ((d : Int) + 1)) = .int .i64 ((d + 1 : Nat) : Int) := by rw [wrap_i64 (by omega) (by omega)]; rfl
  have hle : decide (((d + 1 : Nat) : Int) > 50) = false := decide_eq_false (by omega)
  have hTp' : Nat.beq 72 T = false := by
    cases hq : Nat.beq 72 T with
    | false => rfl
    | true =>
      have := Nat.eq_of_beq_eq_true hq
      subst this
      rw [nbeq_self] at hTp
      cases hTp
  have e : (Nat.beq 72 T && peq (some ⟨a, 0, none⟩) (some ⟨b, 0, none⟩)) = false := by rw [hTp']; rfl
  obtain ⟨C, hC⟩ : ∃ C, C = mkUC H as_ u hm M hu hH := ⟨_, rfl⟩
  have hCu : C.u = u := by rw [hC]; rfl
  have hCM : C.M = M := by rw [hC]; rfl
  have hCH : C.H = H := by rw [hC]; rfl
  have hCc : C.ck = .pointer none := by rw [hC]; rfl
  have hCm : C.hm = hm := by rw [hC]; rfl
  have hub := hw.ub
  unfold UCells at hub
  rw [← hC] at hw hub ⊢
  unfold NfAt
  rcases hm0 with ⟨rfl, rfl⟩ | ⟨rfl, rfl⟩ | ⟨rfl, rfl⟩ | ⟨rfl, rfl⟩
  all_goals
    (refine calls_enter_d Tryz.func111 Tryz.ntmps111 rfl rfl ?_)
    (refine r94 ?_)
    refine L_box rfl rfl rfl fun b5 w1 hn1 => ?_
    have hub1 := hn1.ext.heap (fun x => x) hub
    have h51 := hn1.here
    (repeat (first | (refine cL ?_; first | (refine cL_guard ?_; refine L_unwanted rfl rfl rfl ?_) | (refine cL_add ?_; refine L_valE (R_addI rfl rfl) hinc rfl rfl rfl ?_)) | refine r95 ?_))
    refine L_store rfl hub1 rfl rfl rfl fun w2 hub2 e2 s2 => ?_
    have hb5 : b5 ≠ C.u := by have := lt_of_heap hub; have := hn1.fresh; omega
    have hbM : ¬ C.M b5 := fun x => by have := hw.ml _ x; have := hn1.fresh; omega
    have hw2 : UW C s (d + 1) w2 := (hw.ext hn1.ext).deep hub2 e2
    have x2 : Ext C.M w w2 := hn1.ext.of_no.trans (e2.mono fun i _ h => by rw [h]; exact C.hu)
    have h52 := e2.heap (fun x => hb5 x) h51
    clear hub1 h51 e2 hub2
    have hub2 := hw2.ub
    unfold UCells at hub2
    have hA : Agree H w2 := hCH ▸ hw2.ag
    have hw2' : UW (mkUC H as_ u hm M hu hH) s (d + 1) w2 := hC ▸ hw2
    (repeat (first | (refine cL ?_; first | refine L_val (R_makeFunc (xs := [.tmp 5])) rfl rfl rfl ?_) | refine r95 ?_))
    refine L_defer (R_deferV rfl) rfl rfl ?_
    have hby : ∀ w', UW C s (d + 1) w' → Calls Tryz.prog 143 #[ptr C.u, .iface 72 (ptr a)] w' (Ret (Is (ptr a) w')) := fun w' hw' => by
      rw [hCu]
      exact abtp_yes (hC ▸ hw') hal hnd ha hh
    (repeat (first | (refine cL ?_; first | (refine cL_guard ?_; refine L_unwanted rfl rfl rfl ?_) | (refine cL_call ?_; first | refine L_callI (unalias_any _ _ _ rfl) rfl rfl ?_ | refine L_callI (unalias_any _ _ _ hTa) rfl rfl ?_ | refine L_callI (asNamed_no _ _ _ rfl rfl) rfl rfl ?_ | refine L_callI (asNamed_no _ _ _ hTa hTn) rfl rfl ?_ | refine L_callI (hby _ hw2) rfl rfl ?_ | refine L_callI (abtp_no _ _ _ _ hTa hTp) rfl rfl ?_ | refine L_callI (isTypeLit_param _ _) rfl rfl ?_) | (refine cL_eql ?_; refine L_valB (R_eqIf rfl rfl (hA.live hl) (hA.live hl')) e rfl rfl rfl ?_) | (refine cL_gtr ?_; refine L_valB (R_gtI rfl rfl) hle rfl rfl rfl ?_) | (refine cL_and ?_; refine L_val (R_andI rfl rfl) rfl rfl rfl ?_)) | refine r95 ?_))
    (refine G_draw No (0 :: 1 :: 2 :: 3 :: 4 :: 5 :: 6 :: 7 :: []) [] follows (by kernel_rfl) rfl ?_)
    have hAg : ∀ w', Ext No w2 w' → Agree H w' := fun _ he => hA.ext0 he
    (repeat (first | (refine cD_guard ?_; refine D_unwanted rfl rfl ?_) | (refine cD_load ?_; refine D_val0 (fun w he => R_loadB rfl (he.heap (fun x => x) h52) rfl) rfl rfl ?_) | (refine cD_call ?_; first | refine D_callQ (fun w he => Is.qt (hby _ (hw2.ext he))) rfl ?_ | refine D_callQ (fun w he => Is.qt (abtp_no _ _ _ _ hTa hTp)) rfl ?_) | refine r96 hAg ?_))
    refine D_nil fun w3 he3 => ?_
    refine G_frame (l := [(1, .iface 72 (ptr a)), (2, .iface T (ptr b)), (3, .int .u64 _), (4, .pointer none), (5, ptr b5), (12, ptr a), (13, .pointer none)]) ⟨rfl, rfl, rfl, rfl, rfl, rfl, rfl, trivial⟩ fun f0 => ?_
    have hw3 := hw2.ext he3
    have h53 := he3.heap (fun x => x) h52
    have x3 : Ext C.M w w3 := x2.trans he3.of_no
    have hat : Calls Tryz.prog 112 #[ptr C.u, ptr a] w3 (Ret (Is .nilIface w3)) := by
      rw [hCu, ← hnil]
      exact at_any (hC ▸ hw3) hal hnd ha hh
    have hset : Calls Tryz.prog 149 #[ptr C.u, ptr a, .iface T (ptr b)] w3 (Ret fun _ w' => UW C (s.put h (.iface T (ptr b))) (d + 1) w' ∧ Ext C.M w3 w') := by
      rw [hCu, hCM]
      exact (set_any (hC ▸ hw3) hal hnd ha hh).mono fun _ w' ⟨v, h1, h2, h3⟩ => ⟨v, h1, hC ▸ h2, h3⟩
    (repeat (first | (refine cL ?_; first | (refine cL_guard ?_; refine L_unwanted rfl rfl rfl ?_) | (refine cL_call ?_; refine L_callI hat rfl rfl ?_)) | refine r95 ?_))
    refine L_callR hset rfl rfl fun v w4 ⟨hw4, x4⟩ => ?_
    (refine r94 ?_)
    refine G_ret ?_
    intro tmps htm
    exact nf_leave (fun w => ResV.tmp rfl _ w tmps htm) rfl (x4.heap hbM h53) hw4 (by omega) hq (x3.trans x4)

theorem nf_setB {m m' : Int} {i a h b : Nat} {T : Nat} [PtrEq Tryz.prog T] [CmpT Tryz.prog T] (hTa : Nat.beq T 258 = false) (hTp : Nat.beq T 72 = false) (hTn : Nat.beq T 80 = false) (hm0 : Md m m') (hd : d + 1 ≤ 50) (hal : ∀ a ∈ as_, LiveH H a) (hnd : as_.Nodup) (ha : as_[i]? = some a) (hh : s.hs[i]? = some h) (hnil : s.val h = .nilIface) (hl' : LiveH H b) {Q : Bool → HS → Prop} (hq : Q true (s.put h (.iface T (ptr b)))) :
    Nf (mkUC H as_ u hm M hu hH) m (.iface T (ptr b)) (.iface 72 (ptr a)) d s Q := by
  intro w hw
  have hl : LiveH H a := hal a (List.mem_of_getElem? ha)
  have hinc : Value.int .i64 (IntKind.i64.wrap ((d : Int) + 1)) = .int .i64 ((d + 1 : Nat) : Int) := by rw [wrap_i64 (by omega) (by omega)]; rfl
  have hle : decide (((d + 1 : Nat) : Int) > 50) = false := decide_eq_false (by omega)
  have e : (Nat.beq T 72 && peq (some ⟨b, 0, none⟩) (some ⟨a, 0, none⟩)) = false := by rw [hTp]; rfl
  obtain ⟨C, hC⟩ : ∃ C, C = mkUC H as_ u hm M hu hH := ⟨_, rfl⟩
  have hCu : C.u = u := by rw [hC]; rfl
  have hCM : C.M = M := by rw [hC]; rfl
  have hCH : C.H = H := by rw [hC]; rfl
  have hCc : C.ck = .pointer none := by rw [hC]; rfl
  have hCm : C.hm = hm := by rw [hC]; rfl
  have hub := hw.ub
  unfold UCells at hub
  rw [← hC] at hw hub ⊢
  unfold NfAt
  rcases hm0 with ⟨rfl, rfl⟩ | ⟨rfl, rfl⟩ | ⟨rfl, rfl⟩ | ⟨rfl, rfl⟩
  all_goals
    (refine calls_enter_d Tryz.func111 Tryz.ntmps111 rfl rfl ?_)
    (refine r94 ?_)
    refine L_box rfl rfl rfl fun b5 w1 hn1 => ?_
    have hub1 := hn1.ext.heap (fun x => x) hub
    have h51 := hn1.here
    (repeat (first | (refine cL ?_; first | (refine cL_guard ?_; refine L_unwanted rfl rfl rfl ?_) | (refine cL_add ?_; refine L_valE (R_addI rfl rfl) hinc rfl rfl rfl ?_)) | refine r95 ?_))
    refine L_store rfl hub1 rfl rfl rfl fun w2 hub2 e2 s2 => ?_
    have hb5 : b5 ≠ C.u := by have := lt_of_heap hub; have := hn1.fresh; omega
    have hbM : ¬ C.M b5 := fun x => by have := hw.ml _ x; have := hn1.fresh; omega
    have hw2 : UW C s (d + 1) w2 := (hw.ext hn1.ext).deep hub2 e2
    have x2 : Ext C.M w w2 := hn1.ext.of_no.trans (e2.mono fun i _ h => by rw [h]; exact C.hu)
    have h52 := e2.heap (fun x => hb5 x) h51
    clear hub1 h51 e2 hub2
    have hub2 := hw2.ub
    unfold UCells at hub2
    have hA : Agree H w2 := hCH ▸ hw2.ag
    have hw2' : UW (mkUC H as_ u hm M hu hH) s (d + 1) w2 := hC ▸ hw2
    (repeat (first | (refine cL ?_; first | refine L_val (R_makeFunc (xs := [.tmp 5])) rfl rfl rfl ?_) | refine r95 ?_))
    refine L_defer (R_deferV rfl) rfl rfl ?_
    have hby : ∀ w', UW C s (d + 1) w' → Calls Tryz.prog 143 #[ptr C.u, .iface 72 (ptr a)] w' (Ret (Is (ptr a) w')) := fun w' hw' => by
      rw [hCu]
      exact abtp_yes (hC ▸ hw') hal hnd ha hh
    (repeat (first | (refine cL ?_; first | (refine cL_guard ?_; refine L_unwanted rfl rfl rfl ?_) | (refine cL_call ?_; first | refine L_callI (unalias_any _ _ _ rfl) rfl rfl ?_ | refine L_callI (unalias_any _ _ _ hTa) rfl rfl ?_ | refine L_callI (asNamed_no _ _ _ rfl rfl) rfl rfl ?_ | refine L_callI (asNamed_no _ _ _ hTa hTn) rfl rfl ?_ | refine L_callI (hby _ hw2) rfl rfl ?_ | refine L_callI (abtp_no _ _ _ _ hTa hTp) rfl rfl ?_ | refine L_callI (isTypeLit_param _ _) rfl rfl ?_) | (refine cL_eql ?_; refine L_valB (R_eqIf rfl rfl (hA.live hl') (hA.live hl)) e rfl rfl rfl ?_) | (refine cL_gtr ?_; refine L_valB (R_gtI rfl rfl) hle rfl rfl rfl ?_) | (refine cL_and ?_; refine L_val (R_andI rfl rfl) rfl rfl rfl ?_)) | refine r95 ?_))
    (refine G_draw No (0 :: 1 :: 2 :: 3 :: 4 :: 5 :: 6 :: 7 :: []) [] follows (by kernel_rfl) rfl ?_)
    have hAg : ∀ w', Ext No w2 w' → Agree H w' := fun _ he => hA.ext0 he
    (repeat (first | (refine cD_guard ?_; refine D_unwanted rfl rfl ?_) | (refine cD_load ?_; refine D_val0 (fun w he => R_loadB rfl (he.heap (fun x => x) h52) rfl) rfl rfl ?_) | (refine cD_call ?_; first | refine D_callQ (fun w he => Is.qt (hby _ (hw2.ext he))) rfl ?_ | refine D_callQ (fun w he => Is.qt (abtp_no _ _ _ _ hTa hTp)) rfl ?_) | refine r96 hAg ?_))
    refine D_nil fun w3 he3 => ?_
    refine G_frame (l := [(1, .iface 72 (ptr a)), (2, .iface T (ptr b)), (3, .int .u64 _), (4, .pointer none), (5, ptr b5), (12, ptr a), (13, .pointer none)]) ⟨rfl, rfl, rfl, rfl, rfl, rfl, rfl, trivial⟩ fun f0 => ?_
    have hw3 := hw2.ext he3
    have h53 := he3.heap (fun x => x) h52
    have x3 : Ext C.M w w3 := x2.trans he3.of_no
    have hat : Calls Tryz.prog 112 #[ptr C.u, ptr a] w3 (Ret (Is .nilIface w3)) := by
      rw [hCu, ← hnil]
      exact at_any (hC ▸ hw3) hal hnd ha hh
    have hset : Calls Tryz.prog 149 #[ptr C.u, ptr a, .iface T (ptr b)] w3 (Ret fun _ w' => UW C (s.put h (.iface T (ptr b))) (d + 1) w' ∧ Ext C.M w3 w') := by
      rw [hCu, hCM]
      exact (set_any (hC ▸ hw3) hal hnd ha hh).mono fun _ w' ⟨v, h1, h2, h3⟩ => ⟨v, h1, hC ▸ h2, h3⟩
    (repeat (first | (refine cL ?_; first | (refine cL_guard ?_; refine L_unwanted rfl rfl rfl ?_) | (refine cL_call ?_; refine L_callI hat rfl rfl ?_)) | refine r95 ?_))
    refine L_callR hset rfl rfl fun v w4 ⟨hw4, x4⟩ => ?_
    (refine r94 ?_)
    refine G_ret ?_
    intro tmps htm
    exact nf_leave (fun w => ResV.tmp rfl _ w tmps htm) rfl (x4.heap hbM h53) hw4 (by omega) hq (x3.trans x4)

theorem nf_setN {m m' : Int} {i a h b : Nat} (hm0 : Md m m') (hd : d + 1 ≤ 50) (hal : ∀ a ∈ as_, LiveH H a) (hnd : as_.Nodup) (ha : as_[i]? = some a) (hh : s.hs[i]? = some h) (hnil : s.val h = .nilIface) (hl' : LiveH H b) {Q : Bool → HS → Prop} (hq : Q true (s.put h (.iface 80 (ptr b)))) :
    Nf (mkUC H as_ u hm M hu hH) m (.iface 72 (ptr a)) (.iface 80 (ptr b)) d s Q := by
  intro w hw
  have hl : LiveH H a := hal a (List.mem_of_getElem? ha)
  have hinc : Value.int .i64 (IntKind.i64.wrap ((d : Int) + 1)) = .int .i64 ((d + 1 : Nat) : Int) := by rw [wrap_i64 (by omega) (by omega)]; rfl
  have hle : decide (((d + 1 : Nat) : Int) > 50) = false := decide_eq_false (by omega)
  have e : (Nat.beq 72 80 && peq (some ⟨a, 0, none⟩) (some ⟨b, 0, none⟩)) = false := rfl
  obtain ⟨C, hC⟩ : ∃ C, C = mkUC H as_ u hm M hu hH := ⟨_, rfl⟩
  have hCu : C.u = u := by rw [hC]; rfl
  have hCM : C.M = M := by rw [hC]; rfl
  have hCH : C.H = H := by rw [hC]; rfl
  have hCc : C.ck = .pointer none := by rw [hC]; rfl
  have hCm : C.hm = hm := by rw [hC]; rfl
  have hub := hw.ub
  unfold UCells at hub
  rw [← hC] at hw hub ⊢
  unfold NfAt
  rcases hm0 with ⟨rfl, rfl⟩ | ⟨rfl, rfl⟩ | ⟨rfl, rfl⟩ | ⟨rfl, rfl⟩
  all_goals
    (refine calls_enter_d Tryz.func111 Tryz.ntmps111 rfl rfl ?_)
    (refine r94 ?_)
    refine L_box rfl rfl rfl fun b5 w1 hn1 => ?_
    have hub1 := hn1.ext.heap (fun x => x) hub
    have h51 := hn1.here
    (repeat (first | (refine cL ?_; first | (refine cL_guard ?_; refine L_unwanted rfl rfl rfl ?_) | (refine cL_add ?_; refine L_valE (R_addI rfl rfl) hinc rfl rfl rfl ?_)) | refine r95 ?_))
    refine L_store rfl hub1 rfl rfl rfl fun w2 hub2 e2 s2 => ?_
    have hb5 : b5 ≠ C.u := by have := lt_of_heap hub; have := hn1.fresh; omega
    have hbM : ¬ C.M b5 := fun x => by have := hw.ml _ x; have := hn1.fresh; omega
    have hw2 : UW C s (d + 1) w2 := (hw.ext hn1.ext).deep hub2 e2
    have x2 : Ext C.M w w2 := hn1.ext.of_no.trans (e2.mono fun i _ h => by rw [h]; exact C.hu)
    have h52 := e2.heap (fun x => hb5 x) h51
    clear hub1 h51 e2 hub2
    have hub2 := hw2.ub
    unfold UCells at hub2
    have hA : Agree H w2 := hCH ▸ hw2.ag
    have hw2' : UW (mkUC H as_ u hm M hu hH) s (d + 1) w2 := hC ▸ hw2
    (repeat (first | (refine cL ?_; first | refine L_val (R_makeFunc (xs := [.tmp 5])) rfl rfl rfl ?_) | refine r95 ?_))
    refine L_defer (R_deferV rfl) rfl rfl ?_
    have hby : ∀ w', UW C s (d + 1) w' → Calls Tryz.prog 143 #[ptr C.u, .iface 72 (ptr a)] w' (Ret (Is (ptr a) w')) := fun w' hw' => by
      rw [hCu]
      exact abtp_yes (hC ▸ hw') hal hnd ha hh
    (repeat (first | (refine cL ?_; first | (refine cL_guard ?_; refine L_unwanted rfl rfl rfl ?_) | (refine cL_call ?_; first | refine L_callI (unalias_any _ _ _ rfl) rfl rfl ?_ | refine L_callI (unalias_any _ _ _ rfl) rfl rfl ?_ | refine L_callI (asNamed_no _ _ _ rfl rfl) rfl rfl ?_ | refine L_callI (asNamed_yes _ _) rfl rfl ?_ | refine L_callI (hby _ hw2) rfl rfl ?_ | refine L_callI (abtp_no _ _ _ _ rfl rfl) rfl rfl ?_ | refine L_callI (isTypeLit_param _ _) rfl rfl ?_) | (refine cL_eql ?_; refine L_valB (R_eqIf rfl rfl (hA.live hl) (hA.live hl')) e rfl rfl rfl ?_) | (refine cL_gtr ?_; refine L_valB (R_gtI rfl rfl) hle rfl rfl rfl ?_) | (refine cL_and ?_; refine L_val (R_andI rfl rfl) rfl rfl rfl ?_)) | refine r95 ?_))
    (refine G_draw No (0 :: 1 :: 2 :: 3 :: 4 :: 5 :: 6 :: 7 :: []) [] follows (by kernel_rfl) rfl ?_)
    have hAg : ∀ w', Ext No w2 w' → Agree H w' := fun _ he => hA.ext0 he
    (repeat (first | (refine cD_guard ?_; refine D_unwanted rfl rfl ?_) | (refine cD_load ?_; refine D_val0 (fun w he => R_loadB rfl (he.heap (fun x => x) h52) rfl) rfl rfl ?_) | (refine cD_call ?_; first | refine D_callQ (fun w he => Is.qt (hby _ (hw2.ext he))) rfl ?_ | refine D_callQ (fun w he => Is.qt (abtp_no _ _ _ _ rfl rfl)) rfl ?_) | refine r96 hAg ?_))
    refine D_nil fun w3 he3 => ?_
    refine G_frame (l := [(1, .iface 72 (ptr a)), (2, .iface 80 (ptr b)), (3, .int .u64 _), (4, .pointer none), (5, ptr b5), (12, ptr a), (13, .pointer none)]) ⟨rfl, rfl, rfl, rfl, rfl, rfl, rfl, trivial⟩ fun f0 => ?_
    have hw3 := hw2.ext he3
    have h53 := he3.heap (fun x => x) h52
    have x3 : Ext C.M w w3 := x2.trans he3.of_no
    have hat : Calls Tryz.prog 112 #[ptr C.u, ptr a] w3 (Ret (Is .nilIface w3)) := by
      rw [hCu, ← hnil]
      exact at_any (hC ▸ hw3) hal hnd ha hh
    have hset : Calls Tryz.prog 149 #[ptr C.u, ptr a, .iface 80 (ptr b)] w3 (Ret fun _ w' => UW C (s.put h (.iface 80 (ptr b))) (d + 1) w' ∧ Ext C.M w3 w') := by
      rw [hCu, hCM]
      exact (set_any (hC ▸ hw3) hal hnd ha hh).mono fun _ w' ⟨v, h1, h2, h3⟩ => ⟨v, h1, hC ▸ h2, h3⟩
    (repeat (first | (refine cL ?_; first | (refine cL_guard ?_; refine L_unwanted rfl rfl rfl ?_) | (refine cL_call ?_; refine L_callI hat rfl rfl ?_)) | refine r95 ?_))
    refine L_callR hset rfl rfl fun v w4 ⟨hw4, x4⟩ => ?_
    (refine r94 ?_)
    refine G_ret ?_
    intro tmps htm
    exact nf_leave (fun w => ResV.tmp rfl _ w tmps htm) rfl (x4.heap hbM h53) hw4 (by omega) hq (x3.trans x4)

theorem nf_setNB {m m' : Int} {i a h b : Nat} (hm0 : Md m m') (hd : d + 1 ≤ 50) (hal : ∀ a ∈ as_, LiveH H a) (hnd : as_.Nodup) (ha : as_[i]? = some a) (hh : s.hs[i]? = some h) (hnil : s.val h = .nilIface) (hl' : LiveH H b) {Q : Bool → HS → Prop} (hq : Q true (s.put h (.iface 80 (ptr b)))) :
    Nf (mkUC H as_ u hm M hu hH) m (.iface 80 (ptr b)) (.iface 72 (ptr a)) d s Q := by
  intro w hw
  have hl : LiveH H a := hal a (List.mem_of_getElem? ha)
  have hinc : Value.int .i64 (IntKind.i64.wrap ((d : Int) + 1)) = .int .i64 ((d + 1 : Nat) : Int) := by rw [wrap_i64 (by omega) (by omega)]; rfl
  have hle : decide (((d + 1 : Nat) : Int) > 50) = false := decide_eq_false (by omega)
  have e : (Nat.beq 80 72 && peq (some ⟨b, 0, none⟩) (some ⟨a, 0, none⟩)) = false := rfl
  obtain ⟨C, hC⟩ : ∃ C, C = mkUC H as_ u hm M hu hH := ⟨_, rfl⟩
  have hCu : C.u = u := by rw [hC]; rfl
  have hCM : C.M = M := by rw [hC]; rfl
  have hCH : C.H = H := by rw [hC]; rfl
  have hCc : C.ck = .pointer none := by rw [hC]; rfl
  have hCm : C.hm = hm := by rw [hC]; rfl
  have hub := hw.ub
  unfold UCells at hub
  rw [← hC] at hw hub ⊢
  unfold NfAt
  rcases hm0 with ⟨rfl, rfl⟩ | ⟨rfl, rfl⟩ | ⟨rfl, rfl⟩ | ⟨rfl, rfl⟩
  all_goals
    (refine calls_enter_d Tryz.func111 Tryz.ntmps111 rfl rfl ?_)
    (refine r94 ?_)
    refine L_box rfl rfl rfl fun b5 w1 hn1 => ?_
    have hub1 := hn1.ext.heap (fun x => x) hub
    have h51 := hn1.here
    (repeat (first | (refine cL ?_; first | (refine cL_guard ?_; refine L_unwanted rfl rfl rfl ?_) | (refine cL_add ?_; refine L_valE (R_addI rfl rfl) hinc rfl rfl rfl ?_)) | refine r95 ?_))
    refine L_store rfl hub1 rfl rfl rfl fun w2 hub2 e2 s2 => ?_
    have hb5 : b5 ≠ C.u := by have := lt_of_heap hub; have := hn1.fresh; omega
    have hbM : ¬ C.M b5 := fun x => by have := hw.ml _ x; have := hn1.fresh; omega
    have hw2 : UW C s (d + 1) w2 := (hw.ext hn1.ext).deep hub2 e2
    have x2 : Ext C.M w w2 := hn1.ext.of_no.trans (e2.mono fun i _ h => by rw [h]; exact C.hu)
    have h52 := e2.heap (fun x => hb5 x) h51
    clear hub1 h51 e2 hub2
    have hub2 := hw2.ub
    unfold UCells at hub2
    have hA : Agree H w2 := hCH ▸ hw2.ag
    have hw2' : UW (mkUC H as_ u hm M hu hH) s (d + 1) w2 := hC ▸ hw2
    (repeat (first | (refine cL ?_; first | refine L_val (R_makeFunc (xs := [.tmp 5])) rfl rfl rfl ?_) | refine r95 ?_))
    refine L_defer (R_deferV rfl) rfl rfl ?_
    have hby : ∀ w', UW C s (d + 1) w' → Calls Tryz.prog 143 #[ptr C.u, .iface 72 (ptr a)] w' (Ret (Is (ptr a) w')) := fun w' hw' => by
      rw [hCu]
      exact abtp_yes (hC ▸ hw') hal hnd ha hh
    (repeat (first | (refine cL ?_; first | (refine cL_guard ?_; refine L_unwanted rfl rfl rfl ?_) | (refine cL_call ?_; first | refine L_callI (unalias_any _ _ _ rfl) rfl rfl ?_ | refine L_callI (unalias_any _ _ _ rfl) rfl rfl ?_ | refine L_callI (asNamed_no _ _ _ rfl rfl) rfl rfl ?_ | refine L_callI (asNamed_yes _ _) rfl rfl ?_ | refine L_callI (hby _ hw2) rfl rfl ?_ | refine L_callI (abtp_no _ _ _ _ rfl rfl) rfl rfl ?_ | refine L_callI (isTypeLit_param _ _) rfl rfl ?_) | (refine cL_eql ?_; refine L_valB (R_eqIf rfl rfl (hA.live hl') (hA.live hl)) e rfl rfl rfl ?_) | (refine cL_gtr ?_; refine L_valB (R_gtI rfl rfl) hle rfl rfl rfl ?_) | (refine cL_and ?_; refine L_val (R_andI rfl rfl) rfl rfl rfl ?_)) | refine r95 ?_))
    (refine G_draw No (0 :: 1 :: 2 :: 3 :: 4 :: 5 :: 6 :: 7 :: []) [] follows (by kernel_rfl) rfl ?_)
    have hAg : ∀ w', Ext No w2 w' → Agree H w' := fun _ he => hA.ext0 he
    (repeat (first | (refine cD_guard ?_; refine D_unwanted rfl rfl ?_) | (refine cD_load ?_; refine D_val0 (fun w he => R_loadB rfl (he.heap (fun x => x) h52) rfl) rfl rfl ?_) | (refine cD_call ?_; first | refine D_callQ (fun w he => Is.qt (hby _ (hw2.ext he))) rfl ?_ | refine D_callQ (fun w he => Is.qt (abtp_no _ _ _ _ rfl rfl)) rfl ?_) | refine r96 hAg ?_))
    refine D_nil fun w3 he3 => ?_
    refine G_frame (l := [(1, .iface 72 (ptr a)), (2, .iface 80 (ptr b)), (3, .int .u64 _), (4, .pointer none), (5, ptr b5), (12, ptr a), (13, .pointer none)]) ⟨rfl, rfl, rfl, rfl, rfl, rfl, rfl, trivial⟩ fun f0 => ?_
    have hw3 := hw2.ext he3
    have h53 := he3.heap (fun x => x) h52
    have x3 : Ext C.M w w3 := x2.trans he3.of_no
    have hat : Calls Tryz.prog 112 #[ptr C.u, ptr a] w3 (Ret (Is .nilIface w3)) := by
      rw [hCu, ← hnil]
      exact at_any (hC ▸ hw3) hal hnd ha hh
    have hset : Calls Tryz.prog 149 #[ptr C.u, ptr a, .iface 80 (ptr b)] w3 (Ret fun _ w' => UW C (s.put h (.iface 80 (ptr b))) (d + 1) w' ∧ Ext C.M w3 w') := by
      rw [hCu, hCM]
      exact (set_any (hC ▸ hw3) hal hnd ha hh).mono fun _ w' ⟨v, h1, h2, h3⟩ => ⟨v, h1, hC ▸ h2, h3⟩
    (repeat (first | (refine cL ?_; first | (refine cL_guard ?_; refine L_unwanted rfl rfl rfl ?_) | (refine cL_call ?_; refine L_callI hat rfl rfl ?_)) | refine r95 ?_))
    refine L_callR hset rfl rfl fun v w4 ⟨hw4, x4⟩ => ?_
    (refine r94 ?_)
    refine G_ret ?_
    intro tmps htm
    exact nf_leave (fun w => ResV.tmp rfl _ w tmps htm) rfl (x4.heap hbM h53) hw4 (by omega) hq (x3.trans x4)

end
end Go.Proofs.YtjilnjifegeceaaGreatDoor

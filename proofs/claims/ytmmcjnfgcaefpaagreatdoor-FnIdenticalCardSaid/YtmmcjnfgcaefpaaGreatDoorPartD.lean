/-
  A part of the proof that laws.FnIdentical returns true at every input: the walk's own rules and the contracts of functions, in build order.
  Its conditions are those of the statement: see the last text.
-/
import Derived.Conc.MuLone
import Derived.Test.YtmmcjnfgcaefpaaGreatDoorPartC

/-
  The verifier's counting 'build' on the input's types: it comes back, and its fuel pays for each part.
-/
namespace Go.Proofs.YtmmcjnfgcaefpaaGreatDoor
set_option maxRecDepth 100000
set_option maxHeartbeats 4000000
attribute [local irreducible] Calls execOp

instance app_ints : AppT Tryz.prog 48 3 8 := ⟨by kernel_rfl, by kernel_rfl⟩

/-- from F to F' over a type of so many parts -/
structure Spent (F F' : Int) (sz : Nat) : Prop where
  le : F' ≤ F - 1
  pos : 0 < F' → F' ≤ F - sz
  dead : F ≤ 0 → F' = F - 1
  low : 0 < F → -(F * 4398046511104) ≤ F'

def Built (bB : Nat) (dv : Value) (F : Int) (sz : Nat) (w : World) (v : Value) (w' : World) : Prop :=
  ∃ k F', v = .int .i64 k ∧ 0 ≤ k ∧ k ≤ 1000000 ∧ Spent F F' sz ∧ w'.heap[bB]? = some (Ob [dv, .int .i64 F'] 37) ∧ Ext (fun b => b = bB) w w'

structure OwnI (w : World) (bB : Nat) (vo : Value) (ks : List Int) : Prop where
  own : OwnS w 3 vo (ks.map (Value.int .i64))
  bd : ∀ k ∈ ks, 0 ≤ k ∧ k ≤ 1000000
  ne : vo.ownBlock ≠ some bB
theorem OwnI.ext {M : Nat → Prop} {w w' : World} {bB : Nat} {vo : Value} {ks : List Int} (h : OwnI w bB vo ks) (he : Ext M w w') (hm : ∀ g, M g → g = bB) : OwnI w' bB vo ks :=
  ⟨h.own.ext he fun g hg hM => h.ne (by rw [hg, hm g hM]), h.bd, h.ne⟩
theorem OwnI.nil (w : World) (bB : Nat) : OwnI w bB (.slice none 0 0) [] := ⟨.inl ⟨rfl, rfl⟩, (fun k hk => by cases hk), by simp [Value.ownBlock]⟩

theorem OwnI.look {w : World} {bB : Nat} {vo : Value} {ks : List Int} (h : OwnI w bB vo ks) : ∃ q c, vo = .slice q ks.length c ∧
    ∀ (i : Nat) (k : Int), ks[i]? = some k → ∃ g cs, q = some ⟨g, 0, none⟩ ∧ g ≠ bB ∧ w.heap[g]? = some (Ob cs 3) ∧ lget cs i = some (.int .i64 k) := by
  rcases h.own with ⟨h1, h2⟩ | ⟨g, c, r, h1, h2, h3⟩
  · have hk : ks = [] := by simpa using h2
    subst hk
    exact ⟨none, 0, h1, fun i k hk => by simp at hk⟩
  · refine ⟨some ⟨g, 0, none⟩, c, by rw [h1]; simp, fun i k hk => ⟨g, _, rfl, fun hb => h.ne (by rw [h1, ← hb]; rfl), h2, ?_⟩⟩
    rw [lget_eq, List.getElem?_append_left (by simpa using (List.getElem?_eq_some_iff.1 hk).1)]
    simp [hk]

theorem Ty.size_eq (t : Ty) : Ty.size t = 1 + Ty.sizeL t.es := by cases t; rfl
theorem Ty.sizeL_app : ∀ (a b : List Ty), Ty.sizeL (a ++ b) = Ty.sizeL a + Ty.sizeL b
  | [], b => by simp [Ty.sizeL]
  | x :: a, b => by simp only [List.cons_append, Ty.sizeL, Ty.sizeL_app a b]; omega
theorem Ty.sizeL_succ {es : List Ty} {i : Nat} {e : Ty} (h : es[i]? = some e) : Ty.sizeL (es.take (i + 1)) = Ty.sizeL (es.take i) + Ty.size e := by
  rw [List.take_add_one, h]
  simp [Ty.sizeL_app, Ty.sizeL]

/-- each declaration names earlier ones -/
def DeclsOK (ds : List (Int × Ty)) : Prop := ∀ (n : Nat) (d : Int × Ty), ds[n]? = some d → 0 ≤ d.1 ∧ shapedB (ds.take n) 0 d.1 d.2 = true

theorem headB_named {ds : List (Int × Ty)} {k n c : Int} {b : Bool} {es : List Ty} {params own : Int} (h : headB ds k n c b es params own = true) (hk : k = 1) : 0 ≤ n ∧ n < ds.length := by
  subst hk
  simp only [headB, Bool.and_eq_true, Bool.not_eq_true'] at h
  have h4 := h.2.1
  have hl : limitL ds.length 1 params own = ds.length := by simp [limitL]
  rw [hl] at h4
  simp [head4] at h4
  omega
theorem headB_own {ds : List (Int × Ty)} {k n c : Int} {b : Bool} {es : List Ty} {params own : Int} (h : headB ds k n c b es params own = true) (hk : k = 3) (h0 : 0 ≤ own) : 0 ≤ n := by
  subst hk
  simp only [headB, Bool.and_eq_true, Bool.not_eq_true'] at h
  have h4 := h.2.1
  have hl : limitL ds.length 3 params own = own := by simp [limitL]
  rw [hl] at h4
  simp [head4] at h4
  omega
theorem shaped_head {ds : List (Int × Ty)} {params own : Int} {t : Ty} (h : shapedB ds params own t = true) : headB ds t.k t.n t.c t.b t.es params own = true := by
  rw [shapedB_eq, Bool.and_eq_true] at h; exact h.1
theorem shaped_part {ds : List (Int × Ty)} {params own : Int} {t e : Ty} (h : shapedB ds params own t = true) (he : e ∈ t.es) : shapedB ds params own e = true := by
  rw [shapedB_eq, Bool.and_eq_true] at h
  obtain ⟨i, hi⟩ := List.mem_iff_getElem?.1 he
  have hlt := (List.getElem?_eq_some_iff.1 hi).1
  have := List.all_eq_true.1 h.2 i (List.mem_range.2 hlt)
  simp only [partB, shAt, hi, Bool.and_eq_true] at this
  exact this.1

theorem fuel_ok {F : Int} {x : Int} (h : F ≤ 100000) (h0 : -(100000 * 4398046511104) - 2199023255552 * 2 ≤ F) (hx : 0 ≤ x ∧ x ≤ 1000000) : Value.int .i64 (IntKind.i64.wrap (F - x)) = .int .i64 (F - x) := by rw [wrap_i64 (by omega) (by omega)]

def BuildOK (ds : List (Int × Ty)) (p : Option Addr) (dcap bB : Nat) (t : Ty) : Prop :=
  ∀ (cs : List Value) (H : Hp) (w : World) (F : Int) (vo : Value) (ks : List Int), Agree H w → DTy H t cs → DDl H ds p → H bB = none → w.heap[bB]? = some (Ob [.slice p ds.length dcap, .int .i64 F] 37) → OwnI w bB vo ks → F ≤ 100000 →
    -(100000 * 4398046511104) - 2199023255552 ≤ F →
    Calls Tryz.prog 10 #[ptr bB, .agg cs.toArray, vo] w (Ret (Built bB (.slice p ds.length dcap) F (Ty.size t) w))
end Go.Proofs.YtmmcjnfgcaefpaaGreatDoor

/-
  The verifier's counting 'build', walked.
-/
namespace Go.Proofs.YtmmcjnfgcaefpaaGreatDoor
set_option maxRecDepth 100000
set_option maxHeartbeats 4000000
attribute [local irreducible] Calls execOp

theorem build_any {ds : List (Int × Ty)} {p : Option Addr} {dcap bB : Nat} (hds : DeclsOK ds) (hdl : ds.length < 9223372036854775808) : ∀ (m : Nat), m ≤ ds.length → ∀ (t : Ty) (params own : Int), 0 ≤ own → shapedB (ds.take m) params own t = true → BuildOK ds p dcap bB t := by
  intro m
  induction m using Nat.strongRecOn with
  | ind m ihm =>
  intro hm
  refine Ty.ind fun k0 n0 c0 b0 nm0 es0 ih => ?_
  generalize hxx : Ty.mk k0 n0 c0 b0 nm0 es0 = x
  have hese : x.es = es0 := by rw [← hxx]; rfl
  rw [← hese] at ih
  clear hese hxx
  intro params own how hsh cs H w F vo ks hA hx hd hHB hB hvo hF hF0
  have hhead := shaped_head hsh
  obtain ⟨p', cap, rfl, -, -, -, hbd, hes⟩ := hx.cells
  have hw1 : Value.int .i64 (IntKind.i64.wrap (F - 1)) = .int .i64 (F - 1) := by rw [wrap_i64 (by omega) (by omega)]
  (refine calls_enter Tryz.func10 Tryz.ntmps10 rfl rfl ?_)
  (repeat (first | (refine cL ?_; first | (refine cL_guard ?_; refine L_unwanted rfl rfl rfl ?_) | (refine cL_move ?_; refine L_val R_move rfl rfl rfl ?_) | (refine cL_load ?_; first | refine L_val (R_loadB rfl (by assumption) (by rfl)) rfl rfl rfl ?_ | refine L_val (R_loadH (by assumption) rfl (by assumption) (by rfl)) rfl rfl rfl ?_) | (refine cL_fieldAddr ?_; refine L_val (R_fa rfl) rfl rfl rfl ?_) | (refine cL_nilCheck ?_; refine L_val (R_nil rfl) rfl rfl rfl ?_) | (refine cL_assign ?_; refine L_val R_assign rfl rfl rfl ?_) | (refine cL_call ?_; refine L_val (R_len rfl) rfl rfl rfl ?_) | (refine cL_pick ?_; first | refine L_val (R_pickT rfl) rfl rfl rfl ?_ | refine L_val (R_pickF rfl) rfl rfl rfl ?_) | (refine cL_eql ?_; first | refine L_val (R_eqPN rfl rfl) rfl rfl rfl ?_ | refine L_val (R_eqI rfl rfl) rfl rfl rfl ?_ | refine L_val (R_eqB rfl rfl) rfl rfl rfl ?_ | refine L_val (R_eqIfN rfl rfl) rfl rfl rfl ?_ | refine L_val (R_eqIfNN rfl) rfl rfl rfl ?_) | (refine cL_lss ?_; refine L_val (R_ltI rfl rfl) rfl rfl rfl ?_) | (refine cL_add ?_; refine L_val (R_addI rfl rfl) rfl rfl rfl ?_) | (refine cL_sub ?_; refine L_val (R_subI rfl rfl) rfl rfl rfl ?_) | (refine cL_leq ?_; refine L_val (R_leI rfl rfl) rfl rfl rfl ?_) | (refine cL_gtr ?_; refine L_val (R_gtI rfl rfl) rfl rfl rfl ?_) | refine L_nil ?_) | refine G_seq ?_ | refine G_region ?_ | refine G_skip ?_ | refine G_block ?_ | refine G_end ?_ | refine G_true rfl ?_ | refine G_false rfl ?_))
  refine L_box rfl rfl rfl fun b4 w1 hn1 => ?_
  obtain ⟨H1, g1, hb4⟩ := Grow.ofNew hA hn1
  have hlt := lt_of_heap hB
  have hHB1 : H1 bB = none := by
    cases hh : H1 bB with
    | none => rfl
    | some o =>
      rcases g1.new bB o hh with h | h
      · rw [hHB] at h; cases h
      · omega
  have hB1 := g1.ext.heap (fun h => h) hB
  have hes1 := hes.mono g1.le
  have hd1 := hd.mono g1.le
  (repeat (first | (refine cL ?_; first | (refine cL_guard ?_; refine L_unwanted rfl rfl rfl ?_) | (refine cL_move ?_; refine L_val R_move rfl rfl rfl ?_) | (refine cL_load ?_; first | refine L_val (R_loadB rfl (by assumption) (by rfl)) rfl rfl rfl ?_ | refine L_val (R_loadH (by assumption) rfl (by assumption) (by rfl)) rfl rfl rfl ?_) | (refine cL_fieldAddr ?_; refine L_val (R_fa rfl) rfl rfl rfl ?_) | (refine cL_nilCheck ?_; refine L_val (R_nil rfl) rfl rfl rfl ?_) | (refine cL_assign ?_; refine L_val R_assign rfl rfl rfl ?_) | (refine cL_call ?_; refine L_val (R_len rfl) rfl rfl rfl ?_) | (refine cL_pick ?_; first | refine L_val (R_pickT rfl) rfl rfl rfl ?_ | refine L_val (R_pickF rfl) rfl rfl rfl ?_) | (refine cL_eql ?_; first | refine L_val (R_eqPN rfl rfl) rfl rfl rfl ?_ | refine L_val (R_eqI rfl rfl) rfl rfl rfl ?_ | refine L_val (R_eqB rfl rfl) rfl rfl rfl ?_ | refine L_val (R_eqIfN rfl rfl) rfl rfl rfl ?_ | refine L_val (R_eqIfNN rfl) rfl rfl rfl ?_) | (refine cL_lss ?_; refine L_val (R_ltI rfl rfl) rfl rfl rfl ?_) | (refine cL_add ?_; refine L_val (R_addI rfl rfl) rfl rfl rfl ?_) | (refine cL_sub ?_; first | refine L_valE (R_subI rfl rfl) hw1 rfl rfl rfl ?_ | refine L_val (R_subI rfl rfl) rfl rfl rfl ?_) | (refine cL_leq ?_; refine L_val (R_leI rfl rfl) rfl rfl rfl ?_) | (refine cL_gtr ?_; refine L_val (R_gtI rfl rfl) rfl rfl rfl ?_) | refine L_nil ?_) | refine G_seq ?_ | refine G_region ?_ | refine G_skip ?_ | refine G_block ?_ | refine G_end ?_ | refine G_true rfl ?_ | refine G_false rfl ?_))
  refine L_store rfl hB1 rfl rfl rfl fun w2 hB2 hx2 hs2 => ?_
  have hB2 : w2.heap[bB]? = some (Ob [.slice p ds.length dcap, .int .i64 (F - 1)] 37) := hB2
  have hA2 : Agree H1 w2 := g1.ag.ext hx2 fun b o hb hbB => by rw [hbB, hHB1] at hb; cases hb
  have hex2 : Ext (fun b => b = bB) w w2 := g1.ext.of_no.trans hx2
  have hvo2 := hvo.ext hex2 fun g h => h
  cases c1 : decide (F - 1 ≤ 0) with
  | true =>
    have hle : F - 1 ≤ 0 := of_decide_eq_true c1
    (repeat (first | (refine cL ?_; first | (refine cL_guard ?_; refine L_unwanted rfl rfl rfl ?_) | (refine cL_move ?_; refine L_val R_move rfl rfl rfl ?_) | (refine cL_load ?_; first | refine L_val (R_loadB rfl (by assumption) (by rfl)) rfl rfl rfl ?_ | refine L_val (R_loadH (by assumption) rfl (by assumption) (by rfl)) rfl rfl rfl ?_) | (refine cL_fieldAddr ?_; refine L_val (R_fa rfl) rfl rfl rfl ?_) | (refine cL_nilCheck ?_; refine L_val (R_nil rfl) rfl rfl rfl ?_) | (refine cL_assign ?_; refine L_val R_assign rfl rfl rfl ?_) | (refine cL_call ?_; refine L_val (R_len rfl) rfl rfl rfl ?_) | (refine cL_pick ?_; first | refine L_val (R_pickT rfl) rfl rfl rfl ?_ | refine L_val (R_pickF rfl) rfl rfl rfl ?_) | (refine cL_eql ?_; first | refine L_val (R_eqPN rfl rfl) rfl rfl rfl ?_ | refine L_val (R_eqI rfl rfl) rfl rfl rfl ?_ | refine L_val (R_eqB rfl rfl) rfl rfl rfl ?_ | refine L_val (R_eqIfN rfl rfl) rfl rfl rfl ?_ | refine L_val (R_eqIfNN rfl) rfl rfl rfl ?_) | (refine cL_lss ?_; refine L_val (R_ltI rfl rfl) rfl rfl rfl ?_) | (refine cL_add ?_; refine L_val (R_addI rfl rfl) rfl rfl rfl ?_) | (refine cL_sub ?_; refine L_val (R_subI rfl rfl) rfl rfl rfl ?_) | (refine cL_leq ?_; first | refine L_valB (R_leI rfl rfl) c1 rfl rfl rfl ?_ | refine L_val (R_leI rfl rfl) rfl rfl rfl ?_) | (refine cL_gtr ?_; refine L_val (R_gtI rfl rfl) rfl rfl rfl ?_) | refine L_nil ?_) | refine G_seq ?_ | refine G_region ?_ | refine G_skip ?_ | refine G_block ?_ | refine G_end ?_ | refine G_true rfl ?_ | refine G_false rfl ?_))
    (refine G_retF rfl ?_)
    exact ⟨_, rfl, 0, F - 1, rfl, by omega, by omega, ⟨by omega, by omega, by omega, by omega⟩, hB2, hex2⟩
  | false =>
  have hpos : 0 < F - 1 := by have := of_decide_eq_false c1; omega
  cases c3 : (x.k == 3) with
  | true =>
    have hk3 : x.k = 3 := by simpa using c3
    have hn0 := headB_own hhead hk3 how
    have hes0 : x.es = [] := by
      simp only [headB, Bool.and_eq_true, Bool.not_eq_true'] at hhead
      have h2 := hhead.1
      rw [hk3] at h2
      simp [head2, elemsL] at h2
      exact h2
    have hsz : Ty.size x = 1 := by rw [Ty.size_eq, hes0]; rfl
    rw [hsz]
    obtain ⟨q, oc, rfl, hlook⟩ := hvo2.look
    cases c4 : decide (x.n < (ks.length : Int)) with
    | false =>
      (repeat (first | (refine cL ?_; first | (refine cL_guard ?_; refine L_unwanted rfl rfl rfl ?_) | (refine cL_move ?_; refine L_val R_move rfl rfl rfl ?_) | (refine cL_load ?_; first | refine L_val (R_loadB rfl (by assumption) (by rfl)) rfl rfl rfl ?_ | refine L_val (R_loadH (by assumption) rfl (by assumption) (by rfl)) rfl rfl rfl ?_) | (refine cL_fieldAddr ?_; refine L_val (R_fa rfl) rfl rfl rfl ?_) | (refine cL_nilCheck ?_; refine L_val (R_nil rfl) rfl rfl rfl ?_) | (refine cL_assign ?_; refine L_val R_assign rfl rfl rfl ?_) | (refine cL_call ?_; refine L_val (R_len rfl) rfl rfl rfl ?_) | (refine cL_pick ?_; first | refine L_val (R_pickT rfl) rfl rfl rfl ?_ | refine L_val (R_pickF rfl) rfl rfl rfl ?_) | (refine cL_eql ?_; first | refine L_valB (R_eqI rfl rfl) c3 rfl rfl rfl ?_ | refine L_val (R_eqPN rfl rfl) rfl rfl rfl ?_ | refine L_val (R_eqI rfl rfl) rfl rfl rfl ?_ | refine L_val (R_eqB rfl rfl) rfl rfl rfl ?_ | refine L_val (R_eqIfN rfl rfl) rfl rfl rfl ?_ | refine L_val (R_eqIfNN rfl) rfl rfl rfl ?_) | (refine cL_lss ?_; first | refine L_valB (R_ltI rfl rfl) c4 rfl rfl rfl ?_ | refine L_val (R_ltI rfl rfl) rfl rfl rfl ?_) | (refine cL_add ?_; refine L_val (R_addI rfl rfl) rfl rfl rfl ?_) | (refine cL_sub ?_; refine L_val (R_subI rfl rfl) rfl rfl rfl ?_) | (refine cL_leq ?_; first | refine L_valB (R_leI rfl rfl) c1 rfl rfl rfl ?_ | refine L_val (R_leI rfl rfl) rfl rfl rfl ?_) | (refine cL_gtr ?_; refine L_val (R_gtI rfl rfl) rfl rfl rfl ?_) | refine L_nil ?_) | refine G_seq ?_ | refine G_region ?_ | refine G_skip ?_ | refine G_block ?_ | refine G_end ?_ | refine G_true rfl ?_ | refine G_false rfl ?_))
      (refine G_retF rfl ?_)
      exact ⟨_, rfl, 1, F - 1, rfl, by omega, by omega, ⟨by omega, by omega, by omega, by omega⟩, hB2, hex2⟩
    | true =>
      have hlt4 := of_decide_eq_true c4
      obtain ⟨k, hk⟩ : ∃ k, ks[x.n.toNat]? = some k := ⟨_, List.getElem?_eq_getElem (by omega)⟩
      obtain ⟨g, gcs, rfl, hgb, hgh, hgv⟩ := hlook _ _ hk
      have hkb := hvo.bd k (List.mem_of_getElem? hk)
      have hgv' : lget gcs (0 + x.n.toNat * 1) = some (.int .i64 k) := by
        have : 0 + x.n.toNat * 1 = x.n.toNat := by omega
        rw [this]; exact hgv
      have hw3 : Value.int .i64 (IntKind.i64.wrap (F - 1 - k)) = .int .i64 (F - 1 - k) := by rw [wrap_i64 (by omega) (by omega)]
      have hAg : ∀ w', Ext No w2 w' → Agree H1 w' := fun _ he => hA2.ext0 he
      (repeat (first | (refine cL ?_; first | (refine cL_guard ?_; refine L_unwanted rfl rfl rfl ?_) | (refine cL_move ?_; refine L_val R_move rfl rfl rfl ?_) | (refine cL_load ?_; first | refine L_val (R_loadB rfl (by assumption) (by rfl)) rfl rfl rfl ?_ | refine L_val (R_loadH (by assumption) rfl (by assumption) (by rfl)) rfl rfl rfl ?_) | (refine cL_fieldAddr ?_; refine L_val (R_fa rfl) rfl rfl rfl ?_) | (refine cL_nilCheck ?_; refine L_val (R_nil rfl) rfl rfl rfl ?_) | (refine cL_assign ?_; refine L_val R_assign rfl rfl rfl ?_) | (refine cL_call ?_; refine L_val (R_len rfl) rfl rfl rfl ?_) | (refine cL_pick ?_; first | refine L_val (R_pickT rfl) rfl rfl rfl ?_ | refine L_val (R_pickF rfl) rfl rfl rfl ?_) | (refine cL_eql ?_; first | refine L_valB (R_eqI rfl rfl) c3 rfl rfl rfl ?_ | refine L_val (R_eqPN rfl rfl) rfl rfl rfl ?_ | refine L_val (R_eqI rfl rfl) rfl rfl rfl ?_ | refine L_val (R_eqB rfl rfl) rfl rfl rfl ?_ | refine L_val (R_eqIfN rfl rfl) rfl rfl rfl ?_ | refine L_val (R_eqIfNN rfl) rfl rfl rfl ?_) | (refine cL_lss ?_; first | refine L_valB (R_ltI rfl rfl) c4 rfl rfl rfl ?_ | refine L_val (R_ltI rfl rfl) rfl rfl rfl ?_) | (refine cL_add ?_; refine L_val (R_addI rfl rfl) rfl rfl rfl ?_) | (refine cL_sub ?_; refine L_val (R_subI rfl rfl) rfl rfl rfl ?_) | (refine cL_leq ?_; first | refine L_valB (R_leI rfl rfl) c1 rfl rfl rfl ?_ | refine L_val (R_leI rfl rfl) rfl rfl rfl ?_) | (refine cL_gtr ?_; refine L_val (R_gtI rfl rfl) rfl rfl rfl ?_) | refine L_nil ?_) | refine G_seq ?_ | refine G_region ?_ | refine G_skip ?_ | refine G_block ?_ | refine G_end ?_ | refine G_true rfl ?_ | refine G_false rfl ?_))
      (refine G_drawX No (.op 0 (.op 1 (.op 2 (.op 3 (.op 4 (.op 5 (.op 6 (.op 7 (.op 8 (.op 9 (.op 10 (.op 11 (.op 12 .nil))))))))))))) [(12, 2)] follows (by kernel_rfl) ?_)
      (repeat (first | (refine cX_guard ?_; refine X_unwanted rfl rfl ?_) | (refine cX_move ?_; first | refine X_val0 (fun _ _ => R_move) rfl rfl ?_ | refine X_pure (fun _ => R_move) rfl rfl ?_) | (refine cX_load ?_; first | refine X_val0 (fun w he => R_loadB rfl (he.heap (fun h => h) hB2) rfl) rfl rfl ?_ | refine X_val0 (fun w he => R_loadB rfl (he.heap (fun h => h) hgh) hgv') rfl rfl ?_ | refine X_val0 (fun w he => R_loadH (hAg w he) rfl (by assumption) (by rfl)) rfl rfl ?_) | (refine cX_fieldAddr ?_; first | refine X_val0 (fun _ _ => R_fa rfl) rfl rfl ?_ | refine X_pure (fun _ => R_fa rfl) rfl rfl ?_) | (refine cX_nilCheck ?_; first | refine X_val0 (fun _ _ => R_nil rfl) rfl rfl ?_ | refine X_pure (fun _ => R_nil rfl) rfl rfl ?_) | (refine cX_assign ?_; first | refine X_val0 (fun _ _ => R_assign) rfl rfl ?_ | refine X_pure (fun _ => R_assign) rfl rfl ?_) | (refine cX_call ?_; first | refine X_val0 (fun _ _ => R_len rfl) rfl rfl ?_ | refine X_pure (fun _ => R_len rfl) rfl rfl ?_) | (refine cX_pick ?_; first | refine X_val0 (fun _ _ => R_pickT rfl) rfl rfl ?_ | refine X_pure (fun _ => R_pickT rfl) rfl rfl ?_ | refine X_val0 (fun _ _ => R_pickF rfl) rfl rfl ?_ | refine X_pure (fun _ => R_pickF rfl) rfl rfl ?_) | (refine cX_eql ?_; first | refine X_val0 (fun _ _ => R_eqPN rfl rfl) rfl rfl ?_ | refine X_pure (fun _ => R_eqPN rfl rfl) rfl rfl ?_ | refine X_val0 (fun _ _ => R_eqI rfl rfl) rfl rfl ?_ | refine X_pure (fun _ => R_eqI rfl rfl) rfl rfl ?_ | refine X_val0 (fun _ _ => R_eqB rfl rfl) rfl rfl ?_ | refine X_pure (fun _ => R_eqB rfl rfl) rfl rfl ?_ | refine X_val0 (fun _ _ => R_eqIfN rfl rfl) rfl rfl ?_ | refine X_pure (fun _ => R_eqIfN rfl rfl) rfl rfl ?_ | refine X_val0 (fun _ _ => R_eqIfNN rfl) rfl rfl ?_ | refine X_pure (fun _ => R_eqIfNN rfl) rfl rfl ?_) | (refine cX_lss ?_; first | refine X_val0 (fun _ _ => R_ltI rfl rfl) rfl rfl ?_ | refine X_pure (fun _ => R_ltI rfl rfl) rfl rfl ?_) | (refine cX_indexAddr ?_; refine X_val0 (fun _ _ => R_ia rfl rfl hn0 hlt4) rfl rfl ?_) | (refine cX_add ?_; first | refine X_val0 (fun _ _ => R_addI rfl rfl) rfl rfl ?_ | refine X_pure (fun _ => R_addI rfl rfl) rfl rfl ?_) | (refine cX_sub ?_; first | refine X_valE (fun _ _ => R_subI rfl rfl) hw3 rfl rfl ?_ | refine X_val0 (fun _ _ => R_subI rfl rfl) rfl rfl ?_ | refine X_pure (fun _ => R_subI rfl rfl) rfl rfl ?_) | (refine cX_leq ?_; first | refine X_val0 (fun _ _ => R_leI rfl rfl) rfl rfl ?_ | refine X_pure (fun _ => R_leI rfl rfl) rfl rfl ?_) | (refine cX_gtr ?_; first | refine X_val0 (fun _ _ => R_gtI rfl rfl) rfl rfl ?_ | refine X_pure (fun _ => R_gtI rfl rfl) rfl rfl ?_)))
      refine X_store rfl (fun w he => he.heap (fun h => h) hB2) rfl rfl rfl fun w3 w4 he3 hB4 hx4 hs4 => ?_
      have hB4 : w4.heap[bB]? = some (Ob [.slice p ds.length dcap, .int .i64 (F - 1 - k)] 37) := hB4
      refine X_nil fun w5 he5 => ?_
      have hB5 := he5.heap (fun h => h) hB4
      have hg5 := he5.heap (fun h => h) (hx4.heap (fun h => hgb h) (he3.heap (fun h => h) hgh))
      have hA5 : Agree H1 w5 := ((hA2.ext0 he3).ext hx4 fun b o hb hbB => by rw [hbB, hHB1] at hb; cases hb).ext0 he5
      (repeat (first | (refine cL ?_; first | (refine cL_guard ?_; refine L_unwanted rfl rfl rfl ?_) | (refine cL_move ?_; refine L_val R_move rfl rfl rfl ?_) | (refine cL_load ?_; first | refine L_val (R_loadB rfl hg5 hgv') rfl rfl rfl ?_ | refine L_val (R_loadB rfl (by assumption) (by rfl)) rfl rfl rfl ?_ | refine L_val (R_loadH (by assumption) rfl (by assumption) (by rfl)) rfl rfl rfl ?_) | (refine cL_fieldAddr ?_; refine L_val (R_fa rfl) rfl rfl rfl ?_) | (refine cL_nilCheck ?_; refine L_val (R_nil rfl) rfl rfl rfl ?_) | (refine cL_assign ?_; refine L_val R_assign rfl rfl rfl ?_) | (refine cL_call ?_; refine L_val (R_len rfl) rfl rfl rfl ?_) | (refine cL_pick ?_; first | refine L_val (R_pickT rfl) rfl rfl rfl ?_ | refine L_val (R_pickF rfl) rfl rfl rfl ?_) | (refine cL_eql ?_; first | refine L_val (R_eqPN rfl rfl) rfl rfl rfl ?_ | refine L_val (R_eqI rfl rfl) rfl rfl rfl ?_ | refine L_val (R_eqB rfl rfl) rfl rfl rfl ?_ | refine L_val (R_eqIfN rfl rfl) rfl rfl rfl ?_ | refine L_val (R_eqIfNN rfl) rfl rfl rfl ?_) | (refine cL_lss ?_; refine L_val (R_ltI rfl rfl) rfl rfl rfl ?_) | (refine cL_indexAddr ?_; refine L_val (R_ia rfl rfl hn0 hlt4) rfl rfl rfl ?_) | (refine cL_add ?_; refine L_val (R_addI rfl rfl) rfl rfl rfl ?_) | (refine cL_sub ?_; refine L_val (R_subI rfl rfl) rfl rfl rfl ?_) | (refine cL_leq ?_; refine L_val (R_leI rfl rfl) rfl rfl rfl ?_) | (refine cL_gtr ?_; refine L_val (R_gtI rfl rfl) rfl rfl rfl ?_) | refine L_nil ?_) | refine G_seq ?_ | refine G_region ?_ | refine G_skip ?_ | refine G_block ?_ | refine G_end ?_ | refine G_true rfl ?_ | refine G_false rfl ?_))
      (refine G_retF rfl ?_)
      exact ⟨_, rfl, k, F - 1 - k, rfl, hkb.1, hkb.2, ⟨by omega, by omega, by omega, by omega⟩, hB5, hex2.trans (he3.of_no.trans (hx4.trans he5.of_no))⟩
  | false =>
  (repeat (first | (refine cL ?_; first | (refine cL_guard ?_; refine L_unwanted rfl rfl rfl ?_) | (refine cL_move ?_; refine L_val R_move rfl rfl rfl ?_) | (refine cL_load ?_; first | refine L_val (R_loadB rfl (by assumption) (by rfl)) rfl rfl rfl ?_ | refine L_val (R_loadH (by assumption) rfl (by assumption) (by rfl)) rfl rfl rfl ?_) | (refine cL_fieldAddr ?_; refine L_val (R_fa rfl) rfl rfl rfl ?_) | (refine cL_nilCheck ?_; refine L_val (R_nil rfl) rfl rfl rfl ?_) | (refine cL_assign ?_; refine L_val R_assign rfl rfl rfl ?_) | (refine cL_call ?_; refine L_val (R_len rfl) rfl rfl rfl ?_) | (refine cL_pick ?_; first | refine L_val (R_pickT rfl) rfl rfl rfl ?_ | refine L_val (R_pickF rfl) rfl rfl rfl ?_) | (refine cL_eql ?_; first | refine L_valB (R_eqI rfl rfl) c3 rfl rfl rfl ?_ | refine L_val (R_eqPN rfl rfl) rfl rfl rfl ?_ | refine L_val (R_eqI rfl rfl) rfl rfl rfl ?_ | refine L_val (R_eqB rfl rfl) rfl rfl rfl ?_ | refine L_val (R_eqIfN rfl rfl) rfl rfl rfl ?_ | refine L_val (R_eqIfNN rfl) rfl rfl rfl ?_) | (refine cL_lss ?_; refine L_val (R_ltI rfl rfl) rfl rfl rfl ?_) | (refine cL_add ?_; refine L_val (R_addI rfl rfl) rfl rfl rfl ?_) | (refine cL_sub ?_; refine L_val (R_subI rfl rfl) rfl rfl rfl ?_) | (refine cL_leq ?_; first | refine L_valB (R_leI rfl rfl) c1 rfl rfl rfl ?_ | refine L_val (R_leI rfl rfl) rfl rfl rfl ?_) | (refine cL_gtr ?_; refine L_val (R_gtI rfl rfl) rfl rfl rfl ?_) | refine L_nil ?_) | refine G_seq ?_ | refine G_region ?_ | refine G_skip ?_ | refine G_block ?_ | refine G_end ?_ | refine G_true rfl ?_ | refine G_false rfl ?_))
  refine G_loop (fun f ds0 w0 => ds0 = [] ∧ ∃ (f0 : Fm) (i : Nat) (n : Int) (va : Value) (aks : List Int) (Fi : Int), f = with_ [(52, .int .i64 (i : Int)), (51, .int .i64 (x.es.length : Int)), (50, .slice p' x.es.length cap), (0, ptr bB), (2, vo), (4, ptr b4), (7, .int .i64 n), (8, va)] f0 ∧ i ≤ x.es.length ∧
      Ext (fun b => b = bB) w2 w0 ∧ w0.heap[bB]? = some (Ob [.slice p ds.length dcap, .int .i64 Fi] 37) ∧ OwnI w0 bB va aks ∧ (∀ g, va.ownBlock = some g → w2.heap.size ≤ g) ∧ aks.length = i ∧ (1 ≤ n ∧ n ≤ 1 + (i : Int) * 1000000) ∧
      Fi ≤ F - 1 ∧ (0 < Fi → Fi ≤ F - 1 - (Ty.sizeL (x.es.take i) : Int)) ∧ -((F - 1) * 4398046511104) - (i : Int) ≤ Fi) (fun f _ _ => countM 52 51 f)
    ⟨rfl, _, 0, 1, .slice none 0 0, [], F - 1, with_self ⟨rfl, rfl, rfl, rfl, rfl, rfl, rfl, rfl, trivial⟩, Nat.zero_le _, Ext.refl _ _, hB2, OwnI.nil _ _, (fun g hg => by cases hg), rfl, by omega, by omega, (fun _ => by simp [Ty.sizeL]), by omega⟩ ?_
  rintro f ds0 wr ⟨rfl, f0, i, n, va, aks, Fi, rfl, hi, hext, hBr, hva, hvb, hal, hn, hF1, hF2, hF3⟩
  have hAr : Agree H1 wr := hA2.ext hext fun b o hb hbB => by rw [hbB, hHB1] at hb; cases hb
  have hbl : x.es.length ≤ 1954687338211 := by omega
  by_cases h : i < x.es.length
  · have hb : decide ((i : Int) < (x.es.length : Int)) = true := decide_eq_true (by omega)
    obtain ⟨e, he⟩ : ∃ v, x.es[i]? = some v := ⟨_, List.getElem?_eq_getElem h⟩
    obtain ⟨bk, off, ec, hp', hec, hed⟩ := hes1.get he
    obtain ⟨q, qcap, rfl, -, -, -, -, -⟩ := hed.cells
    subst hp'
    (repeat (first | (refine cL ?_; first | (refine cL_guard ?_; refine L_unwanted rfl rfl rfl ?_) | (refine cL_move ?_; refine L_val R_move rfl rfl rfl ?_) | (refine cL_load ?_; first | refine L_val (R_loadA rfl rfl fun j v hj => hAr.hcell (hec j v hj)) rfl rfl rfl ?_ | refine L_val (R_loadB rfl (by assumption) (by rfl)) rfl rfl rfl ?_ | refine L_val (R_loadH (by assumption) rfl (by assumption) (by rfl)) rfl rfl rfl ?_) | (refine cL_fieldAddr ?_; refine L_val (R_fa rfl) rfl rfl rfl ?_) | (refine cL_nilCheck ?_; refine L_val (R_nil rfl) rfl rfl rfl ?_) | (refine cL_assign ?_; refine L_val R_assign rfl rfl rfl ?_) | (refine cL_call ?_; refine L_val (R_len rfl) rfl rfl rfl ?_) | (refine cL_pick ?_; first | refine L_val (R_pickT rfl) rfl rfl rfl ?_ | refine L_val (R_pickF rfl) rfl rfl rfl ?_) | (refine cL_eql ?_; first | refine L_val (R_eqPN rfl rfl) rfl rfl rfl ?_ | refine L_val (R_eqI rfl rfl) rfl rfl rfl ?_ | refine L_val (R_eqB rfl rfl) rfl rfl rfl ?_ | refine L_val (R_eqIfN rfl rfl) rfl rfl rfl ?_ | refine L_val (R_eqIfNN rfl) rfl rfl rfl ?_) | (refine cL_lss ?_; first | refine L_valB (R_ltI rfl rfl) hb rfl rfl rfl ?_ | refine L_val (R_ltI rfl rfl) rfl rfl rfl ?_) | (refine cL_indexAddr ?_; refine L_valE (R_ia rfl rfl (by omega) (by omega)) (ia6 _ _ _) rfl rfl rfl ?_) | (refine cL_add ?_; refine L_val (R_addI rfl rfl) rfl rfl rfl ?_) | (refine cL_sub ?_; refine L_val (R_subI rfl rfl) rfl rfl rfl ?_) | (refine cL_leq ?_; refine L_val (R_leI rfl rfl) rfl rfl rfl ?_) | (refine cL_gtr ?_; refine L_val (R_gtI rfl rfl) rfl rfl rfl ?_) | refine L_nil ?_) | refine G_seq ?_ | refine G_region ?_ | refine G_skip ?_ | refine G_block ?_ | refine G_end ?_ | refine G_true rfl ?_ | refine G_false rfl ?_))
    refine L_allocS rfl rfl fun b10 w3 hn3 => ?_
    refine L_storeA rfl hn3.here rfl rfl rfl rfl rfl rfl fun w4 h4 e4 s4 => ?_
    have hn4 := hn3.store h4 e4 s4
    obtain ⟨H4, g4, hb10⟩ := Grow.ofNew hAr hn4
    have hB4 := hn4.ext.heap (fun h => h) hBr
    have hltr := lt_of_heap hBr
    have hHB4 : H4 bB = none := by
      cases hh : H4 bB with
      | none => rfl
      | some o =>
        rcases g4.new bB o hh with h | h
        · rw [hHB1] at h; cases h
        · omega
    have hvo4 : OwnI w4 bB vo ks := (hvo2.ext hext fun g h => h).ext hn4.ext fun g h => h.elim
    have hih := ih e (List.mem_of_getElem? he) params own how (shaped_part hsh (List.mem_of_getElem? he)) _ H4 w4 Fi vo ks g4.ag (DTy.mono g4.le _ _ hed) (hd1.mono g4.le) hHB4 hB4 hvo4 (by omega) (by omega)
    (repeat (first | (refine cL ?_; first | (refine cL_guard ?_; refine L_unwanted rfl rfl rfl ?_) | (refine cL_move ?_; refine L_val R_move rfl rfl rfl ?_) | (refine cL_load ?_; first | refine L_val (R_loadAB rfl rfl (g4.ag _ _ hb10)) rfl rfl rfl ?_ | refine L_val (R_loadB rfl (by assumption) (by rfl)) rfl rfl rfl ?_ | refine L_val (R_loadH (by assumption) rfl (by assumption) (by rfl)) rfl rfl rfl ?_) | (refine cL_fieldAddr ?_; refine L_val (R_fa rfl) rfl rfl rfl ?_) | (refine cL_nilCheck ?_; refine L_val (R_nil rfl) rfl rfl rfl ?_) | (refine cL_assign ?_; refine L_val R_assign rfl rfl rfl ?_) | (refine cL_call ?_; refine L_val (R_len rfl) rfl rfl rfl ?_) | (refine cL_pick ?_; first | refine L_val (R_pickT rfl) rfl rfl rfl ?_ | refine L_val (R_pickF rfl) rfl rfl rfl ?_) | (refine cL_eql ?_; first | refine L_val (R_eqPN rfl rfl) rfl rfl rfl ?_ | refine L_val (R_eqI rfl rfl) rfl rfl rfl ?_ | refine L_val (R_eqB rfl rfl) rfl rfl rfl ?_ | refine L_val (R_eqIfN rfl rfl) rfl rfl rfl ?_ | refine L_val (R_eqIfNN rfl) rfl rfl rfl ?_) | (refine cL_lss ?_; refine L_val (R_ltI rfl rfl) rfl rfl rfl ?_) | (refine cL_add ?_; refine L_val (R_addI rfl rfl) rfl rfl rfl ?_) | (refine cL_sub ?_; refine L_val (R_subI rfl rfl) rfl rfl rfl ?_) | (refine cL_leq ?_; refine L_val (R_leI rfl rfl) rfl rfl rfl ?_) | (refine cL_gtr ?_; refine L_val (R_gtI rfl rfl) rfl rfl rfl ?_) | refine L_nil ?_) | refine G_seq ?_ | refine G_region ?_ | refine G_skip ?_ | refine G_block ?_ | refine G_end ?_ | refine G_true rfl ?_ | refine G_false rfl ?_))
    refine L_callR hih rfl rfl fun v5 w5 ⟨k, F', hv5, hk0, hk1, hsp, hB5, hx5⟩ => ?_
    subst hv5
    have hsp1 := hsp.le
    have hsp2 := hsp.pos
    have hsp3 := hsp.dead
    have hsp4 := hsp.low
    (repeat (first | (refine cL ?_; first | (refine cL_guard ?_; refine L_unwanted rfl rfl rfl ?_) | (refine cL_move ?_; refine L_val R_move rfl rfl rfl ?_) | (refine cL_load ?_; first | refine L_val (R_loadB rfl (by assumption) (by rfl)) rfl rfl rfl ?_ | refine L_val (R_loadH (by assumption) rfl (by assumption) (by rfl)) rfl rfl rfl ?_) | (refine cL_fieldAddr ?_; refine L_val (R_fa rfl) rfl rfl rfl ?_) | (refine cL_nilCheck ?_; refine L_val (R_nil rfl) rfl rfl rfl ?_) | (refine cL_assign ?_; refine L_val R_assign rfl rfl rfl ?_) | (refine cL_call ?_; refine L_val (R_len rfl) rfl rfl rfl ?_) | (refine cL_pick ?_; first | refine L_val (R_pickT rfl) rfl rfl rfl ?_ | refine L_val (R_pickF rfl) rfl rfl rfl ?_) | (refine cL_eql ?_; first | refine L_val (R_eqPN rfl rfl) rfl rfl rfl ?_ | refine L_val (R_eqI rfl rfl) rfl rfl rfl ?_ | refine L_val (R_eqB rfl rfl) rfl rfl rfl ?_ | refine L_val (R_eqIfN rfl rfl) rfl rfl rfl ?_ | refine L_val (R_eqIfNN rfl) rfl rfl rfl ?_) | (refine cL_lss ?_; refine L_val (R_ltI rfl rfl) rfl rfl rfl ?_) | (refine cL_add ?_; refine L_val (R_addI rfl rfl) rfl rfl rfl ?_) | (refine cL_sub ?_; refine L_val (R_subI rfl rfl) rfl rfl rfl ?_) | (refine cL_leq ?_; refine L_val (R_leI rfl rfl) rfl rfl rfl ?_) | (refine cL_gtr ?_; refine L_val (R_gtI rfl rfl) rfl rfl rfl ?_) | refine L_nil ?_) | refine G_seq ?_ | refine G_region ?_ | refine G_skip ?_ | refine G_block ?_ | refine G_end ?_ | refine G_true rfl ?_ | refine G_false rfl ?_))
    refine L_buildSlice (vs := [.int .i64 k]) rfl rfl rfl rfl rfl rfl fun b6 w6 hn6 => ?_
    have hva6 : OwnI w6 bB va aks := ((hva.ext hn4.ext fun g h => h.elim).ext hx5 fun g h => h).ext hn6.ext fun g h => h.elim
    refine L_push (v := va) (u := .int .i64 k) rfl hva6.own rfl hn6.here rfl (by simp; omega) (by simp [maxLen]; omega) rfl rfl fun va' w7 hpu => ?_
    have hB6 := hn6.ext.heap (fun h => h) hB5
    have hB7 := hpu.ext.heap (fun h => hva6.ne h.symm) hB6
    have hx26 : Ext (fun b => b = bB) w2 w6 := hext.trans (hn4.ext.of_no.trans (hx5.trans hn6.ext.of_no))
    have hx27 : Ext (fun b => b = bB) w2 w7 := hx26.trans_new hpu.ext fun j hj hm => absurd (hvb j hm.symm) (by omega)
    have hva7 : OwnI w7 bB va' (aks ++ [k]) := ⟨by rw [List.map_append]; exact hpu.own, fun y hy => by
        rcases List.mem_append.1 hy with hy | hy
        · exact hva.bd y hy
        · rw [List.mem_singleton] at hy; subst hy; exact ⟨hk0, hk1⟩, by
        rcases hpu.blk with hbk | hbk
        · rw [hbk]; exact hva.ne
        · rw [hbk]
          have := lt_of_heap hB6
          intro hcon
          injection hcon with hcon
          omega⟩
    have hvb7 : ∀ g, va'.ownBlock = some g → w2.heap.size ≤ g := fun g hg => by
      rcases hpu.blk with hbk | hbk
      · exact hvb g (by rw [← hbk]; exact hg)
      · rw [hbk] at hg
        injection hg with hg
        have := hx26.size
        omega
    have hsum : Value.int .i64 (IntKind.i64.wrap (n + k)) = .int .i64 (n + k) := by rw [wrap_i64 (by omega) (by omega)]
    have hszs := Ty.sizeL_succ he
    (repeat (first | (refine cL ?_; first | (refine cL_guard ?_; refine L_unwanted rfl rfl rfl ?_) | (refine cL_move ?_; refine L_val R_move rfl rfl rfl ?_) | (refine cL_load ?_; first | refine L_val (R_loadB rfl (by assumption) (by rfl)) rfl rfl rfl ?_ | refine L_val (R_loadH (by assumption) rfl (by assumption) (by rfl)) rfl rfl rfl ?_) | (refine cL_fieldAddr ?_; refine L_val (R_fa rfl) rfl rfl rfl ?_) | (refine cL_nilCheck ?_; refine L_val (R_nil rfl) rfl rfl rfl ?_) | (refine cL_assign ?_; refine L_val R_assign rfl rfl rfl ?_) | (refine cL_call ?_; refine L_val (R_len rfl) rfl rfl rfl ?_) | (refine cL_pick ?_; first | refine L_val (R_pickT rfl) rfl rfl rfl ?_ | refine L_val (R_pickF rfl) rfl rfl rfl ?_) | (refine cL_eql ?_; first | refine L_val (R_eqPN rfl rfl) rfl rfl rfl ?_ | refine L_val (R_eqI rfl rfl) rfl rfl rfl ?_ | refine L_val (R_eqB rfl rfl) rfl rfl rfl ?_ | refine L_val (R_eqIfN rfl rfl) rfl rfl rfl ?_ | refine L_val (R_eqIfNN rfl) rfl rfl rfl ?_) | (refine cL_lss ?_; refine L_val (R_ltI rfl rfl) rfl rfl rfl ?_) | (refine cL_add ?_; first | refine L_valE (R_addI rfl rfl) hsum rfl rfl rfl ?_ | refine L_valE (R_addI rfl rfl) (succ_i64 h (by omega)) rfl rfl rfl ?_ | refine L_val (R_addI rfl rfl) rfl rfl rfl ?_) | (refine cL_sub ?_; refine L_val (R_subI rfl rfl) rfl rfl rfl ?_) | (refine cL_leq ?_; refine L_val (R_leI rfl rfl) rfl rfl rfl ?_) | (refine cL_gtr ?_; refine L_val (R_gtI rfl rfl) rfl rfl rfl ?_) | refine L_nil ?_) | refine G_seq ?_ | refine G_region ?_ | refine G_skip ?_ | refine G_block ?_ | refine G_end ?_ | refine G_true rfl ?_ | refine G_false rfl ?_))
    refine G_inv ⟨⟨rfl, _, i + 1, n + k, va', aks ++ [k], F', with_self ⟨rfl, rfl, rfl, rfl, rfl, rfl, rfl, rfl, trivial⟩, h, hx27, hB7, hva7, hvb7, by simp [hal], by omega, by omega, (fun hf => ?_), ?_⟩, ?_⟩
    · have := hsp2 hf
      have := hF2 (by omega)
      omega
    · by_cases hfi : 0 < Fi
      · have := hsp4 hfi
        omega
      · have := hsp3 (by omega)
        omega
    · show ((x.es.length : Int) - ((i + 1 : Nat) : Int)).toNat < ((x.es.length : Int) - (i : Int)).toNat
      omega
  · have hb : decide ((i : Int) < (x.es.length : Int)) = false := decide_eq_false (by omega)
    have hil : i = x.es.length := by omega
    have htk : x.es.take i = x.es := by rw [hil]; exact List.take_length
    rw [htk] at hF2
    have hszx := Ty.size_eq x
    have hexr : Ext (fun b => b = bB) w wr := hex2.trans hext
    have hspent : ∀ F', (F' = Fi ∨ (0 < Fi ∧ F' ≤ Fi - 1 ∧ -(Fi * 4398046511104) ≤ F')) → Spent F F' (Ty.size x) := fun F' hh => by
      rcases hh with rfl | ⟨h1, h2, h3⟩
      · exact ⟨by omega, fun hp => by have := hF2 hp; omega, by omega, by omega⟩
      · have := hF2 h1
        exact ⟨by omega, by omega, by omega, by omega⟩
    cases ck : (x.k == 1) with
    | false =>
      (repeat (first | (refine cL ?_; first | (refine cL_guard ?_; refine L_unwanted rfl rfl rfl ?_) | (refine cL_move ?_; refine L_val R_move rfl rfl rfl ?_) | (refine cL_load ?_; first | refine L_val (R_loadB rfl (by assumption) (by rfl)) rfl rfl rfl ?_ | refine L_val (R_loadH (by assumption) rfl (by assumption) (by rfl)) rfl rfl rfl ?_) | (refine cL_fieldAddr ?_; refine L_val (R_fa rfl) rfl rfl rfl ?_) | (refine cL_nilCheck ?_; refine L_val (R_nil rfl) rfl rfl rfl ?_) | (refine cL_assign ?_; refine L_val R_assign rfl rfl rfl ?_) | (refine cL_call ?_; first | refine L_val (R_minI rfl rfl) rfl rfl rfl ?_ | refine L_val (R_len rfl) rfl rfl rfl ?_) | (refine cL_pick ?_; first | refine L_val (R_pickT rfl) rfl rfl rfl ?_ | refine L_val (R_pickF rfl) rfl rfl rfl ?_) | (refine cL_eql ?_; first | refine L_valB (R_eqI rfl rfl) ck rfl rfl rfl ?_ | refine L_val (R_eqPN rfl rfl) rfl rfl rfl ?_ | refine L_val (R_eqI rfl rfl) rfl rfl rfl ?_ | refine L_val (R_eqB rfl rfl) rfl rfl rfl ?_ | refine L_val (R_eqIfN rfl rfl) rfl rfl rfl ?_ | refine L_val (R_eqIfNN rfl) rfl rfl rfl ?_) | (refine cL_lss ?_; first | refine L_valB (R_ltI rfl rfl) hb rfl rfl rfl ?_ | refine L_val (R_ltI rfl rfl) rfl rfl rfl ?_) | (refine cL_add ?_; refine L_val (R_addI rfl rfl) rfl rfl rfl ?_) | (refine cL_sub ?_; refine L_val (R_subI rfl rfl) rfl rfl rfl ?_) | (refine cL_leq ?_; refine L_val (R_leI rfl rfl) rfl rfl rfl ?_) | (refine cL_gtr ?_; refine L_val (R_gtI rfl rfl) rfl rfl rfl ?_) | refine L_nil ?_) | refine G_exit rfl ?_ | refine G_seq ?_ | refine G_region ?_ | refine G_skip ?_ | refine G_block ?_ | refine G_end ?_ | refine G_true rfl ?_ | refine G_false rfl ?_))
      (refine G_retF rfl ?_)
      refine ⟨_, rfl, _, Fi, rfl, ?_, ?_, hspent Fi (.inl rfl), hBr, hexr⟩
      · show 0 ≤ (if (1000000 : Int) < n then (1000000 : Int) else n)
        split <;> omega
      · show (if (1000000 : Int) < n then (1000000 : Int) else n) ≤ 1000000
        split <;> omega
    | true =>
      have hk1 : x.k = 1 := by simpa using ck
      cases cf : decide (Fi > 0) with
      | false =>
        (repeat (first | (refine cL ?_; first | (refine cL_guard ?_; refine L_unwanted rfl rfl rfl ?_) | (refine cL_move ?_; refine L_val R_move rfl rfl rfl ?_) | (refine cL_load ?_; first | refine L_val (R_loadB rfl (by assumption) (by rfl)) rfl rfl rfl ?_ | refine L_val (R_loadH (by assumption) rfl (by assumption) (by rfl)) rfl rfl rfl ?_) | (refine cL_fieldAddr ?_; refine L_val (R_fa rfl) rfl rfl rfl ?_) | (refine cL_nilCheck ?_; refine L_val (R_nil rfl) rfl rfl rfl ?_) | (refine cL_assign ?_; refine L_val R_assign rfl rfl rfl ?_) | (refine cL_call ?_; first | refine L_val (R_minI rfl rfl) rfl rfl rfl ?_ | refine L_val (R_len rfl) rfl rfl rfl ?_) | (refine cL_pick ?_; first | refine L_val (R_pickT rfl) rfl rfl rfl ?_ | refine L_val (R_pickF rfl) rfl rfl rfl ?_) | (refine cL_eql ?_; first | refine L_valB (R_eqI rfl rfl) ck rfl rfl rfl ?_ | refine L_val (R_eqPN rfl rfl) rfl rfl rfl ?_ | refine L_val (R_eqI rfl rfl) rfl rfl rfl ?_ | refine L_val (R_eqB rfl rfl) rfl rfl rfl ?_ | refine L_val (R_eqIfN rfl rfl) rfl rfl rfl ?_ | refine L_val (R_eqIfNN rfl) rfl rfl rfl ?_) | (refine cL_lss ?_; first | refine L_valB (R_ltI rfl rfl) hb rfl rfl rfl ?_ | refine L_val (R_ltI rfl rfl) rfl rfl rfl ?_) | (refine cL_add ?_; refine L_val (R_addI rfl rfl) rfl rfl rfl ?_) | (refine cL_sub ?_; refine L_val (R_subI rfl rfl) rfl rfl rfl ?_) | (refine cL_leq ?_; refine L_val (R_leI rfl rfl) rfl rfl rfl ?_) | (refine cL_gtr ?_; first | refine L_valB (R_gtI rfl rfl) cf rfl rfl rfl ?_ | refine L_val (R_gtI rfl rfl) rfl rfl rfl ?_) | refine L_nil ?_) | refine G_exit rfl ?_ | refine G_seq ?_ | refine G_region ?_ | refine G_skip ?_ | refine G_block ?_ | refine G_end ?_ | refine G_true rfl ?_ | refine G_false rfl ?_))
        (refine G_retF rfl ?_)
        refine ⟨_, rfl, _, Fi, rfl, ?_, ?_, hspent Fi (.inl rfl), hBr, hexr⟩
        · show 0 ≤ (if (1000000 : Int) < n then (1000000 : Int) else n)
          split <;> omega
        · show (if (1000000 : Int) < n then (1000000 : Int) else n) ≤ 1000000
          split <;> omega
      | true =>
        have hfi : 0 < Fi := of_decide_eq_true cf
        obtain ⟨hn0, hnm⟩ := headB_named hhead hk1
        have hnm' : x.n.toNat < m := by rw [List.length_take] at hnm; omega
        have hnd : x.n < (ds.length : Int) := by omega
        obtain ⟨dd, hdd⟩ : ∃ dd, ds[x.n.toNat]? = some dd := ⟨_, List.getElem?_eq_getElem (by omega)⟩
        obtain ⟨hdp, hdsh⟩ := hds _ _ hdd
        obtain ⟨bk, off, tcs, rfl, hdc, hdt, -⟩ := hd1 _ _ hdd
        obtain ⟨q, qcap, rfl, -, -, -, -, -⟩ := hdt.cells
        have hAg : ∀ w', Ext No wr w' → Agree H1 w' := fun _ he => hAr.ext0 he
        have hcl : ∀ w', Ext No wr w' → ∀ j v, lget (tyCells dd.2.k dd.2.n dd.2.c dd.2.b (.slice q dd.2.es.length qcap) dd.2.nm) j = some v → w'.cell? ⟨bk, off + x.n.toNat * 7 + 1 + j, none⟩ = some v := fun w' he j v hj => by
          have h1 := (hAg w' he).hcell (hdc (j + 1) v hj)
          have h2 : off + x.n.toNat * 7 + 1 + j = off + x.n.toNat * 7 + (j + 1) := by omega
          rw [h2]
          exact h1
        have hcall : ∀ w', Ext No wr w' → Calls Tryz.prog 10 #[ptr bB, .agg (tyCells dd.2.k dd.2.n dd.2.c dd.2.b (.slice q dd.2.es.length qcap) dd.2.nm).toArray, va] w' (Ret (Built bB (.slice (some ⟨bk, off, none⟩) ds.length dcap) Fi (Ty.size dd.2) w')) := fun w' he =>
          ihm x.n.toNat hnm' (by omega) dd.2 0 dd.1 hdp hdsh _ H1 w' Fi va aks (hAg w' he) hdt hd1 hHB1 (he.heap (fun h => h) hBr) (hva.ext he fun g h => h.elim) (by omega) (by omega)
        (repeat (first | (refine cL ?_; first | (refine cL_guard ?_; refine L_unwanted rfl rfl rfl ?_) | (refine cL_move ?_; refine L_val R_move rfl rfl rfl ?_) | (refine cL_load ?_; first | refine L_val (R_loadB rfl (by assumption) (by rfl)) rfl rfl rfl ?_ | refine L_val (R_loadH (by assumption) rfl (by assumption) (by rfl)) rfl rfl rfl ?_) | (refine cL_fieldAddr ?_; refine L_val (R_fa rfl) rfl rfl rfl ?_) | (refine cL_nilCheck ?_; refine L_val (R_nil rfl) rfl rfl rfl ?_) | (refine cL_assign ?_; refine L_val R_assign rfl rfl rfl ?_) | (refine cL_call ?_; refine L_val (R_len rfl) rfl rfl rfl ?_) | (refine cL_pick ?_; first | refine L_val (R_pickT rfl) rfl rfl rfl ?_ | refine L_val (R_pickF rfl) rfl rfl rfl ?_) | (refine cL_eql ?_; first | refine L_valB (R_eqI rfl rfl) ck rfl rfl rfl ?_ | refine L_val (R_eqPN rfl rfl) rfl rfl rfl ?_ | refine L_val (R_eqI rfl rfl) rfl rfl rfl ?_ | refine L_val (R_eqB rfl rfl) rfl rfl rfl ?_ | refine L_val (R_eqIfN rfl rfl) rfl rfl rfl ?_ | refine L_val (R_eqIfNN rfl) rfl rfl rfl ?_) | (refine cL_lss ?_; first | refine L_valB (R_ltI rfl rfl) hb rfl rfl rfl ?_ | refine L_val (R_ltI rfl rfl) rfl rfl rfl ?_) | (refine cL_add ?_; refine L_val (R_addI rfl rfl) rfl rfl rfl ?_) | (refine cL_sub ?_; refine L_val (R_subI rfl rfl) rfl rfl rfl ?_) | (refine cL_leq ?_; refine L_val (R_leI rfl rfl) rfl rfl rfl ?_) | (refine cL_gtr ?_; first | refine L_valB (R_gtI rfl rfl) cf rfl rfl rfl ?_ | refine L_val (R_gtI rfl rfl) rfl rfl rfl ?_) | refine L_nil ?_) | refine G_exit rfl ?_ | refine G_seq ?_ | refine G_region ?_ | refine G_skip ?_ | refine G_block ?_ | refine G_end ?_ | refine G_true rfl ?_ | refine G_false rfl ?_))
        (refine G_drawX No (.op 0 (.op 1 (.op 2 (.op 3 (.op 4 (.op 5 (.op 6 (.op 7 (.op 8 (.op 9 (.op 10 (.op 11 (.op 12 (.op 13 (.op 14 .nil))))))))))))))) [(0, 3), (12, 2)] follows (by kernel_rfl) ?_)
        (repeat (first | (refine cX_guard ?_; refine X_unwanted rfl rfl ?_) | (refine cX_move ?_; first | refine X_val0 (fun _ _ => R_move) rfl rfl ?_ | refine X_pure (fun _ => R_move) rfl rfl ?_) | (refine cX_load ?_; first | refine X_val0 (fun w he => R_loadB rfl (he.heap (fun h => h) hBr) rfl) rfl rfl ?_ | refine X_val0 (fun w he => R_loadA rfl rfl (hcl w he)) rfl rfl ?_ | refine X_val0 (fun w he => R_loadH (hAg w he) rfl (by assumption) (by rfl)) rfl rfl ?_) | (refine cX_fieldAddr ?_; first | refine X_val0 (fun _ _ => R_fa rfl) rfl rfl ?_ | refine X_pure (fun _ => R_fa rfl) rfl rfl ?_) | (refine cX_nilCheck ?_; first | refine X_val0 (fun _ _ => R_nil rfl) rfl rfl ?_ | refine X_pure (fun _ => R_nil rfl) rfl rfl ?_) | (refine cX_assign ?_; first | refine X_val0 (fun _ _ => R_assign) rfl rfl ?_ | refine X_pure (fun _ => R_assign) rfl rfl ?_) | (refine cX_call ?_; first | refine X_val0 (fun _ _ => R_len rfl) rfl rfl ?_ | refine X_pure (fun _ => R_len rfl) rfl rfl ?_) | (refine cX_pick ?_; first | refine X_val0 (fun _ _ => R_pickT rfl) rfl rfl ?_ | refine X_pure (fun _ => R_pickT rfl) rfl rfl ?_ | refine X_val0 (fun _ _ => R_pickF rfl) rfl rfl ?_ | refine X_pure (fun _ => R_pickF rfl) rfl rfl ?_) | (refine cX_eql ?_; first | refine X_val0 (fun _ _ => R_eqPN rfl rfl) rfl rfl ?_ | refine X_pure (fun _ => R_eqPN rfl rfl) rfl rfl ?_ | refine X_val0 (fun _ _ => R_eqI rfl rfl) rfl rfl ?_ | refine X_pure (fun _ => R_eqI rfl rfl) rfl rfl ?_ | refine X_val0 (fun _ _ => R_eqB rfl rfl) rfl rfl ?_ | refine X_pure (fun _ => R_eqB rfl rfl) rfl rfl ?_ | refine X_val0 (fun _ _ => R_eqIfN rfl rfl) rfl rfl ?_ | refine X_pure (fun _ => R_eqIfN rfl rfl) rfl rfl ?_ | refine X_val0 (fun _ _ => R_eqIfNN rfl) rfl rfl ?_ | refine X_pure (fun _ => R_eqIfNN rfl) rfl rfl ?_) | (refine cX_lss ?_; first | refine X_val0 (fun _ _ => R_ltI rfl rfl) rfl rfl ?_ | refine X_pure (fun _ => R_ltI rfl rfl) rfl rfl ?_) | (refine cX_indexAddr ?_; refine X_val0 (fun _ _ => R_ia rfl rfl hn0 hnd) rfl rfl ?_) | (refine cX_add ?_; first | refine X_val0 (fun _ _ => R_addI rfl rfl) rfl rfl ?_ | refine X_pure (fun _ => R_addI rfl rfl) rfl rfl ?_) | (refine cX_sub ?_; first | refine X_val0 (fun _ _ => R_subI rfl rfl) rfl rfl ?_ | refine X_pure (fun _ => R_subI rfl rfl) rfl rfl ?_) | (refine cX_leq ?_; first | refine X_val0 (fun _ _ => R_leI rfl rfl) rfl rfl ?_ | refine X_pure (fun _ => R_leI rfl rfl) rfl rfl ?_) | (refine cX_gtr ?_; first | refine X_val0 (fun _ _ => R_gtI rfl rfl) rfl rfl ?_ | refine X_pure (fun _ => R_gtI rfl rfl) rfl rfl ?_)))
        refine X_callW hcall rfl fun w5 v6 w6 he5 ⟨k, F', hv6, hk0, hk1', hsp, hB6, hx6⟩ => ?_
        subst hv6
        have hsum : Value.int .i64 (IntKind.i64.wrap (n + k)) = .int .i64 (n + k) := by rw [wrap_i64 (by omega) (by omega)]
        have hAg6 : ∀ w', Ext No w6 w' → Agree H1 w' := fun _ he => (((hAr.ext0 he5).ext hx6 fun b o hb hbB => by rw [hbB, hHB1] at hb; cases hb).ext0 he)
        (repeat (first | (refine cX_guard ?_; refine X_unwanted rfl rfl ?_) | (refine cX_move ?_; first | refine X_val0 (fun _ _ => R_move) rfl rfl ?_ | refine X_pure (fun _ => R_move) rfl rfl ?_) | (refine cX_load ?_; refine X_val0 (fun w he => R_loadH (hAg6 w he) rfl (by assumption) (by rfl)) rfl rfl ?_) | (refine cX_fieldAddr ?_; first | refine X_val0 (fun _ _ => R_fa rfl) rfl rfl ?_ | refine X_pure (fun _ => R_fa rfl) rfl rfl ?_) | (refine cX_nilCheck ?_; first | refine X_val0 (fun _ _ => R_nil rfl) rfl rfl ?_ | refine X_pure (fun _ => R_nil rfl) rfl rfl ?_) | (refine cX_assign ?_; first | refine X_val0 (fun _ _ => R_assign) rfl rfl ?_ | refine X_pure (fun _ => R_assign) rfl rfl ?_) | (refine cX_call ?_; first | refine X_val0 (fun _ _ => R_len rfl) rfl rfl ?_ | refine X_pure (fun _ => R_len rfl) rfl rfl ?_) | (refine cX_pick ?_; first | refine X_val0 (fun _ _ => R_pickT rfl) rfl rfl ?_ | refine X_pure (fun _ => R_pickT rfl) rfl rfl ?_ | refine X_val0 (fun _ _ => R_pickF rfl) rfl rfl ?_ | refine X_pure (fun _ => R_pickF rfl) rfl rfl ?_) | (refine cX_eql ?_; first | refine X_val0 (fun _ _ => R_eqPN rfl rfl) rfl rfl ?_ | refine X_pure (fun _ => R_eqPN rfl rfl) rfl rfl ?_ | refine X_val0 (fun _ _ => R_eqI rfl rfl) rfl rfl ?_ | refine X_pure (fun _ => R_eqI rfl rfl) rfl rfl ?_ | refine X_val0 (fun _ _ => R_eqB rfl rfl) rfl rfl ?_ | refine X_pure (fun _ => R_eqB rfl rfl) rfl rfl ?_ | refine X_val0 (fun _ _ => R_eqIfN rfl rfl) rfl rfl ?_ | refine X_pure (fun _ => R_eqIfN rfl rfl) rfl rfl ?_ | refine X_val0 (fun _ _ => R_eqIfNN rfl) rfl rfl ?_ | refine X_pure (fun _ => R_eqIfNN rfl) rfl rfl ?_) | (refine cX_lss ?_; first | refine X_val0 (fun _ _ => R_ltI rfl rfl) rfl rfl ?_ | refine X_pure (fun _ => R_ltI rfl rfl) rfl rfl ?_) | (refine cX_add ?_; first | refine X_valE (fun _ _ => R_addI rfl rfl) hsum rfl rfl ?_ | refine X_val0 (fun _ _ => R_addI rfl rfl) rfl rfl ?_ | refine X_pure (fun _ => R_addI rfl rfl) rfl rfl ?_) | (refine cX_sub ?_; first | refine X_val0 (fun _ _ => R_subI rfl rfl) rfl rfl ?_ | refine X_pure (fun _ => R_subI rfl rfl) rfl rfl ?_) | (refine cX_leq ?_; first | refine X_val0 (fun _ _ => R_leI rfl rfl) rfl rfl ?_ | refine X_pure (fun _ => R_leI rfl rfl) rfl rfl ?_) | (refine cX_gtr ?_; first | refine X_val0 (fun _ _ => R_gtI rfl rfl) rfl rfl ?_ | refine X_pure (fun _ => R_gtI rfl rfl) rfl rfl ?_)))
        refine X_nil fun w7 he7 => ?_
        (repeat (first | (refine cL ?_; first | (refine cL_guard ?_; refine L_unwanted rfl rfl rfl ?_) | (refine cL_move ?_; refine L_val R_move rfl rfl rfl ?_) | (refine cL_load ?_; first | refine L_val (R_loadB rfl (by assumption) (by rfl)) rfl rfl rfl ?_ | refine L_val (R_loadH (by assumption) rfl (by assumption) (by rfl)) rfl rfl rfl ?_) | (refine cL_fieldAddr ?_; refine L_val (R_fa rfl) rfl rfl rfl ?_) | (refine cL_nilCheck ?_; refine L_val (R_nil rfl) rfl rfl rfl ?_) | (refine cL_assign ?_; refine L_val R_assign rfl rfl rfl ?_) | (refine cL_call ?_; first | refine L_val (R_minI rfl rfl) rfl rfl rfl ?_ | refine L_val (R_len rfl) rfl rfl rfl ?_) | (refine cL_pick ?_; first | refine L_val (R_pickT rfl) rfl rfl rfl ?_ | refine L_val (R_pickF rfl) rfl rfl rfl ?_) | (refine cL_eql ?_; first | refine L_val (R_eqPN rfl rfl) rfl rfl rfl ?_ | refine L_val (R_eqI rfl rfl) rfl rfl rfl ?_ | refine L_val (R_eqB rfl rfl) rfl rfl rfl ?_ | refine L_val (R_eqIfN rfl rfl) rfl rfl rfl ?_ | refine L_val (R_eqIfNN rfl) rfl rfl rfl ?_) | (refine cL_lss ?_; refine L_val (R_ltI rfl rfl) rfl rfl rfl ?_) | (refine cL_add ?_; refine L_val (R_addI rfl rfl) rfl rfl rfl ?_) | (refine cL_sub ?_; refine L_val (R_subI rfl rfl) rfl rfl rfl ?_) | (refine cL_leq ?_; refine L_val (R_leI rfl rfl) rfl rfl rfl ?_) | (refine cL_gtr ?_; refine L_val (R_gtI rfl rfl) rfl rfl rfl ?_) | refine L_nil ?_) | refine G_seq ?_ | refine G_region ?_ | refine G_skip ?_ | refine G_block ?_ | refine G_end ?_ | refine G_true rfl ?_ | refine G_false rfl ?_))
        (refine G_retF rfl ?_)
        refine ⟨_, rfl, _, F', rfl, ?_, ?_, hspent F' (.inr ⟨hfi, hsp.le, hsp.low hfi⟩), he7.heap (fun h => h) hB6, hexr.trans (he5.of_no.trans (hx6.trans he7.of_no))⟩
        · show 0 ≤ (if (1000000 : Int) < n + k then (1000000 : Int) else n + k)
          split <;> omega
        · show (if (1000000 : Int) < n + k then (1000000 : Int) else n + k) ≤ 1000000
          split <;> omega
end Go.Proofs.YtmmcjnfgcaefpaaGreatDoor

/-
  The verifier's 'Valid': it says a bool; where it says true, what is built is in order.
-/
namespace Go.Proofs.YtmmcjnfgcaefpaaGreatDoor
set_option maxRecDepth 100000
set_option maxHeartbeats 8000000
attribute [local irreducible] Calls execOp

structure ValidD (ds : List (Int × Ty)) (params : Int) (ts : List Ty) : Prop where
  p0 : 0 ≤ params
  p8 : params ≤ 8
  d16 : ds.length ≤ 16
  dd : ∀ (i : Nat) (d : Int × Ty), ds[i]? = some d → 0 ≤ d.1 ∧ d.1 ≤ 8 ∧ d.2.k ≠ 1 ∧ d.2.k ≠ 3 ∧ shapedB (ds.take i) 0 d.1 d.2 = true
  tt : ∀ t ∈ ts, shapedB ds params 0 t = true ∧ Ty.size t ≤ 100000

theorem hcells_ob {H : Hp} {b : Nat} {cs : List Value} {T : Nat} (pre : List Value) (h : H b = some (Ob (pre ++ cs) T)) : HCells H b pre.length cs := by
  intro j v hj
  refine ⟨_, _, _, h, ?_⟩
  rw [lget_eq] at hj
  simp [List.getElem?_append_right, hj]

/-- one declaration is in order -/
def declB (ds : List (Int × Ty)) (i : Nat) (d : Int × Ty) : Bool :=
  !(decide (d.1 < 0)) && (!(decide (d.1 > 8)) && (!(d.2.k == 1) && (!(d.2.k == 3) && (shapedB (ds.take i) 0 d.1 d.2))))

def ValidPost (ds : List (Int × Ty)) (params : Int) (ts : List Ty) (w : World) (v : Value) (w' : World) : Prop :=
  ∃ b, v = .bool b ∧ Ext No w w' ∧ (b = true → ValidD ds params ts)

theorem ia7' (b off i : Nat) : (Value.pointer (some ⟨b, off + ((i : Nat) : Int).toNat * 7, none⟩)) = .pointer (some ⟨b, off + i * 7, none⟩) := by simp

theorem valid_any {ds : List (Int × Ty)} {p pl : Option Addr} {dcap lcap : Nat} {params : Int} {ts : List Ty} {H : Hp} (w : World) (hA : Agree H w) (hd : DDl H ds p) (ht : DSl H ts pl) (hdc : ds.length ≤ dcap) (hdl : ds.length < 9223372036854775808) (htl : ts.length ≤ 1000) :
    Calls Tryz.prog 5 #[.slice p ds.length dcap, .int .i64 params, .slice pl ts.length lcap] w (Ret (ValidPost ds params ts w)) := by
  cases c1 : decide (params < 0) with
  | true =>
    (refine calls_enter Tryz.func5 Tryz.ntmps5 rfl rfl ?_)
    (repeat (first | (refine cL ?_; first | (refine cL_guard ?_; refine L_unwanted rfl rfl rfl ?_) | (refine cL_move ?_; refine L_val R_move rfl rfl rfl ?_) | (refine cL_load ?_; first | refine L_val (R_loadB rfl (by assumption) (by rfl)) rfl rfl rfl ?_ | refine L_val (R_loadH (by assumption) rfl (by assumption) (by rfl)) rfl rfl rfl ?_) | (refine cL_fieldAddr ?_; refine L_val (R_fa rfl) rfl rfl rfl ?_) | (refine cL_nilCheck ?_; refine L_val (R_nil rfl) rfl rfl rfl ?_) | (refine cL_assign ?_; refine L_val R_assign rfl rfl rfl ?_) | (refine cL_call ?_; refine L_val (R_len rfl) rfl rfl rfl ?_) | (refine cL_pick ?_; first | refine L_val (R_pickT rfl) rfl rfl rfl ?_ | refine L_val (R_pickF rfl) rfl rfl rfl ?_) | (refine cL_eql ?_; first | refine L_val (R_eqPN rfl rfl) rfl rfl rfl ?_ | refine L_val (R_eqI rfl rfl) rfl rfl rfl ?_ | refine L_val (R_eqB rfl rfl) rfl rfl rfl ?_ | refine L_val (R_eqIfN rfl rfl) rfl rfl rfl ?_ | refine L_val (R_eqIfNN rfl) rfl rfl rfl ?_) | (refine cL_lss ?_; first | refine L_valB (R_ltI rfl rfl) c1 rfl rfl rfl ?_ | refine L_val (R_ltI rfl rfl) rfl rfl rfl ?_) | (refine cL_not ?_; refine L_val (R_not rfl) rfl rfl rfl ?_) | (refine cL_add ?_; refine L_val (R_addI rfl rfl) rfl rfl rfl ?_) | (refine cL_gtr ?_; refine L_val (R_gtI rfl rfl) rfl rfl rfl ?_) | refine L_nil ?_) | refine G_seq ?_ | refine G_region ?_ | refine G_skip ?_ | refine G_block ?_ | refine G_end ?_ | refine G_true rfl ?_ | refine G_false rfl ?_))
    (refine G_retF rfl ?_)
    exact ⟨_, rfl, false, rfl, Ext.refl _ _, fun h => by cases h⟩
  | false =>
  cases c2 : decide (params > 8) with
  | true =>
    (refine calls_enter Tryz.func5 Tryz.ntmps5 rfl rfl ?_)
    (repeat (first | (refine cL ?_; first | (refine cL_guard ?_; refine L_unwanted rfl rfl rfl ?_) | (refine cL_move ?_; refine L_val R_move rfl rfl rfl ?_) | (refine cL_load ?_; first | refine L_val (R_loadB rfl (by assumption) (by rfl)) rfl rfl rfl ?_ | refine L_val (R_loadH (by assumption) rfl (by assumption) (by rfl)) rfl rfl rfl ?_) | (refine cL_fieldAddr ?_; refine L_val (R_fa rfl) rfl rfl rfl ?_) | (refine cL_nilCheck ?_; refine L_val (R_nil rfl) rfl rfl rfl ?_) | (refine cL_assign ?_; refine L_val R_assign rfl rfl rfl ?_) | (refine cL_call ?_; refine L_val (R_len rfl) rfl rfl rfl ?_) | (refine cL_pick ?_; first | refine L_val (R_pickT rfl) rfl rfl rfl ?_ | refine L_val (R_pickF rfl) rfl rfl rfl ?_) | (refine cL_eql ?_; first | refine L_val (R_eqPN rfl rfl) rfl rfl rfl ?_ | refine L_val (R_eqI rfl rfl) rfl rfl rfl ?_ | refine L_val (R_eqB rfl rfl) rfl rfl rfl ?_ | refine L_val (R_eqIfN rfl rfl) rfl rfl rfl ?_ | refine L_val (R_eqIfNN rfl) rfl rfl rfl ?_) | (refine cL_lss ?_; first | refine L_valB (R_ltI rfl rfl) c1 rfl rfl rfl ?_ | refine L_val (R_ltI rfl rfl) rfl rfl rfl ?_) | (refine cL_not ?_; refine L_val (R_not rfl) rfl rfl rfl ?_) | (refine cL_add ?_; refine L_val (R_addI rfl rfl) rfl rfl rfl ?_) | (refine cL_gtr ?_; first | refine L_valB (R_gtI rfl rfl) c2 rfl rfl rfl ?_ | refine L_val (R_gtI rfl rfl) rfl rfl rfl ?_) | refine L_nil ?_) | refine G_seq ?_ | refine G_region ?_ | refine G_skip ?_ | refine G_block ?_ | refine G_end ?_ | refine G_true rfl ?_ | refine G_false rfl ?_))
    (refine G_retF rfl ?_)
    exact ⟨_, rfl, false, rfl, Ext.refl _ _, fun h => by cases h⟩
  | false =>
  cases c3 : decide ((ds.length : Int) > 16) with
  | true =>
    (refine calls_enter Tryz.func5 Tryz.ntmps5 rfl rfl ?_)
    (repeat (first | (refine cL ?_; first | (refine cL_guard ?_; refine L_unwanted rfl rfl rfl ?_) | (refine cL_move ?_; refine L_val R_move rfl rfl rfl ?_) | (refine cL_load ?_; first | refine L_val (R_loadB rfl (by assumption) (by rfl)) rfl rfl rfl ?_ | refine L_val (R_loadH (by assumption) rfl (by assumption) (by rfl)) rfl rfl rfl ?_) | (refine cL_fieldAddr ?_; refine L_val (R_fa rfl) rfl rfl rfl ?_) | (refine cL_nilCheck ?_; refine L_val (R_nil rfl) rfl rfl rfl ?_) | (refine cL_assign ?_; refine L_val R_assign rfl rfl rfl ?_) | (refine cL_call ?_; refine L_val (R_len rfl) rfl rfl rfl ?_) | (refine cL_pick ?_; first | refine L_val (R_pickT rfl) rfl rfl rfl ?_ | refine L_val (R_pickF rfl) rfl rfl rfl ?_) | (refine cL_eql ?_; first | refine L_val (R_eqPN rfl rfl) rfl rfl rfl ?_ | refine L_val (R_eqI rfl rfl) rfl rfl rfl ?_ | refine L_val (R_eqB rfl rfl) rfl rfl rfl ?_ | refine L_val (R_eqIfN rfl rfl) rfl rfl rfl ?_ | refine L_val (R_eqIfNN rfl) rfl rfl rfl ?_) | (refine cL_lss ?_; first | refine L_valB (R_ltI rfl rfl) c1 rfl rfl rfl ?_ | refine L_val (R_ltI rfl rfl) rfl rfl rfl ?_) | (refine cL_not ?_; refine L_val (R_not rfl) rfl rfl rfl ?_) | (refine cL_add ?_; refine L_val (R_addI rfl rfl) rfl rfl rfl ?_) | (refine cL_gtr ?_; first | refine L_valB (R_gtI rfl rfl) c2 rfl rfl rfl ?_ | refine L_valB (R_gtI rfl rfl) c3 rfl rfl rfl ?_ | refine L_val (R_gtI rfl rfl) rfl rfl rfl ?_) | refine L_nil ?_) | refine G_seq ?_ | refine G_region ?_ | refine G_skip ?_ | refine G_block ?_ | refine G_end ?_ | refine G_true rfl ?_ | refine G_false rfl ?_))
    (refine G_retF rfl ?_)
    exact ⟨_, rfl, false, rfl, Ext.refl _ _, fun h => by cases h⟩
  | false =>
  have hp0 : 0 ≤ params := by have := of_decide_eq_false c1; omega
  have hp8 : params ≤ 8 := by have := of_decide_eq_false c2; omega
  have hd16 : ds.length ≤ 16 := by have := of_decide_eq_false c3; omega
  (refine calls_enter Tryz.func5 Tryz.ntmps5 rfl rfl ?_)
  (repeat (first | (refine cL ?_; first | (refine cL_guard ?_; refine L_unwanted rfl rfl rfl ?_) | (refine cL_move ?_; refine L_val R_move rfl rfl rfl ?_) | (refine cL_load ?_; first | refine L_val (R_loadB rfl (by assumption) (by rfl)) rfl rfl rfl ?_ | refine L_val (R_loadH (by assumption) rfl (by assumption) (by rfl)) rfl rfl rfl ?_) | (refine cL_fieldAddr ?_; refine L_val (R_fa rfl) rfl rfl rfl ?_) | (refine cL_nilCheck ?_; refine L_val (R_nil rfl) rfl rfl rfl ?_) | (refine cL_assign ?_; refine L_val R_assign rfl rfl rfl ?_) | (refine cL_call ?_; refine L_val (R_len rfl) rfl rfl rfl ?_) | (refine cL_pick ?_; first | refine L_val (R_pickT rfl) rfl rfl rfl ?_ | refine L_val (R_pickF rfl) rfl rfl rfl ?_) | (refine cL_eql ?_; first | refine L_val (R_eqPN rfl rfl) rfl rfl rfl ?_ | refine L_val (R_eqI rfl rfl) rfl rfl rfl ?_ | refine L_val (R_eqB rfl rfl) rfl rfl rfl ?_ | refine L_val (R_eqIfN rfl rfl) rfl rfl rfl ?_ | refine L_val (R_eqIfNN rfl) rfl rfl rfl ?_) | (refine cL_lss ?_; first | refine L_valB (R_ltI rfl rfl) c1 rfl rfl rfl ?_ | refine L_val (R_ltI rfl rfl) rfl rfl rfl ?_) | (refine cL_not ?_; refine L_val (R_not rfl) rfl rfl rfl ?_) | (refine cL_add ?_; refine L_val (R_addI rfl rfl) rfl rfl rfl ?_) | (refine cL_gtr ?_; first | refine L_valB (R_gtI rfl rfl) c2 rfl rfl rfl ?_ | refine L_valB (R_gtI rfl rfl) c3 rfl rfl rfl ?_ | refine L_val (R_gtI rfl rfl) rfl rfl rfl ?_) | refine L_nil ?_) | refine G_seq ?_ | refine G_region ?_ | refine G_skip ?_ | refine G_block ?_ | refine G_end ?_ | refine G_true rfl ?_ | refine G_false rfl ?_))
  refine G_loop (CountI 29 28 ds.length [(0, .slice p ds.length dcap), (1, .int .i64 params), (2, .slice pl ts.length lcap), (27, .slice p ds.length dcap)] w fun i => ∀ j d, j < i → ds[j]? = some d → declB ds j d = true) (fun f _ _ => countM 29 28 f)
    ⟨rfl, Ext.refl _ _, _, 0, with_self ⟨rfl, rfl, rfl, rfl, rfl, rfl, trivial⟩, Nat.zero_le _, fun j d hj => absurd hj (Nat.not_lt_zero j)⟩ ?_
  rintro f ds0 wr ⟨rfl, hext, f0, i, rfl, hi, hJ⟩
  have hAr := hA.ext0 hext
  by_cases h : i < ds.length
  · have hb : decide ((i : Int) < (ds.length : Int)) = true := decide_eq_true (by omega)
    obtain ⟨d, hdi⟩ : ∃ v, ds[i]? = some v := ⟨_, List.getElem?_eq_getElem h⟩
    obtain ⟨bk, off, tcs, rfl, hec, hdt, hdk⟩ := hd _ _ hdi
    obtain ⟨q, qcap, rfl, -, -, -, hqb, -⟩ := hdt.cells
    (repeat (first | (refine cL ?_; first | (refine cL_guard ?_; refine L_unwanted rfl rfl rfl ?_) | (refine cL_move ?_; refine L_val R_move rfl rfl rfl ?_) | (refine cL_load ?_; first | refine L_val (R_loadA (vs := .int .i64 d.1 :: tyCells d.2.k d.2.n d.2.c d.2.b (.slice q d.2.es.length qcap) d.2.nm) rfl rfl fun j v hj => hAr.hcell (hec j v hj)) rfl rfl rfl ?_ | refine L_val (R_loadB rfl (by assumption) (by rfl)) rfl rfl rfl ?_ | refine L_val (R_loadH (by assumption) rfl (by assumption) (by rfl)) rfl rfl rfl ?_) | (refine cL_fieldAddr ?_; refine L_val (R_fa rfl) rfl rfl rfl ?_) | (refine cL_nilCheck ?_; refine L_val (R_nil rfl) rfl rfl rfl ?_) | (refine cL_assign ?_; refine L_val R_assign rfl rfl rfl ?_) | (refine cL_call ?_; refine L_val (R_len rfl) rfl rfl rfl ?_) | (refine cL_pick ?_; first | refine L_val (R_pickT rfl) rfl rfl rfl ?_ | refine L_val (R_pickF rfl) rfl rfl rfl ?_) | (refine cL_eql ?_; first | refine L_val (R_eqPN rfl rfl) rfl rfl rfl ?_ | refine L_val (R_eqI rfl rfl) rfl rfl rfl ?_ | refine L_val (R_eqB rfl rfl) rfl rfl rfl ?_ | refine L_val (R_eqIfN rfl rfl) rfl rfl rfl ?_ | refine L_val (R_eqIfNN rfl) rfl rfl rfl ?_) | (refine cL_lss ?_; first | refine L_valB (R_ltI rfl rfl) hb rfl rfl rfl ?_ | refine L_val (R_ltI rfl rfl) rfl rfl rfl ?_) | (refine cL_indexAddr ?_; refine L_valE (R_ia rfl rfl (by omega) (by omega)) (ia7' _ _ _) rfl rfl rfl ?_) | (refine cL_not ?_; refine L_val (R_not rfl) rfl rfl rfl ?_) | (refine cL_add ?_; refine L_val (R_addI rfl rfl) rfl rfl rfl ?_) | (refine cL_gtr ?_; refine L_val (R_gtI rfl rfl) rfl rfl rfl ?_) | refine L_nil ?_) | refine G_seq ?_ | refine G_region ?_ | refine G_skip ?_ | refine G_block ?_ | refine G_end ?_ | refine G_true rfl ?_ | refine G_false rfl ?_))
    refine L_allocS rfl rfl fun b8 w3 hn3 => ?_
    (repeat (first | (refine cL ?_; first | (refine cL_guard ?_; refine L_unwanted rfl rfl rfl ?_) | (refine cL_move ?_; refine L_val R_move rfl rfl rfl ?_) | (refine cL_load ?_; first | refine L_val (R_loadB rfl (by assumption) (by rfl)) rfl rfl rfl ?_ | refine L_val (R_loadH (by assumption) rfl (by assumption) (by rfl)) rfl rfl rfl ?_) | (refine cL_fieldAddr ?_; refine L_val (R_fa rfl) rfl rfl rfl ?_) | (refine cL_nilCheck ?_; refine L_val (R_nil rfl) rfl rfl rfl ?_) | (refine cL_assign ?_; refine L_val R_assign rfl rfl rfl ?_) | (refine cL_call ?_; refine L_val (R_len rfl) rfl rfl rfl ?_) | (refine cL_pick ?_; first | refine L_val (R_pickT rfl) rfl rfl rfl ?_ | refine L_val (R_pickF rfl) rfl rfl rfl ?_) | (refine cL_eql ?_; first | refine L_val (R_eqPN rfl rfl) rfl rfl rfl ?_ | refine L_val (R_eqI rfl rfl) rfl rfl rfl ?_ | refine L_val (R_eqB rfl rfl) rfl rfl rfl ?_ | refine L_val (R_eqIfN rfl rfl) rfl rfl rfl ?_ | refine L_val (R_eqIfNN rfl) rfl rfl rfl ?_) | (refine cL_lss ?_; refine L_val (R_ltI rfl rfl) rfl rfl rfl ?_) | (refine cL_not ?_; refine L_val (R_not rfl) rfl rfl rfl ?_) | (refine cL_add ?_; refine L_val (R_addI rfl rfl) rfl rfl rfl ?_) | (refine cL_gtr ?_; refine L_val (R_gtI rfl rfl) rfl rfl rfl ?_) | refine L_nil ?_) | refine G_seq ?_ | refine G_region ?_ | refine G_skip ?_ | refine G_block ?_ | refine G_end ?_ | refine G_true rfl ?_ | refine G_false rfl ?_))
    refine L_storeA (vs := .int .i64 d.1 :: tyCells d.2.k d.2.n d.2.c d.2.b (.slice q d.2.es.length qcap) d.2.nm) rfl hn3.here rfl rfl rfl rfl rfl rfl fun w4 h4 e4 s4 => ?_
    obtain ⟨H4, g4, hb8⟩ := Grow.ofNew hAr (hn3.store h4 e4 s4)
    have hAg : ∀ w', Ext No w4 w' → Agree H4 w' := fun _ he => g4.ag.ext0 he
    have hc8 := hcells_ob (cs := tyCells d.2.k d.2.n d.2.c d.2.b (.slice q d.2.es.length qcap) d.2.nm) [.int .i64 d.1] hb8
    have hsl : Value.slice (some ⟨bk, off, none⟩) ((i : Nat) : Int).toNat dcap = .slice (some ⟨bk, off, none⟩) (ds.take i).length dcap := by
      rw [List.length_take, Nat.min_eq_left (by omega)]; rfl
    have hsh := fun w' he => shaped_any d.2 _ (ds.take i) (some ⟨bk, off, none⟩) dcap 0 d.1 H4 w' (hAg w' he) (DTy.mono g4.le _ _ hdt) ((hd.mono g4.le).take i) (by rw [List.length_take]; omega)
    have hsz := fun w' he => size_any d.2 _ H4 w' (hAg w' he) (DTy.mono g4.le _ _ hdt)
    (repeat (first | (refine cL ?_; first | (refine cL_guard ?_; refine L_unwanted rfl rfl rfl ?_) | (refine cL_move ?_; refine L_val R_move rfl rfl rfl ?_) | (refine cL_load ?_; first | refine L_val (R_loadB rfl (by assumption) (by rfl)) rfl rfl rfl ?_ | refine L_val (R_loadH (by assumption) rfl (by assumption) (by rfl)) rfl rfl rfl ?_) | (refine cL_fieldAddr ?_; refine L_val (R_fa rfl) rfl rfl rfl ?_) | (refine cL_nilCheck ?_; refine L_val (R_nil rfl) rfl rfl rfl ?_) | (refine cL_assign ?_; refine L_val R_assign rfl rfl rfl ?_) | (refine cL_call ?_; refine L_val (R_len rfl) rfl rfl rfl ?_) | (refine cL_pick ?_; first | refine L_val (R_pickT rfl) rfl rfl rfl ?_ | refine L_val (R_pickF rfl) rfl rfl rfl ?_) | (refine cL_eql ?_; first | refine L_val (R_eqPN rfl rfl) rfl rfl rfl ?_ | refine L_val (R_eqI rfl rfl) rfl rfl rfl ?_ | refine L_val (R_eqB rfl rfl) rfl rfl rfl ?_ | refine L_val (R_eqIfN rfl rfl) rfl rfl rfl ?_ | refine L_val (R_eqIfNN rfl) rfl rfl rfl ?_) | (refine cL_lss ?_; refine L_val (R_ltI rfl rfl) rfl rfl rfl ?_) | (refine cL_not ?_; refine L_val (R_not rfl) rfl rfl rfl ?_) | (refine cL_add ?_; refine L_val (R_addI rfl rfl) rfl rfl rfl ?_) | (refine cL_gtr ?_; refine L_val (R_gtI rfl rfl) rfl rfl rfl ?_) | refine L_nil ?_) | refine G_seq ?_ | refine G_region ?_ | refine G_skip ?_ | refine G_block ?_ | refine G_end ?_ | refine G_true rfl ?_ | refine G_false rfl ?_))
    (refine G_draw No (0 :: 1 :: 2 :: 3 :: 4 :: 5 :: 6 :: 7 :: 8 :: 9 :: 10 :: 11 :: 12 :: 13 :: 14 :: 15 :: 16 :: 17 :: 18 :: 19 :: 20 :: 21 :: 22 :: 23 :: 24 :: 25 :: 26 :: 27 :: 28 :: 29 :: 30 :: 31 :: 32 :: 33 :: 34 :: 35 :: 36 :: []) [] follows (by kernel_rfl) rfl ?_)
    cases d1 : decide (d.1 < 0) with
    | true =>
      (repeat (first | (refine cD_guard ?_; refine D_unwanted rfl rfl ?_) | (refine cD_move ?_; refine D_val0 (fun _ _ => R_move) rfl rfl ?_) | (refine cD_load ?_; refine D_val0 (fun w he => R_loadH (hAg w he) rfl (by assumption) (by rfl)) rfl rfl ?_) | (refine cD_fieldAddr ?_; refine D_val0 (fun _ _ => R_fa rfl) rfl rfl ?_) | (refine cD_nilCheck ?_; refine D_val0 (fun _ _ => R_nil rfl) rfl rfl ?_) | (refine cD_assign ?_; refine D_val0 (fun _ _ => R_assign) rfl rfl ?_) | (refine cD_call ?_; refine D_val0 (fun _ _ => R_len rfl) rfl rfl ?_) | (refine cD_pick ?_; first | refine D_val0 (fun _ _ => R_pickT rfl) rfl rfl ?_ | refine D_val0 (fun _ _ => R_pickF rfl) rfl rfl ?_) | (refine cD_eql ?_; first | refine D_val0 (fun _ _ => R_eqPN rfl rfl) rfl rfl ?_ | refine D_val0 (fun _ _ => R_eqI rfl rfl) rfl rfl ?_ | refine D_val0 (fun _ _ => R_eqB rfl rfl) rfl rfl ?_ | refine D_val0 (fun _ _ => R_eqIfN rfl rfl) rfl rfl ?_ | refine D_val0 (fun _ _ => R_eqIfNN rfl) rfl rfl ?_) | (refine cD_lss ?_; first | refine D_valB (fun _ _ => R_ltI rfl rfl) d1 rfl rfl ?_ | refine D_val0 (fun _ _ => R_ltI rfl rfl) rfl rfl ?_) | (refine cD_not ?_; refine D_val0 (fun _ _ => R_not rfl) rfl rfl ?_) | (refine cD_add ?_; refine D_val0 (fun _ _ => R_addI rfl rfl) rfl rfl ?_) | (refine cD_gtr ?_; refine D_val0 (fun _ _ => R_gtI rfl rfl) rfl rfl ?_)))
      refine D_nil fun w5 hw5 => ?_
      (repeat (first | (refine cL ?_; first | (refine cL_guard ?_; refine L_unwanted rfl rfl rfl ?_) | (refine cL_move ?_; refine L_val R_move rfl rfl rfl ?_) | (refine cL_load ?_; first | refine L_val (R_loadB rfl (by assumption) (by rfl)) rfl rfl rfl ?_ | refine L_val (R_loadH (by assumption) rfl (by assumption) (by rfl)) rfl rfl rfl ?_) | (refine cL_fieldAddr ?_; refine L_val (R_fa rfl) rfl rfl rfl ?_) | (refine cL_nilCheck ?_; refine L_val (R_nil rfl) rfl rfl rfl ?_) | (refine cL_assign ?_; refine L_val R_assign rfl rfl rfl ?_) | (refine cL_call ?_; refine L_val (R_len rfl) rfl rfl rfl ?_) | (refine cL_pick ?_; first | refine L_val (R_pickT rfl) rfl rfl rfl ?_ | refine L_val (R_pickF rfl) rfl rfl rfl ?_) | (refine cL_eql ?_; first | refine L_val (R_eqPN rfl rfl) rfl rfl rfl ?_ | refine L_val (R_eqI rfl rfl) rfl rfl rfl ?_ | refine L_val (R_eqB rfl rfl) rfl rfl rfl ?_ | refine L_val (R_eqIfN rfl rfl) rfl rfl rfl ?_ | refine L_val (R_eqIfNN rfl) rfl rfl rfl ?_) | (refine cL_lss ?_; refine L_val (R_ltI rfl rfl) rfl rfl rfl ?_) | (refine cL_not ?_; refine L_val (R_not rfl) rfl rfl rfl ?_) | (refine cL_add ?_; refine L_val (R_addI rfl rfl) rfl rfl rfl ?_) | (refine cL_gtr ?_; refine L_val (R_gtI rfl rfl) rfl rfl rfl ?_) | refine L_nil ?_) | refine G_seq ?_ | refine G_region ?_ | refine G_skip ?_ | refine G_block ?_ | refine G_end ?_ | refine G_true rfl ?_ | refine G_false rfl ?_))
      (refine G_retF rfl ?_)
      exact ⟨_, rfl, false, rfl, hext.trans (g4.ext.trans hw5), fun h => by cases h⟩
    | false =>
    cases d2 : decide (d.1 > 8) with
    | true =>
      (repeat (first | (refine cD_guard ?_; refine D_unwanted rfl rfl ?_) | (refine cD_move ?_; refine D_val0 (fun _ _ => R_move) rfl rfl ?_) | (refine cD_load ?_; refine D_val0 (fun w he => R_loadH (hAg w he) rfl (by assumption) (by rfl)) rfl rfl ?_) | (refine cD_fieldAddr ?_; refine D_val0 (fun _ _ => R_fa rfl) rfl rfl ?_) | (refine cD_nilCheck ?_; refine D_val0 (fun _ _ => R_nil rfl) rfl rfl ?_) | (refine cD_assign ?_; refine D_val0 (fun _ _ => R_assign) rfl rfl ?_) | (refine cD_call ?_; refine D_val0 (fun _ _ => R_len rfl) rfl rfl ?_) | (refine cD_pick ?_; first | refine D_val0 (fun _ _ => R_pickT rfl) rfl rfl ?_ | refine D_val0 (fun _ _ => R_pickF rfl) rfl rfl ?_) | (refine cD_eql ?_; first | refine D_val0 (fun _ _ => R_eqPN rfl rfl) rfl rfl ?_ | refine D_val0 (fun _ _ => R_eqI rfl rfl) rfl rfl ?_ | refine D_val0 (fun _ _ => R_eqB rfl rfl) rfl rfl ?_ | refine D_val0 (fun _ _ => R_eqIfN rfl rfl) rfl rfl ?_ | refine D_val0 (fun _ _ => R_eqIfNN rfl) rfl rfl ?_) | (refine cD_lss ?_; first | refine D_valB (fun _ _ => R_ltI rfl rfl) d1 rfl rfl ?_ | refine D_val0 (fun _ _ => R_ltI rfl rfl) rfl rfl ?_) | (refine cD_not ?_; refine D_val0 (fun _ _ => R_not rfl) rfl rfl ?_) | (refine cD_add ?_; refine D_val0 (fun _ _ => R_addI rfl rfl) rfl rfl ?_) | (refine cD_gtr ?_; first | refine D_valB (fun _ _ => R_gtI rfl rfl) d2 rfl rfl ?_ | refine D_val0 (fun _ _ => R_gtI rfl rfl) rfl rfl ?_)))
      refine D_nil fun w5 hw5 => ?_
      (repeat (first | (refine cL ?_; first | (refine cL_guard ?_; refine L_unwanted rfl rfl rfl ?_) | (refine cL_move ?_; refine L_val R_move rfl rfl rfl ?_) | (refine cL_load ?_; first | refine L_val (R_loadB rfl (by assumption) (by rfl)) rfl rfl rfl ?_ | refine L_val (R_loadH (by assumption) rfl (by assumption) (by rfl)) rfl rfl rfl ?_) | (refine cL_fieldAddr ?_; refine L_val (R_fa rfl) rfl rfl rfl ?_) | (refine cL_nilCheck ?_; refine L_val (R_nil rfl) rfl rfl rfl ?_) | (refine cL_assign ?_; refine L_val R_assign rfl rfl rfl ?_) | (refine cL_call ?_; refine L_val (R_len rfl) rfl rfl rfl ?_) | (refine cL_pick ?_; first | refine L_val (R_pickT rfl) rfl rfl rfl ?_ | refine L_val (R_pickF rfl) rfl rfl rfl ?_) | (refine cL_eql ?_; first | refine L_val (R_eqPN rfl rfl) rfl rfl rfl ?_ | refine L_val (R_eqI rfl rfl) rfl rfl rfl ?_ | refine L_val (R_eqB rfl rfl) rfl rfl rfl ?_ | refine L_val (R_eqIfN rfl rfl) rfl rfl rfl ?_ | refine L_val (R_eqIfNN rfl) rfl rfl rfl ?_) | (refine cL_lss ?_; refine L_val (R_ltI rfl rfl) rfl rfl rfl ?_) | (refine cL_not ?_; refine L_val (R_not rfl) rfl rfl rfl ?_) | (refine cL_add ?_; refine L_val (R_addI rfl rfl) rfl rfl rfl ?_) | (refine cL_gtr ?_; refine L_val (R_gtI rfl rfl) rfl rfl rfl ?_) | refine L_nil ?_) | refine G_seq ?_ | refine G_region ?_ | refine G_skip ?_ | refine G_block ?_ | refine G_end ?_ | refine G_true rfl ?_ | refine G_false rfl ?_))
      (refine G_retF rfl ?_)
      exact ⟨_, rfl, false, rfl, hext.trans (g4.ext.trans hw5), fun h => by cases h⟩
    | false =>
    cases d3 : (d.2.k == 1) with
    | true =>
      (repeat (first | (refine cD_guard ?_; refine D_unwanted rfl rfl ?_) | (refine cD_move ?_; refine D_val0 (fun _ _ => R_move) rfl rfl ?_) | (refine cD_load ?_; refine D_val0 (fun w he => R_loadH (hAg w he) rfl (by assumption) (by rfl)) rfl rfl ?_) | (refine cD_fieldAddr ?_; refine D_val0 (fun _ _ => R_fa rfl) rfl rfl ?_) | (refine cD_nilCheck ?_; refine D_val0 (fun _ _ => R_nil rfl) rfl rfl ?_) | (refine cD_assign ?_; refine D_val0 (fun _ _ => R_assign) rfl rfl ?_) | (refine cD_call ?_; refine D_val0 (fun _ _ => R_len rfl) rfl rfl ?_) | (refine cD_pick ?_; first | refine D_val0 (fun _ _ => R_pickT rfl) rfl rfl ?_ | refine D_val0 (fun _ _ => R_pickF rfl) rfl rfl ?_) | (refine cD_eql ?_; first | refine D_valB (fun _ _ => R_eqI rfl rfl) d3 rfl rfl ?_ | refine D_val0 (fun _ _ => R_eqPN rfl rfl) rfl rfl ?_ | refine D_val0 (fun _ _ => R_eqI rfl rfl) rfl rfl ?_ | refine D_val0 (fun _ _ => R_eqB rfl rfl) rfl rfl ?_ | refine D_val0 (fun _ _ => R_eqIfN rfl rfl) rfl rfl ?_ | refine D_val0 (fun _ _ => R_eqIfNN rfl) rfl rfl ?_) | (refine cD_lss ?_; first | refine D_valB (fun _ _ => R_ltI rfl rfl) d1 rfl rfl ?_ | refine D_val0 (fun _ _ => R_ltI rfl rfl) rfl rfl ?_) | (refine cD_not ?_; refine D_val0 (fun _ _ => R_not rfl) rfl rfl ?_) | (refine cD_add ?_; refine D_val0 (fun _ _ => R_addI rfl rfl) rfl rfl ?_) | (refine cD_gtr ?_; first | refine D_valB (fun _ _ => R_gtI rfl rfl) d2 rfl rfl ?_ | refine D_val0 (fun _ _ => R_gtI rfl rfl) rfl rfl ?_)))
      refine D_nil fun w5 hw5 => ?_
      (repeat (first | (refine cL ?_; first | (refine cL_guard ?_; refine L_unwanted rfl rfl rfl ?_) | (refine cL_move ?_; refine L_val R_move rfl rfl rfl ?_) | (refine cL_load ?_; first | refine L_val (R_loadB rfl (by assumption) (by rfl)) rfl rfl rfl ?_ | refine L_val (R_loadH (by assumption) rfl (by assumption) (by rfl)) rfl rfl rfl ?_) | (refine cL_fieldAddr ?_; refine L_val (R_fa rfl) rfl rfl rfl ?_) | (refine cL_nilCheck ?_; refine L_val (R_nil rfl) rfl rfl rfl ?_) | (refine cL_assign ?_; refine L_val R_assign rfl rfl rfl ?_) | (refine cL_call ?_; refine L_val (R_len rfl) rfl rfl rfl ?_) | (refine cL_pick ?_; first | refine L_val (R_pickT rfl) rfl rfl rfl ?_ | refine L_val (R_pickF rfl) rfl rfl rfl ?_) | (refine cL_eql ?_; first | refine L_val (R_eqPN rfl rfl) rfl rfl rfl ?_ | refine L_val (R_eqI rfl rfl) rfl rfl rfl ?_ | refine L_val (R_eqB rfl rfl) rfl rfl rfl ?_ | refine L_val (R_eqIfN rfl rfl) rfl rfl rfl ?_ | refine L_val (R_eqIfNN rfl) rfl rfl rfl ?_) | (refine cL_lss ?_; refine L_val (R_ltI rfl rfl) rfl rfl rfl ?_) | (refine cL_not ?_; refine L_val (R_not rfl) rfl rfl rfl ?_) | (refine cL_add ?_; refine L_val (R_addI rfl rfl) rfl rfl rfl ?_) | (refine cL_gtr ?_; refine L_val (R_gtI rfl rfl) rfl rfl rfl ?_) | refine L_nil ?_) | refine G_seq ?_ | refine G_region ?_ | refine G_skip ?_ | refine G_block ?_ | refine G_end ?_ | refine G_true rfl ?_ | refine G_false rfl ?_))
      (refine G_retF rfl ?_)
      exact ⟨_, rfl, false, rfl, hext.trans (g4.ext.trans hw5), fun h => by cases h⟩
    | false =>
    cases d4 : (d.2.k == 3) with
    | true =>
      (repeat (first | (refine cD_guard ?_; refine D_unwanted rfl rfl ?_) | (refine cD_move ?_; refine D_val0 (fun _ _ => R_move) rfl rfl ?_) | (refine cD_load ?_; refine D_val0 (fun w he => R_loadH (hAg w he) rfl (by assumption) (by rfl)) rfl rfl ?_) | (refine cD_fieldAddr ?_; refine D_val0 (fun _ _ => R_fa rfl) rfl rfl ?_) | (refine cD_nilCheck ?_; refine D_val0 (fun _ _ => R_nil rfl) rfl rfl ?_) | (refine cD_assign ?_; refine D_val0 (fun _ _ => R_assign) rfl rfl ?_) | (refine cD_call ?_; refine D_val0 (fun _ _ => R_len rfl) rfl rfl ?_) | (refine cD_pick ?_; first | refine D_val0 (fun _ _ => R_pickT rfl) rfl rfl ?_ | refine D_val0 (fun _ _ => R_pickF rfl) rfl rfl ?_) | (refine cD_eql ?_; first | refine D_valB (fun _ _ => R_eqI rfl rfl) d3 rfl rfl ?_ | refine D_valB (fun _ _ => R_eqI rfl rfl) d4 rfl rfl ?_ | refine D_val0 (fun _ _ => R_eqPN rfl rfl) rfl rfl ?_ | refine D_val0 (fun _ _ => R_eqI rfl rfl) rfl rfl ?_ | refine D_val0 (fun _ _ => R_eqB rfl rfl) rfl rfl ?_ | refine D_val0 (fun _ _ => R_eqIfN rfl rfl) rfl rfl ?_ | refine D_val0 (fun _ _ => R_eqIfNN rfl) rfl rfl ?_) | (refine cD_lss ?_; first | refine D_valB (fun _ _ => R_ltI rfl rfl) d1 rfl rfl ?_ | refine D_val0 (fun _ _ => R_ltI rfl rfl) rfl rfl ?_) | (refine cD_not ?_; refine D_val0 (fun _ _ => R_not rfl) rfl rfl ?_) | (refine cD_add ?_; refine D_val0 (fun _ _ => R_addI rfl rfl) rfl rfl ?_) | (refine cD_gtr ?_; first | refine D_valB (fun _ _ => R_gtI rfl rfl) d2 rfl rfl ?_ | refine D_val0 (fun _ _ => R_gtI rfl rfl) rfl rfl ?_)))
      refine D_nil fun w5 hw5 => ?_
      (repeat (first | (refine cL ?_; first | (refine cL_guard ?_; refine L_unwanted rfl rfl rfl ?_) | (refine cL_move ?_; refine L_val R_move rfl rfl rfl ?_) | (refine cL_load ?_; first | refine L_val (R_loadB rfl (by assumption) (by rfl)) rfl rfl rfl ?_ | refine L_val (R_loadH (by assumption) rfl (by assumption) (by rfl)) rfl rfl rfl ?_) | (refine cL_fieldAddr ?_; refine L_val (R_fa rfl) rfl rfl rfl ?_) | (refine cL_nilCheck ?_; refine L_val (R_nil rfl) rfl rfl rfl ?_) | (refine cL_assign ?_; refine L_val R_assign rfl rfl rfl ?_) | (refine cL_call ?_; refine L_val (R_len rfl) rfl rfl rfl ?_) | (refine cL_pick ?_; first | refine L_val (R_pickT rfl) rfl rfl rfl ?_ | refine L_val (R_pickF rfl) rfl rfl rfl ?_) | (refine cL_eql ?_; first | refine L_val (R_eqPN rfl rfl) rfl rfl rfl ?_ | refine L_val (R_eqI rfl rfl) rfl rfl rfl ?_ | refine L_val (R_eqB rfl rfl) rfl rfl rfl ?_ | refine L_val (R_eqIfN rfl rfl) rfl rfl rfl ?_ | refine L_val (R_eqIfNN rfl) rfl rfl rfl ?_) | (refine cL_lss ?_; refine L_val (R_ltI rfl rfl) rfl rfl rfl ?_) | (refine cL_not ?_; refine L_val (R_not rfl) rfl rfl rfl ?_) | (refine cL_add ?_; refine L_val (R_addI rfl rfl) rfl rfl rfl ?_) | (refine cL_gtr ?_; refine L_val (R_gtI rfl rfl) rfl rfl rfl ?_) | refine L_nil ?_) | refine G_seq ?_ | refine G_region ?_ | refine G_skip ?_ | refine G_block ?_ | refine G_end ?_ | refine G_true rfl ?_ | refine G_false rfl ?_))
      (refine G_retF rfl ?_)
      exact ⟨_, rfl, false, rfl, hext.trans (g4.ext.trans hw5), fun h => by cases h⟩
    | false =>
    cases d5 : shapedB (ds.take i) 0 d.1 d.2 with
    | false =>
      rw [d5] at hsh
      (repeat (first | (refine cD_guard ?_; refine D_unwanted rfl rfl ?_) | (refine cD_move ?_; refine D_val0 (fun _ _ => R_move) rfl rfl ?_) | (refine cD_load ?_; first | refine D_val0 (fun w he => R_loadA (vs := tyCells d.2.k d.2.n d.2.c d.2.b (.slice q d.2.es.length qcap) d.2.nm) rfl rfl fun j v hj => (hAg w he).hcell (hc8 j v hj)) rfl rfl ?_ | refine D_val0 (fun w he => R_loadH (hAg w he) rfl (by assumption) (by rfl)) rfl rfl ?_) | (refine cD_fieldAddr ?_; refine D_val0 (fun _ _ => R_fa rfl) rfl rfl ?_) | (refine cD_nilCheck ?_; refine D_val0 (fun _ _ => R_nil rfl) rfl rfl ?_) | (refine cD_assign ?_; refine D_val0 (fun _ _ => R_assign) rfl rfl ?_) | (refine cD_call ?_; first | refine D_callQ (fun w he => hsh w he) rfl ?_ | refine D_val0 (fun _ _ => R_len rfl) rfl rfl ?_) | (refine cD_pick ?_; first | refine D_val0 (fun _ _ => R_pickT rfl) rfl rfl ?_ | refine D_val0 (fun _ _ => R_pickF rfl) rfl rfl ?_) | (refine cD_eql ?_; first | refine D_valB (fun _ _ => R_eqI rfl rfl) d3 rfl rfl ?_ | refine D_valB (fun _ _ => R_eqI rfl rfl) d4 rfl rfl ?_ | refine D_val0 (fun _ _ => R_eqPN rfl rfl) rfl rfl ?_ | refine D_val0 (fun _ _ => R_eqI rfl rfl) rfl rfl ?_ | refine D_val0 (fun _ _ => R_eqB rfl rfl) rfl rfl ?_ | refine D_val0 (fun _ _ => R_eqIfN rfl rfl) rfl rfl ?_ | refine D_val0 (fun _ _ => R_eqIfNN rfl) rfl rfl ?_) | (refine cD_lss ?_; first | refine D_valB (fun _ _ => R_ltI rfl rfl) d1 rfl rfl ?_ | refine D_val0 (fun _ _ => R_ltI rfl rfl) rfl rfl ?_) | (refine cD_not ?_; refine D_val0 (fun _ _ => R_not rfl) rfl rfl ?_) | (refine cD_add ?_; refine D_val0 (fun _ _ => R_addI rfl rfl) rfl rfl ?_) | (refine cD_gtr ?_; first | refine D_valB (fun _ _ => R_gtI rfl rfl) d2 rfl rfl ?_ | refine D_val0 (fun _ _ => R_gtI rfl rfl) rfl rfl ?_) | (refine cD_slice ?_; refine D_valE (fun _ _ => R_sliceH rfl rfl (by omega) (by omega)) hsl rfl rfl ?_)))
      refine D_nil fun w5 hw5 => ?_
      (repeat (first | (refine cL ?_; first | (refine cL_guard ?_; refine L_unwanted rfl rfl rfl ?_) | (refine cL_move ?_; refine L_val R_move rfl rfl rfl ?_) | (refine cL_load ?_; first | refine L_val (R_loadB rfl (by assumption) (by rfl)) rfl rfl rfl ?_ | refine L_val (R_loadH (by assumption) rfl (by assumption) (by rfl)) rfl rfl rfl ?_) | (refine cL_fieldAddr ?_; refine L_val (R_fa rfl) rfl rfl rfl ?_) | (refine cL_nilCheck ?_; refine L_val (R_nil rfl) rfl rfl rfl ?_) | (refine cL_assign ?_; refine L_val R_assign rfl rfl rfl ?_) | (refine cL_call ?_; refine L_val (R_len rfl) rfl rfl rfl ?_) | (refine cL_pick ?_; first | refine L_val (R_pickT rfl) rfl rfl rfl ?_ | refine L_val (R_pickF rfl) rfl rfl rfl ?_) | (refine cL_eql ?_; first | refine L_val (R_eqPN rfl rfl) rfl rfl rfl ?_ | refine L_val (R_eqI rfl rfl) rfl rfl rfl ?_ | refine L_val (R_eqB rfl rfl) rfl rfl rfl ?_ | refine L_val (R_eqIfN rfl rfl) rfl rfl rfl ?_ | refine L_val (R_eqIfNN rfl) rfl rfl rfl ?_) | (refine cL_lss ?_; refine L_val (R_ltI rfl rfl) rfl rfl rfl ?_) | (refine cL_not ?_; refine L_val (R_not rfl) rfl rfl rfl ?_) | (refine cL_add ?_; refine L_val (R_addI rfl rfl) rfl rfl rfl ?_) | (refine cL_gtr ?_; refine L_val (R_gtI rfl rfl) rfl rfl rfl ?_) | refine L_nil ?_) | refine G_seq ?_ | refine G_region ?_ | refine G_skip ?_ | refine G_block ?_ | refine G_end ?_ | refine G_true rfl ?_ | refine G_false rfl ?_))
      (refine G_retF rfl ?_)
      exact ⟨_, rfl, false, rfl, hext.trans (g4.ext.trans hw5), fun h => by cases h⟩
    | true =>
    have hdecl : declB ds i d = true := by simp only [declB, d1, d2, d3, d4, d5]; rfl
    rw [d5] at hsh
    cases d6 : decide (sizeW d.2 > 8) with
    | true =>
      (repeat (first | (refine cD_guard ?_; refine D_unwanted rfl rfl ?_) | (refine cD_move ?_; refine D_val0 (fun _ _ => R_move) rfl rfl ?_) | (refine cD_load ?_; first | refine D_val0 (fun w he => R_loadA (vs := tyCells d.2.k d.2.n d.2.c d.2.b (.slice q d.2.es.length qcap) d.2.nm) rfl rfl fun j v hj => (hAg w he).hcell (hc8 j v hj)) rfl rfl ?_ | refine D_val0 (fun w he => R_loadH (hAg w he) rfl (by assumption) (by rfl)) rfl rfl ?_) | (refine cD_fieldAddr ?_; refine D_val0 (fun _ _ => R_fa rfl) rfl rfl ?_) | (refine cD_nilCheck ?_; refine D_val0 (fun _ _ => R_nil rfl) rfl rfl ?_) | (refine cD_assign ?_; refine D_val0 (fun _ _ => R_assign) rfl rfl ?_) | (refine cD_call ?_; first | refine D_callQ (fun w he => hsh w he) rfl ?_ | refine D_callQ (fun w he => hsz w he) rfl ?_ | refine D_val0 (fun _ _ => R_len rfl) rfl rfl ?_) | (refine cD_pick ?_; first | refine D_val0 (fun _ _ => R_pickT rfl) rfl rfl ?_ | refine D_val0 (fun _ _ => R_pickF rfl) rfl rfl ?_) | (refine cD_eql ?_; first | refine D_valB (fun _ _ => R_eqI rfl rfl) d3 rfl rfl ?_ | refine D_valB (fun _ _ => R_eqI rfl rfl) d4 rfl rfl ?_ | refine D_val0 (fun _ _ => R_eqPN rfl rfl) rfl rfl ?_ | refine D_val0 (fun _ _ => R_eqI rfl rfl) rfl rfl ?_ | refine D_val0 (fun _ _ => R_eqB rfl rfl) rfl rfl ?_ | refine D_val0 (fun _ _ => R_eqIfN rfl rfl) rfl rfl ?_ | refine D_val0 (fun _ _ => R_eqIfNN rfl) rfl rfl ?_) | (refine cD_lss ?_; first | refine D_valB (fun _ _ => R_ltI rfl rfl) d1 rfl rfl ?_ | refine D_val0 (fun _ _ => R_ltI rfl rfl) rfl rfl ?_) | (refine cD_not ?_; refine D_val0 (fun _ _ => R_not rfl) rfl rfl ?_) | (refine cD_add ?_; refine D_val0 (fun _ _ => R_addI rfl rfl) rfl rfl ?_) | (refine cD_gtr ?_; first | refine D_valB (fun _ _ => R_gtI rfl rfl) d2 rfl rfl ?_ | refine D_valB (fun _ _ => R_gtI rfl rfl) d6 rfl rfl ?_ | refine D_val0 (fun _ _ => R_gtI rfl rfl) rfl rfl ?_) | (refine cD_slice ?_; refine D_valE (fun _ _ => R_sliceH rfl rfl (by omega) (by omega)) hsl rfl rfl ?_)))
      refine D_nil fun w5 hw5 => ?_
      (repeat (first | (refine cL ?_; first | (refine cL_guard ?_; refine L_unwanted rfl rfl rfl ?_) | (refine cL_move ?_; refine L_val R_move rfl rfl rfl ?_) | (refine cL_load ?_; first | refine L_val (R_loadB rfl (by assumption) (by rfl)) rfl rfl rfl ?_ | refine L_val (R_loadH (by assumption) rfl (by assumption) (by rfl)) rfl rfl rfl ?_) | (refine cL_fieldAddr ?_; refine L_val (R_fa rfl) rfl rfl rfl ?_) | (refine cL_nilCheck ?_; refine L_val (R_nil rfl) rfl rfl rfl ?_) | (refine cL_assign ?_; refine L_val R_assign rfl rfl rfl ?_) | (refine cL_call ?_; refine L_val (R_len rfl) rfl rfl rfl ?_) | (refine cL_pick ?_; first | refine L_val (R_pickT rfl) rfl rfl rfl ?_ | refine L_val (R_pickF rfl) rfl rfl rfl ?_) | (refine cL_eql ?_; first | refine L_val (R_eqPN rfl rfl) rfl rfl rfl ?_ | refine L_val (R_eqI rfl rfl) rfl rfl rfl ?_ | refine L_val (R_eqB rfl rfl) rfl rfl rfl ?_ | refine L_val (R_eqIfN rfl rfl) rfl rfl rfl ?_ | refine L_val (R_eqIfNN rfl) rfl rfl rfl ?_) | (refine cL_lss ?_; refine L_val (R_ltI rfl rfl) rfl rfl rfl ?_) | (refine cL_not ?_; refine L_val (R_not rfl) rfl rfl rfl ?_) | (refine cL_add ?_; refine L_val (R_addI rfl rfl) rfl rfl rfl ?_) | (refine cL_gtr ?_; refine L_val (R_gtI rfl rfl) rfl rfl rfl ?_) | refine L_nil ?_) | refine G_seq ?_ | refine G_region ?_ | refine G_skip ?_ | refine G_block ?_ | refine G_end ?_ | refine G_true rfl ?_ | refine G_false rfl ?_))
      (refine G_retF rfl ?_)
      exact ⟨_, rfl, false, rfl, hext.trans (g4.ext.trans hw5), fun h => by cases h⟩
    | false =>
      (repeat (first | (refine cD_guard ?_; refine D_unwanted rfl rfl ?_) | (refine cD_move ?_; refine D_val0 (fun _ _ => R_move) rfl rfl ?_) | (refine cD_load ?_; first | refine D_val0 (fun w he => R_loadA (vs := tyCells d.2.k d.2.n d.2.c d.2.b (.slice q d.2.es.length qcap) d.2.nm) rfl rfl fun j v hj => (hAg w he).hcell (hc8 j v hj)) rfl rfl ?_ | refine D_val0 (fun w he => R_loadH (hAg w he) rfl (by assumption) (by rfl)) rfl rfl ?_) | (refine cD_fieldAddr ?_; refine D_val0 (fun _ _ => R_fa rfl) rfl rfl ?_) | (refine cD_nilCheck ?_; refine D_val0 (fun _ _ => R_nil rfl) rfl rfl ?_) | (refine cD_assign ?_; refine D_val0 (fun _ _ => R_assign) rfl rfl ?_) | (refine cD_call ?_; first | refine D_callQ (fun w he => hsh w he) rfl ?_ | refine D_callQ (fun w he => hsz w he) rfl ?_ | refine D_val0 (fun _ _ => R_len rfl) rfl rfl ?_) | (refine cD_pick ?_; first | refine D_val0 (fun _ _ => R_pickT rfl) rfl rfl ?_ | refine D_val0 (fun _ _ => R_pickF rfl) rfl rfl ?_) | (refine cD_eql ?_; first | refine D_valB (fun _ _ => R_eqI rfl rfl) d3 rfl rfl ?_ | refine D_valB (fun _ _ => R_eqI rfl rfl) d4 rfl rfl ?_ | refine D_val0 (fun _ _ => R_eqPN rfl rfl) rfl rfl ?_ | refine D_val0 (fun _ _ => R_eqI rfl rfl) rfl rfl ?_ | refine D_val0 (fun _ _ => R_eqB rfl rfl) rfl rfl ?_ | refine D_val0 (fun _ _ => R_eqIfN rfl rfl) rfl rfl ?_ | refine D_val0 (fun _ _ => R_eqIfNN rfl) rfl rfl ?_) | (refine cD_lss ?_; first | refine D_valB (fun _ _ => R_ltI rfl rfl) d1 rfl rfl ?_ | refine D_val0 (fun _ _ => R_ltI rfl rfl) rfl rfl ?_) | (refine cD_not ?_; refine D_val0 (fun _ _ => R_not rfl) rfl rfl ?_) | (refine cD_add ?_; refine D_val0 (fun _ _ => R_addI rfl rfl) rfl rfl ?_) | (refine cD_gtr ?_; first | refine D_valB (fun _ _ => R_gtI rfl rfl) d2 rfl rfl ?_ | refine D_valB (fun _ _ => R_gtI rfl rfl) d6 rfl rfl ?_ | refine D_val0 (fun _ _ => R_gtI rfl rfl) rfl rfl ?_) | (refine cD_slice ?_; refine D_valE (fun _ _ => R_sliceH rfl rfl (by omega) (by omega)) hsl rfl rfl ?_)))
      refine D_nil fun w5 hw5 => ?_
      (repeat (first | (refine cL ?_; first | (refine cL_guard ?_; refine L_unwanted rfl rfl rfl ?_) | (refine cL_move ?_; refine L_val R_move rfl rfl rfl ?_) | (refine cL_load ?_; first | refine L_val (R_loadB rfl (by assumption) (by rfl)) rfl rfl rfl ?_ | refine L_val (R_loadH (by assumption) rfl (by assumption) (by rfl)) rfl rfl rfl ?_) | (refine cL_fieldAddr ?_; refine L_val (R_fa rfl) rfl rfl rfl ?_) | (refine cL_nilCheck ?_; refine L_val (R_nil rfl) rfl rfl rfl ?_) | (refine cL_assign ?_; refine L_val R_assign rfl rfl rfl ?_) | (refine cL_call ?_; refine L_val (R_len rfl) rfl rfl rfl ?_) | (refine cL_pick ?_; first | refine L_val (R_pickT rfl) rfl rfl rfl ?_ | refine L_val (R_pickF rfl) rfl rfl rfl ?_) | (refine cL_eql ?_; first | refine L_val (R_eqPN rfl rfl) rfl rfl rfl ?_ | refine L_val (R_eqI rfl rfl) rfl rfl rfl ?_ | refine L_val (R_eqB rfl rfl) rfl rfl rfl ?_ | refine L_val (R_eqIfN rfl rfl) rfl rfl rfl ?_ | refine L_val (R_eqIfNN rfl) rfl rfl rfl ?_) | (refine cL_lss ?_; refine L_val (R_ltI rfl rfl) rfl rfl rfl ?_) | (refine cL_not ?_; refine L_val (R_not rfl) rfl rfl rfl ?_) | (refine cL_add ?_; first | refine L_valE (R_addI rfl rfl) (succ_i64 h (by omega)) rfl rfl rfl ?_ | refine L_val (R_addI rfl rfl) rfl rfl rfl ?_) | (refine cL_gtr ?_; refine L_val (R_gtI rfl rfl) rfl rfl rfl ?_) | refine L_nil ?_) | refine G_seq ?_ | refine G_region ?_ | refine G_skip ?_ | refine G_block ?_ | refine G_end ?_ | refine G_true rfl ?_ | refine G_false rfl ?_))
      refine G_inv ⟨⟨rfl, hext.trans (g4.ext.trans hw5), _, i + 1, with_self ⟨rfl, rfl, rfl, rfl, rfl, rfl, trivial⟩, h, fun j dj hj hdj => ?_⟩, ?_⟩
      · rcases Nat.lt_succ_iff_lt_or_eq.1 hj with hj | rfl
        · exact hJ j dj hj hdj
        · rw [hdi] at hdj
          injection hdj with hdj
          subst hdj
          exact hdecl
      · show ((ds.length : Int) - ((i + 1 : Nat) : Int)).toNat < ((ds.length : Int) - (i : Int)).toNat
        omega
  · have hb : decide ((i : Int) < (ds.length : Int)) = false := decide_eq_false (by omega)
    have hdd : ∀ (j : Nat) (d : Int × Ty), ds[j]? = some d → 0 ≤ d.1 ∧ d.1 ≤ 8 ∧ d.2.k ≠ 1 ∧ d.2.k ≠ 3 ∧ shapedB (ds.take j) 0 d.1 d.2 = true := fun j d hdj => by
      have h1 := hJ j d (by have := (List.getElem?_eq_some_iff.1 hdj).1; omega) hdj
      simp only [declB, Bool.and_eq_true, Bool.not_eq_true', decide_eq_false_iff_not, beq_eq_false_iff_ne] at h1
      exact ⟨by omega, by omega, h1.2.2.1, h1.2.2.2.1, h1.2.2.2.2⟩
    clear hJ hi
    (repeat (first | (refine cL ?_; first | (refine cL_guard ?_; refine L_unwanted rfl rfl rfl ?_) | (refine cL_move ?_; refine L_val R_move rfl rfl rfl ?_) | (refine cL_load ?_; first | refine L_val (R_loadB rfl (by assumption) (by rfl)) rfl rfl rfl ?_ | refine L_val (R_loadH (by assumption) rfl (by assumption) (by rfl)) rfl rfl rfl ?_) | (refine cL_fieldAddr ?_; refine L_val (R_fa rfl) rfl rfl rfl ?_) | (refine cL_nilCheck ?_; refine L_val (R_nil rfl) rfl rfl rfl ?_) | (refine cL_assign ?_; refine L_val R_assign rfl rfl rfl ?_) | (refine cL_call ?_; refine L_val (R_len rfl) rfl rfl rfl ?_) | (refine cL_pick ?_; first | refine L_val (R_pickT rfl) rfl rfl rfl ?_ | refine L_val (R_pickF rfl) rfl rfl rfl ?_) | (refine cL_eql ?_; first | refine L_val (R_eqPN rfl rfl) rfl rfl rfl ?_ | refine L_val (R_eqI rfl rfl) rfl rfl rfl ?_ | refine L_val (R_eqB rfl rfl) rfl rfl rfl ?_ | refine L_val (R_eqIfN rfl rfl) rfl rfl rfl ?_ | refine L_val (R_eqIfNN rfl) rfl rfl rfl ?_) | (refine cL_lss ?_; first | refine L_valB (R_ltI rfl rfl) hb rfl rfl rfl ?_ | refine L_val (R_ltI rfl rfl) rfl rfl rfl ?_) | (refine cL_not ?_; refine L_val (R_not rfl) rfl rfl rfl ?_) | (refine cL_add ?_; refine L_val (R_addI rfl rfl) rfl rfl rfl ?_) | (refine cL_gtr ?_; refine L_val (R_gtI rfl rfl) rfl rfl rfl ?_) | refine L_nil ?_) | refine G_exit rfl ?_ | refine G_seq ?_ | refine G_region ?_ | refine G_skip ?_ | refine G_block ?_ | refine G_end ?_ | refine G_true rfl ?_ | refine G_false rfl ?_))
    refine G_loop (CountI 74 73 ts.length [(0, .slice p ds.length dcap), (1, .int .i64 params), (2, .slice pl ts.length lcap), (72, .slice pl ts.length lcap)] w fun i => ∀ j t, j < i → ts[j]? = some t → shapedB ds params 0 t = true) (fun f _ _ => countM 74 73 f)
      ⟨rfl, hext, _, 0, with_self ⟨rfl, rfl, rfl, rfl, rfl, rfl, trivial⟩, Nat.zero_le _, fun j d hj => absurd hj (Nat.not_lt_zero j)⟩ ?_
    clear hext hAr
    rintro f ds0 wr2 ⟨rfl, hext, f1, i2, rfl, hi2, hJ2⟩
    have hAr := hA.ext0 hext
    by_cases h2 : i2 < ts.length
    · have hb2 : decide ((i2 : Int) < (ts.length : Int)) = true := decide_eq_true (by omega)
      obtain ⟨t, hti⟩ : ∃ v, ts[i2]? = some v := ⟨_, List.getElem?_eq_getElem h2⟩
      obtain ⟨bk, off, tcs, rfl, hec, hdt⟩ := ht.get hti
      obtain ⟨q, qcap, rfl, -, -, -, hqb, -⟩ := hdt.cells
      (repeat (first | (refine cL ?_; first | (refine cL_guard ?_; refine L_unwanted rfl rfl rfl ?_) | (refine cL_move ?_; refine L_val R_move rfl rfl rfl ?_) | (refine cL_load ?_; first | refine L_val (R_loadA rfl rfl fun j v hj => hAr.hcell (hec j v hj)) rfl rfl rfl ?_ | refine L_val (R_loadB rfl (by assumption) (by rfl)) rfl rfl rfl ?_ | refine L_val (R_loadH (by assumption) rfl (by assumption) (by rfl)) rfl rfl rfl ?_) | (refine cL_fieldAddr ?_; refine L_val (R_fa rfl) rfl rfl rfl ?_) | (refine cL_nilCheck ?_; refine L_val (R_nil rfl) rfl rfl rfl ?_) | (refine cL_assign ?_; refine L_val R_assign rfl rfl rfl ?_) | (refine cL_call ?_; refine L_val (R_len rfl) rfl rfl rfl ?_) | (refine cL_pick ?_; first | refine L_val (R_pickT rfl) rfl rfl rfl ?_ | refine L_val (R_pickF rfl) rfl rfl rfl ?_) | (refine cL_eql ?_; first | refine L_val (R_eqPN rfl rfl) rfl rfl rfl ?_ | refine L_val (R_eqI rfl rfl) rfl rfl rfl ?_ | refine L_val (R_eqB rfl rfl) rfl rfl rfl ?_ | refine L_val (R_eqIfN rfl rfl) rfl rfl rfl ?_ | refine L_val (R_eqIfNN rfl) rfl rfl rfl ?_) | (refine cL_lss ?_; first | refine L_valB (R_ltI rfl rfl) hb2 rfl rfl rfl ?_ | refine L_val (R_ltI rfl rfl) rfl rfl rfl ?_) | (refine cL_indexAddr ?_; refine L_valE (R_ia rfl rfl (by omega) (by omega)) (ia6 _ _ _) rfl rfl rfl ?_) | (refine cL_not ?_; refine L_val (R_not rfl) rfl rfl rfl ?_) | (refine cL_add ?_; refine L_val (R_addI rfl rfl) rfl rfl rfl ?_) | (refine cL_gtr ?_; refine L_val (R_gtI rfl rfl) rfl rfl rfl ?_) | refine L_nil ?_) | refine G_seq ?_ | refine G_region ?_ | refine G_skip ?_ | refine G_block ?_ | refine G_end ?_ | refine G_true rfl ?_ | refine G_false rfl ?_))
      refine L_allocS rfl rfl fun b10 w3 hn3 => ?_
      refine L_storeA rfl hn3.here rfl rfl rfl rfl rfl rfl fun w4 h4 e4 s4 => ?_
      obtain ⟨H4, g4, hb10⟩ := Grow.ofNew hAr (hn3.store h4 e4 s4)
      have hsh := shaped_any t _ ds p dcap params 0 H4 w4 g4.ag (DTy.mono g4.le _ _ hdt) (hd.mono g4.le) hdl
      (repeat (first | (refine cL ?_; first | (refine cL_guard ?_; refine L_unwanted rfl rfl rfl ?_) | (refine cL_move ?_; refine L_val R_move rfl rfl rfl ?_) | (refine cL_load ?_; first | refine L_val (R_loadAB rfl rfl (g4.ag _ _ hb10)) rfl rfl rfl ?_ | refine L_val (R_loadB rfl (by assumption) (by rfl)) rfl rfl rfl ?_ | refine L_val (R_loadH (by assumption) rfl (by assumption) (by rfl)) rfl rfl rfl ?_) | (refine cL_fieldAddr ?_; refine L_val (R_fa rfl) rfl rfl rfl ?_) | (refine cL_nilCheck ?_; refine L_val (R_nil rfl) rfl rfl rfl ?_) | (refine cL_assign ?_; refine L_val R_assign rfl rfl rfl ?_) | (refine cL_call ?_; refine L_val (R_len rfl) rfl rfl rfl ?_) | (refine cL_pick ?_; first | refine L_val (R_pickT rfl) rfl rfl rfl ?_ | refine L_val (R_pickF rfl) rfl rfl rfl ?_) | (refine cL_eql ?_; first | refine L_val (R_eqPN rfl rfl) rfl rfl rfl ?_ | refine L_val (R_eqI rfl rfl) rfl rfl rfl ?_ | refine L_val (R_eqB rfl rfl) rfl rfl rfl ?_ | refine L_val (R_eqIfN rfl rfl) rfl rfl rfl ?_ | refine L_val (R_eqIfNN rfl) rfl rfl rfl ?_) | (refine cL_lss ?_; refine L_val (R_ltI rfl rfl) rfl rfl rfl ?_) | (refine cL_not ?_; refine L_val (R_not rfl) rfl rfl rfl ?_) | (refine cL_add ?_; refine L_val (R_addI rfl rfl) rfl rfl rfl ?_) | (refine cL_gtr ?_; refine L_val (R_gtI rfl rfl) rfl rfl rfl ?_) | refine L_nil ?_) | refine G_seq ?_ | refine G_region ?_ | refine G_skip ?_ | refine G_block ?_ | refine G_end ?_ | refine G_true rfl ?_ | refine G_false rfl ?_))
      cases d5 : shapedB ds params 0 t with
      | false =>
        rw [d5] at hsh
        refine L_callQ hsh rfl rfl fun w5 hw5 => ?_
        (repeat (first | (refine cL ?_; first | (refine cL_guard ?_; refine L_unwanted rfl rfl rfl ?_) | (refine cL_move ?_; refine L_val R_move rfl rfl rfl ?_) | (refine cL_load ?_; first | refine L_val (R_loadB rfl (by assumption) (by rfl)) rfl rfl rfl ?_ | refine L_val (R_loadH (by assumption) rfl (by assumption) (by rfl)) rfl rfl rfl ?_) | (refine cL_fieldAddr ?_; refine L_val (R_fa rfl) rfl rfl rfl ?_) | (refine cL_nilCheck ?_; refine L_val (R_nil rfl) rfl rfl rfl ?_) | (refine cL_assign ?_; refine L_val R_assign rfl rfl rfl ?_) | (refine cL_call ?_; refine L_val (R_len rfl) rfl rfl rfl ?_) | (refine cL_pick ?_; first | refine L_val (R_pickT rfl) rfl rfl rfl ?_ | refine L_val (R_pickF rfl) rfl rfl rfl ?_) | (refine cL_eql ?_; first | refine L_val (R_eqPN rfl rfl) rfl rfl rfl ?_ | refine L_val (R_eqI rfl rfl) rfl rfl rfl ?_ | refine L_val (R_eqB rfl rfl) rfl rfl rfl ?_ | refine L_val (R_eqIfN rfl rfl) rfl rfl rfl ?_ | refine L_val (R_eqIfNN rfl) rfl rfl rfl ?_) | (refine cL_lss ?_; refine L_val (R_ltI rfl rfl) rfl rfl rfl ?_) | (refine cL_not ?_; refine L_val (R_not rfl) rfl rfl rfl ?_) | (refine cL_add ?_; refine L_val (R_addI rfl rfl) rfl rfl rfl ?_) | (refine cL_gtr ?_; refine L_val (R_gtI rfl rfl) rfl rfl rfl ?_) | refine L_nil ?_) | refine G_seq ?_ | refine G_region ?_ | refine G_skip ?_ | refine G_block ?_ | refine G_end ?_ | refine G_true rfl ?_ | refine G_false rfl ?_))
        (refine G_retF rfl ?_)
        exact ⟨_, rfl, false, rfl, hext.trans (g4.ext.trans hw5), fun h => by cases h⟩
      | true =>
        rw [d5] at hsh
        refine L_callQ hsh rfl rfl fun w5 hw5 => ?_
        have hA5 := g4.ag.ext0 hw5
        have hsz := size_any t _ H4 w5 hA5 (DTy.mono g4.le _ _ hdt)
        (repeat (first | (refine cL ?_; first | (refine cL_guard ?_; refine L_unwanted rfl rfl rfl ?_) | (refine cL_move ?_; refine L_val R_move rfl rfl rfl ?_) | (refine cL_load ?_; first | refine L_val (R_loadAB rfl rfl (hA5 _ _ hb10)) rfl rfl rfl ?_ | refine L_val (R_loadB rfl (by assumption) (by rfl)) rfl rfl rfl ?_ | refine L_val (R_loadH (by assumption) rfl (by assumption) (by rfl)) rfl rfl rfl ?_) | (refine cL_fieldAddr ?_; refine L_val (R_fa rfl) rfl rfl rfl ?_) | (refine cL_nilCheck ?_; refine L_val (R_nil rfl) rfl rfl rfl ?_) | (refine cL_assign ?_; refine L_val R_assign rfl rfl rfl ?_) | (refine cL_call ?_; refine L_val (R_len rfl) rfl rfl rfl ?_) | (refine cL_pick ?_; first | refine L_val (R_pickT rfl) rfl rfl rfl ?_ | refine L_val (R_pickF rfl) rfl rfl rfl ?_) | (refine cL_eql ?_; first | refine L_val (R_eqPN rfl rfl) rfl rfl rfl ?_ | refine L_val (R_eqI rfl rfl) rfl rfl rfl ?_ | refine L_val (R_eqB rfl rfl) rfl rfl rfl ?_ | refine L_val (R_eqIfN rfl rfl) rfl rfl rfl ?_ | refine L_val (R_eqIfNN rfl) rfl rfl rfl ?_) | (refine cL_lss ?_; refine L_val (R_ltI rfl rfl) rfl rfl rfl ?_) | (refine cL_not ?_; refine L_val (R_not rfl) rfl rfl rfl ?_) | (refine cL_add ?_; refine L_val (R_addI rfl rfl) rfl rfl rfl ?_) | (refine cL_gtr ?_; refine L_val (R_gtI rfl rfl) rfl rfl rfl ?_) | refine L_nil ?_) | refine G_seq ?_ | refine G_region ?_ | refine G_skip ?_ | refine G_block ?_ | refine G_end ?_ | refine G_true rfl ?_ | refine G_false rfl ?_))
        refine L_callQ hsz rfl rfl fun w6 hw6 => ?_
        cases d6 : decide (sizeW t > 15) with
        | true =>
          (repeat (first | (refine cL ?_; first | (refine cL_guard ?_; refine L_unwanted rfl rfl rfl ?_) | (refine cL_move ?_; refine L_val R_move rfl rfl rfl ?_) | (refine cL_load ?_; first | refine L_val (R_loadB rfl (by assumption) (by rfl)) rfl rfl rfl ?_ | refine L_val (R_loadH (by assumption) rfl (by assumption) (by rfl)) rfl rfl rfl ?_) | (refine cL_fieldAddr ?_; refine L_val (R_fa rfl) rfl rfl rfl ?_) | (refine cL_nilCheck ?_; refine L_val (R_nil rfl) rfl rfl rfl ?_) | (refine cL_assign ?_; refine L_val R_assign rfl rfl rfl ?_) | (refine cL_call ?_; refine L_val (R_len rfl) rfl rfl rfl ?_) | (refine cL_pick ?_; first | refine L_val (R_pickT rfl) rfl rfl rfl ?_ | refine L_val (R_pickF rfl) rfl rfl rfl ?_) | (refine cL_eql ?_; first | refine L_val (R_eqPN rfl rfl) rfl rfl rfl ?_ | refine L_val (R_eqI rfl rfl) rfl rfl rfl ?_ | refine L_val (R_eqB rfl rfl) rfl rfl rfl ?_ | refine L_val (R_eqIfN rfl rfl) rfl rfl rfl ?_ | refine L_val (R_eqIfNN rfl) rfl rfl rfl ?_) | (refine cL_lss ?_; refine L_val (R_ltI rfl rfl) rfl rfl rfl ?_) | (refine cL_not ?_; refine L_val (R_not rfl) rfl rfl rfl ?_) | (refine cL_add ?_; refine L_val (R_addI rfl rfl) rfl rfl rfl ?_) | (refine cL_gtr ?_; first | refine L_valB (R_gtI rfl rfl) d6 rfl rfl rfl ?_ | refine L_val (R_gtI rfl rfl) rfl rfl rfl ?_) | refine L_nil ?_) | refine G_seq ?_ | refine G_region ?_ | refine G_skip ?_ | refine G_block ?_ | refine G_end ?_ | refine G_true rfl ?_ | refine G_false rfl ?_))
          (refine G_retF rfl ?_)
          exact ⟨_, rfl, false, rfl, hext.trans (g4.ext.trans (hw5.trans hw6)), fun h => by cases h⟩
        | false =>
          (repeat (first | (refine cL ?_; first | (refine cL_guard ?_; refine L_unwanted rfl rfl rfl ?_) | (refine cL_move ?_; refine L_val R_move rfl rfl rfl ?_) | (refine cL_load ?_; first | refine L_val (R_loadB rfl (by assumption) (by rfl)) rfl rfl rfl ?_ | refine L_val (R_loadH (by assumption) rfl (by assumption) (by rfl)) rfl rfl rfl ?_) | (refine cL_fieldAddr ?_; refine L_val (R_fa rfl) rfl rfl rfl ?_) | (refine cL_nilCheck ?_; refine L_val (R_nil rfl) rfl rfl rfl ?_) | (refine cL_assign ?_; refine L_val R_assign rfl rfl rfl ?_) | (refine cL_call ?_; refine L_val (R_len rfl) rfl rfl rfl ?_) | (refine cL_pick ?_; first | refine L_val (R_pickT rfl) rfl rfl rfl ?_ | refine L_val (R_pickF rfl) rfl rfl rfl ?_) | (refine cL_eql ?_; first | refine L_val (R_eqPN rfl rfl) rfl rfl rfl ?_ | refine L_val (R_eqI rfl rfl) rfl rfl rfl ?_ | refine L_val (R_eqB rfl rfl) rfl rfl rfl ?_ | refine L_val (R_eqIfN rfl rfl) rfl rfl rfl ?_ | refine L_val (R_eqIfNN rfl) rfl rfl rfl ?_) | (refine cL_lss ?_; refine L_val (R_ltI rfl rfl) rfl rfl rfl ?_) | (refine cL_not ?_; refine L_val (R_not rfl) rfl rfl rfl ?_) | (refine cL_add ?_; first | refine L_valE (R_addI rfl rfl) (succ_i64 h2 (by omega)) rfl rfl rfl ?_ | refine L_val (R_addI rfl rfl) rfl rfl rfl ?_) | (refine cL_gtr ?_; first | refine L_valB (R_gtI rfl rfl) d6 rfl rfl rfl ?_ | refine L_val (R_gtI rfl rfl) rfl rfl rfl ?_) | refine L_nil ?_) | refine G_seq ?_ | refine G_region ?_ | refine G_skip ?_ | refine G_block ?_ | refine G_end ?_ | refine G_true rfl ?_ | refine G_false rfl ?_))
          refine G_inv ⟨⟨rfl, hext.trans (g4.ext.trans (hw5.trans hw6)), _, i2 + 1, with_self ⟨rfl, rfl, rfl, rfl, rfl, rfl, trivial⟩, h2, fun j tj hj htj => ?_⟩, ?_⟩
          · rcases Nat.lt_succ_iff_lt_or_eq.1 hj with hj | rfl
            · exact hJ2 j tj hj htj
            · rw [hti] at htj
              injection htj with htj
              subst htj
              exact d5
          · show ((ts.length : Int) - ((i2 + 1 : Nat) : Int)).toNat < ((ts.length : Int) - (i2 : Int)).toNat
            omega
    · have hb2 : decide ((i2 : Int) < (ts.length : Int)) = false := decide_eq_false (by omega)
      have htt : ∀ (j : Nat) (t : Ty), ts[j]? = some t → shapedB ds params 0 t = true := fun j t htj => hJ2 j t (by have := (List.getElem?_eq_some_iff.1 htj).1; omega) htj
      clear hJ2 hi2
      have hdecls : DeclsOK ds := fun n d hnd => let h := hdd n d hnd; ⟨h.1, h.2.2.2.2⟩
      (repeat (first | (refine cL ?_; first | (refine cL_guard ?_; refine L_unwanted rfl rfl rfl ?_) | (refine cL_move ?_; refine L_val R_move rfl rfl rfl ?_) | (refine cL_load ?_; first | refine L_val (R_loadB rfl (by assumption) (by rfl)) rfl rfl rfl ?_ | refine L_val (R_loadH (by assumption) rfl (by assumption) (by rfl)) rfl rfl rfl ?_) | (refine cL_fieldAddr ?_; refine L_val (R_fa rfl) rfl rfl rfl ?_) | (refine cL_nilCheck ?_; refine L_val (R_nil rfl) rfl rfl rfl ?_) | (refine cL_assign ?_; refine L_val R_assign rfl rfl rfl ?_) | (refine cL_call ?_; refine L_val (R_len rfl) rfl rfl rfl ?_) | (refine cL_pick ?_; first | refine L_val (R_pickT rfl) rfl rfl rfl ?_ | refine L_val (R_pickF rfl) rfl rfl rfl ?_) | (refine cL_eql ?_; first | refine L_val (R_eqPN rfl rfl) rfl rfl rfl ?_ | refine L_val (R_eqI rfl rfl) rfl rfl rfl ?_ | refine L_val (R_eqB rfl rfl) rfl rfl rfl ?_ | refine L_val (R_eqIfN rfl rfl) rfl rfl rfl ?_ | refine L_val (R_eqIfNN rfl) rfl rfl rfl ?_) | (refine cL_lss ?_; first | refine L_valB (R_ltI rfl rfl) hb2 rfl rfl rfl ?_ | refine L_val (R_ltI rfl rfl) rfl rfl rfl ?_) | (refine cL_not ?_; refine L_val (R_not rfl) rfl rfl rfl ?_) | (refine cL_add ?_; refine L_val (R_addI rfl rfl) rfl rfl rfl ?_) | (refine cL_gtr ?_; refine L_val (R_gtI rfl rfl) rfl rfl rfl ?_) | (refine cL_build ?_; refine L_val (R_build (cs := [.slice p ds.length dcap, .int .i64 100000]) rfl) rfl rfl rfl ?_) | refine L_nil ?_) | refine G_exit rfl ?_ | refine G_seq ?_ | refine G_region ?_ | refine G_skip ?_ | refine G_block ?_ | refine G_end ?_ | refine G_true rfl ?_ | refine G_false rfl ?_))
      refine L_box rfl rfl rfl fun bB w5 hn5 => ?_
      have hHB : H bB = none := by
        cases hh : H bB with
        | none => rfl
        | some o =>
          have := hAr.lt hh
          have := hn5.fresh
          omega
      have hxs : ∀ w0, Ext (fun b => b = bB) w5 w0 → Ext No w w0 := fun w0 he => (hext.trans hn5.ext).trans_new he fun j hj hm => by
        have := hn5.fresh
        have := hext.size
        omega
      have hAs : ∀ w0, Ext (fun b => b = bB) w5 w0 → Agree H w0 := fun w0 he => hA.ext0 (hxs w0 he)
      (repeat (first | (refine cL ?_; first | (refine cL_guard ?_; refine L_unwanted rfl rfl rfl ?_) | (refine cL_move ?_; refine L_val R_move rfl rfl rfl ?_) | (refine cL_load ?_; first | refine L_val (R_loadB rfl (by assumption) (by rfl)) rfl rfl rfl ?_ | refine L_val (R_loadH (by assumption) rfl (by assumption) (by rfl)) rfl rfl rfl ?_) | (refine cL_fieldAddr ?_; refine L_val (R_fa rfl) rfl rfl rfl ?_) | (refine cL_nilCheck ?_; refine L_val (R_nil rfl) rfl rfl rfl ?_) | (refine cL_assign ?_; refine L_val R_assign rfl rfl rfl ?_) | (refine cL_call ?_; refine L_val (R_len rfl) rfl rfl rfl ?_) | (refine cL_pick ?_; first | refine L_val (R_pickT rfl) rfl rfl rfl ?_ | refine L_val (R_pickF rfl) rfl rfl rfl ?_) | (refine cL_eql ?_; first | refine L_val (R_eqPN rfl rfl) rfl rfl rfl ?_ | refine L_val (R_eqI rfl rfl) rfl rfl rfl ?_ | refine L_val (R_eqB rfl rfl) rfl rfl rfl ?_ | refine L_val (R_eqIfN rfl rfl) rfl rfl rfl ?_ | refine L_val (R_eqIfNN rfl) rfl rfl rfl ?_) | (refine cL_lss ?_; refine L_val (R_ltI rfl rfl) rfl rfl rfl ?_) | (refine cL_not ?_; refine L_val (R_not rfl) rfl rfl rfl ?_) | (refine cL_add ?_; refine L_val (R_addI rfl rfl) rfl rfl rfl ?_) | (refine cL_gtr ?_; refine L_val (R_gtI rfl rfl) rfl rfl rfl ?_) | refine L_nil ?_) | refine G_seq ?_ | refine G_region ?_ | refine G_skip ?_ | refine G_block ?_ | refine G_end ?_ | refine G_true rfl ?_ | refine G_false rfl ?_))
      refine G_loop (fun f ds0 w0 => ds0 = [] ∧ ∃ (f0 : Fm) (i : Nat) (F : Int), f = with_ [(94, .int .i64 (i : Int)), (93, .int .i64 (ds.length : Int)), (2, .slice pl ts.length lcap), (11, ptr bB), (92, .slice p ds.length dcap)] f0 ∧ i ≤ ds.length ∧ Ext (fun b => b = bB) w5 w0 ∧
          w0.heap[bB]? = some (Ob [.slice p ds.length dcap, .int .i64 F] 37) ∧ F ≤ 100000 ∧ -(100000 * 4398046511104) - (i : Int) ≤ F) (fun f _ _ => countM 94 93 f)
        ⟨rfl, _, 0, 100000, with_self ⟨rfl, rfl, rfl, rfl, rfl, trivial⟩, Nat.zero_le _, Ext.refl _ _, hn5.here, by omega, by omega⟩ ?_
      rintro f ds0 wr3 ⟨rfl, f3, i3, F, rfl, hi3, hext3, hB3, hF1, hF2⟩
      have hAr3 := hAs wr3 hext3
      by_cases h3 : i3 < ds.length
      · have hb3 : decide ((i3 : Int) < (ds.length : Int)) = true := decide_eq_true (by omega)
        obtain ⟨d, hdi⟩ : ∃ v, ds[i3]? = some v := ⟨_, List.getElem?_eq_getElem h3⟩
        obtain ⟨bk, off, tcs, rfl, hec, hdt, hdk⟩ := hd _ _ hdi
        obtain ⟨q, qcap, rfl, -, -, -, hqb, -⟩ := hdt.cells
        obtain ⟨hd0, hdsh⟩ := hdecls _ _ hdi
        (repeat (first | (refine cL ?_; first | (refine cL_guard ?_; refine L_unwanted rfl rfl rfl ?_) | (refine cL_move ?_; refine L_val R_move rfl rfl rfl ?_) | (refine cL_load ?_; first | refine L_val (R_loadA (vs := .int .i64 d.1 :: tyCells d.2.k d.2.n d.2.c d.2.b (.slice q d.2.es.length qcap) d.2.nm) rfl rfl fun j v hj => hAr3.hcell (hec j v hj)) rfl rfl rfl ?_ | refine L_val (R_loadB rfl (by assumption) (by rfl)) rfl rfl rfl ?_ | refine L_val (R_loadH (by assumption) rfl (by assumption) (by rfl)) rfl rfl rfl ?_) | (refine cL_fieldAddr ?_; refine L_val (R_fa rfl) rfl rfl rfl ?_) | (refine cL_nilCheck ?_; refine L_val (R_nil rfl) rfl rfl rfl ?_) | (refine cL_assign ?_; refine L_val R_assign rfl rfl rfl ?_) | (refine cL_call ?_; refine L_val (R_len rfl) rfl rfl rfl ?_) | (refine cL_pick ?_; first | refine L_val (R_pickT rfl) rfl rfl rfl ?_ | refine L_val (R_pickF rfl) rfl rfl rfl ?_) | (refine cL_eql ?_; first | refine L_val (R_eqPN rfl rfl) rfl rfl rfl ?_ | refine L_val (R_eqI rfl rfl) rfl rfl rfl ?_ | refine L_val (R_eqB rfl rfl) rfl rfl rfl ?_ | refine L_val (R_eqIfN rfl rfl) rfl rfl rfl ?_ | refine L_val (R_eqIfNN rfl) rfl rfl rfl ?_) | (refine cL_lss ?_; first | refine L_valB (R_ltI rfl rfl) hb3 rfl rfl rfl ?_ | refine L_val (R_ltI rfl rfl) rfl rfl rfl ?_) | (refine cL_indexAddr ?_; refine L_valE (R_ia rfl rfl (by omega) (by omega)) (ia7' _ _ _) rfl rfl rfl ?_) | (refine cL_not ?_; refine L_val (R_not rfl) rfl rfl rfl ?_) | (refine cL_add ?_; refine L_val (R_addI rfl rfl) rfl rfl rfl ?_) | (refine cL_gtr ?_; refine L_val (R_gtI rfl rfl) rfl rfl rfl ?_) | refine L_nil ?_) | refine G_seq ?_ | refine G_region ?_ | refine G_skip ?_ | refine G_block ?_ | refine G_end ?_ | refine G_true rfl ?_ | refine G_false rfl ?_))
        refine L_allocS rfl rfl fun b13 w6 hn6 => ?_
        refine L_storeA (vs := .int .i64 d.1 :: tyCells d.2.k d.2.n d.2.c d.2.b (.slice q d.2.es.length qcap) d.2.nm) rfl hn6.here rfl rfl rfl rfl rfl rfl fun w7 h7 e7 s7 => ?_
        have hn7 := hn6.store h7 e7 s7
        obtain ⟨H7, g7, hb13⟩ := Grow.ofNew hAr3 hn7
        have hB7 := hn7.ext.heap (fun h => h) hB3
        have hHB7 : H7 bB = none := by
          cases hh : H7 bB with
          | none => rfl
          | some o =>
            have hl := lt_of_heap hB3
            rcases g7.new bB o hh with h | h
            · rw [hHB] at h; cases h
            · omega
        have hc13 := hcells_ob (cs := tyCells d.2.k d.2.n d.2.c d.2.b (.slice q d.2.es.length qcap) d.2.nm) [.int .i64 d.1] hb13
        have hA7 := g7.ag
        cases d1 : (d.1 == 0) with
        | false =>
          (repeat (first | (refine cL ?_; first | (refine cL_guard ?_; refine L_unwanted rfl rfl rfl ?_) | (refine cL_move ?_; refine L_val R_move rfl rfl rfl ?_) | (refine cL_load ?_; first | refine L_val (R_loadB rfl (by assumption) (by rfl)) rfl rfl rfl ?_ | refine L_val (R_loadH (by assumption) rfl (by assumption) (by rfl)) rfl rfl rfl ?_) | (refine cL_fieldAddr ?_; refine L_val (R_fa rfl) rfl rfl rfl ?_) | (refine cL_nilCheck ?_; refine L_val (R_nil rfl) rfl rfl rfl ?_) | (refine cL_assign ?_; refine L_val R_assign rfl rfl rfl ?_) | (refine cL_call ?_; refine L_val (R_len rfl) rfl rfl rfl ?_) | (refine cL_pick ?_; first | refine L_val (R_pickT rfl) rfl rfl rfl ?_ | refine L_val (R_pickF rfl) rfl rfl rfl ?_) | (refine cL_eql ?_; first | refine L_valB (R_eqI rfl rfl) d1 rfl rfl rfl ?_ | refine L_val (R_eqPN rfl rfl) rfl rfl rfl ?_ | refine L_val (R_eqI rfl rfl) rfl rfl rfl ?_ | refine L_val (R_eqB rfl rfl) rfl rfl rfl ?_ | refine L_val (R_eqIfN rfl rfl) rfl rfl rfl ?_ | refine L_val (R_eqIfNN rfl) rfl rfl rfl ?_) | (refine cL_lss ?_; refine L_val (R_ltI rfl rfl) rfl rfl rfl ?_) | (refine cL_not ?_; refine L_val (R_not rfl) rfl rfl rfl ?_) | (refine cL_add ?_; first | refine L_valE (R_addI rfl rfl) (succ_i64 h3 (by omega)) rfl rfl rfl ?_ | refine L_val (R_addI rfl rfl) rfl rfl rfl ?_) | (refine cL_gtr ?_; refine L_val (R_gtI rfl rfl) rfl rfl rfl ?_) | refine L_nil ?_) | refine G_seq ?_ | refine G_region ?_ | refine G_skip ?_ | refine G_block ?_ | refine G_end ?_ | refine G_true rfl ?_ | refine G_false rfl ?_))
          refine G_inv ⟨⟨rfl, _, i3 + 1, F, with_self ⟨rfl, rfl, rfl, rfl, rfl, trivial⟩, h3, hext3.trans hn7.ext.of_no, hB7, hF1, by omega⟩, ?_⟩
          show ((ds.length : Int) - ((i3 + 1 : Nat) : Int)).toNat < ((ds.length : Int) - (i3 : Int)).toNat
          omega
        | true =>
          have hbu := build_any (p := some ⟨bk, off, none⟩) (dcap := dcap) (bB := bB) hdecls hdl i3 (by omega) d.2 0 d.1 hd0 hdsh _ H7 w7 F (.slice none 0 0) [] hA7 (DTy.mono g7.le _ _ hdt) (hd.mono g7.le) hHB7 hB7 (OwnI.nil _ _) hF1 (by omega)
          (repeat (first | (refine cL ?_; first | (refine cL_guard ?_; refine L_unwanted rfl rfl rfl ?_) | (refine cL_move ?_; refine L_val R_move rfl rfl rfl ?_) | (refine cL_load ?_; first | refine L_val (R_loadA (vs := tyCells d.2.k d.2.n d.2.c d.2.b (.slice q d.2.es.length qcap) d.2.nm) rfl rfl fun j v hj => hA7.hcell (hc13 j v hj)) rfl rfl rfl ?_ | refine L_val (R_loadB rfl (by assumption) (by rfl)) rfl rfl rfl ?_ | refine L_val (R_loadH (by assumption) rfl (by assumption) (by rfl)) rfl rfl rfl ?_) | (refine cL_fieldAddr ?_; refine L_val (R_fa rfl) rfl rfl rfl ?_) | (refine cL_nilCheck ?_; refine L_val (R_nil rfl) rfl rfl rfl ?_) | (refine cL_assign ?_; refine L_val R_assign rfl rfl rfl ?_) | (refine cL_call ?_; refine L_val (R_len rfl) rfl rfl rfl ?_) | (refine cL_pick ?_; first | refine L_val (R_pickT rfl) rfl rfl rfl ?_ | refine L_val (R_pickF rfl) rfl rfl rfl ?_) | (refine cL_eql ?_; first | refine L_valB (R_eqI rfl rfl) d1 rfl rfl rfl ?_ | refine L_val (R_eqPN rfl rfl) rfl rfl rfl ?_ | refine L_val (R_eqI rfl rfl) rfl rfl rfl ?_ | refine L_val (R_eqB rfl rfl) rfl rfl rfl ?_ | refine L_val (R_eqIfN rfl rfl) rfl rfl rfl ?_ | refine L_val (R_eqIfNN rfl) rfl rfl rfl ?_) | (refine cL_lss ?_; refine L_val (R_ltI rfl rfl) rfl rfl rfl ?_) | (refine cL_not ?_; refine L_val (R_not rfl) rfl rfl rfl ?_) | (refine cL_add ?_; refine L_val (R_addI rfl rfl) rfl rfl rfl ?_) | (refine cL_gtr ?_; refine L_val (R_gtI rfl rfl) rfl rfl rfl ?_) | refine L_nil ?_) | refine G_seq ?_ | refine G_region ?_ | refine G_skip ?_ | refine G_block ?_ | refine G_end ?_ | refine G_true rfl ?_ | refine G_false rfl ?_))
          refine L_callR hbu rfl rfl fun v8 w8 ⟨k, F', hv8, hk0, hk1, hsp, hB8, hx8⟩ => ?_
          subst hv8
          have hsp1 := hsp.le
          have hsp3 := hsp.dead
          have hsp4 := hsp.low
          (repeat (first | (refine cL ?_; first | (refine cL_guard ?_; refine L_unwanted rfl rfl rfl ?_) | (refine cL_move ?_; refine L_val R_move rfl rfl rfl ?_) | (refine cL_load ?_; first | refine L_val (R_loadB rfl (by assumption) (by rfl)) rfl rfl rfl ?_ | refine L_val (R_loadH (by assumption) rfl (by assumption) (by rfl)) rfl rfl rfl ?_) | (refine cL_fieldAddr ?_; refine L_val (R_fa rfl) rfl rfl rfl ?_) | (refine cL_nilCheck ?_; refine L_val (R_nil rfl) rfl rfl rfl ?_) | (refine cL_assign ?_; refine L_val R_assign rfl rfl rfl ?_) | (refine cL_call ?_; refine L_val (R_len rfl) rfl rfl rfl ?_) | (refine cL_pick ?_; first | refine L_val (R_pickT rfl) rfl rfl rfl ?_ | refine L_val (R_pickF rfl) rfl rfl rfl ?_) | (refine cL_eql ?_; first | refine L_val (R_eqPN rfl rfl) rfl rfl rfl ?_ | refine L_val (R_eqI rfl rfl) rfl rfl rfl ?_ | refine L_val (R_eqB rfl rfl) rfl rfl rfl ?_ | refine L_val (R_eqIfN rfl rfl) rfl rfl rfl ?_ | refine L_val (R_eqIfNN rfl) rfl rfl rfl ?_) | (refine cL_lss ?_; refine L_val (R_ltI rfl rfl) rfl rfl rfl ?_) | (refine cL_not ?_; refine L_val (R_not rfl) rfl rfl rfl ?_) | (refine cL_add ?_; first | refine L_valE (R_addI rfl rfl) (succ_i64 h3 (by omega)) rfl rfl rfl ?_ | refine L_val (R_addI rfl rfl) rfl rfl rfl ?_) | (refine cL_gtr ?_; refine L_val (R_gtI rfl rfl) rfl rfl rfl ?_) | refine L_nil ?_) | refine G_seq ?_ | refine G_region ?_ | refine G_skip ?_ | refine G_block ?_ | refine G_end ?_ | refine G_true rfl ?_ | refine G_false rfl ?_))
          refine G_inv ⟨⟨rfl, _, i3 + 1, F', with_self ⟨rfl, rfl, rfl, rfl, rfl, trivial⟩, h3, (hext3.trans hn7.ext.of_no).trans hx8, hB8, by omega, by omega⟩, ?_⟩
          show ((ds.length : Int) - ((i3 + 1 : Nat) : Int)).toNat < ((ds.length : Int) - (i3 : Int)).toNat
          omega
      · have hb3 : decide ((i3 : Int) < (ds.length : Int)) = false := decide_eq_false (by omega)
        (repeat (first | (refine cL ?_; first | (refine cL_guard ?_; refine L_unwanted rfl rfl rfl ?_) | (refine cL_move ?_; refine L_val R_move rfl rfl rfl ?_) | (refine cL_load ?_; first | refine L_val (R_loadB rfl (by assumption) (by rfl)) rfl rfl rfl ?_ | refine L_val (R_loadH (by assumption) rfl (by assumption) (by rfl)) rfl rfl rfl ?_) | (refine cL_fieldAddr ?_; refine L_val (R_fa rfl) rfl rfl rfl ?_) | (refine cL_nilCheck ?_; refine L_val (R_nil rfl) rfl rfl rfl ?_) | (refine cL_assign ?_; refine L_val R_assign rfl rfl rfl ?_) | (refine cL_call ?_; refine L_val (R_len rfl) rfl rfl rfl ?_) | (refine cL_pick ?_; first | refine L_val (R_pickT rfl) rfl rfl rfl ?_ | refine L_val (R_pickF rfl) rfl rfl rfl ?_) | (refine cL_eql ?_; first | refine L_val (R_eqPN rfl rfl) rfl rfl rfl ?_ | refine L_val (R_eqI rfl rfl) rfl rfl rfl ?_ | refine L_val (R_eqB rfl rfl) rfl rfl rfl ?_ | refine L_val (R_eqIfN rfl rfl) rfl rfl rfl ?_ | refine L_val (R_eqIfNN rfl) rfl rfl rfl ?_) | (refine cL_lss ?_; first | refine L_valB (R_ltI rfl rfl) hb3 rfl rfl rfl ?_ | refine L_val (R_ltI rfl rfl) rfl rfl rfl ?_) | (refine cL_not ?_; refine L_val (R_not rfl) rfl rfl rfl ?_) | (refine cL_add ?_; refine L_val (R_addI rfl rfl) rfl rfl rfl ?_) | (refine cL_gtr ?_; refine L_val (R_gtI rfl rfl) rfl rfl rfl ?_) | refine L_nil ?_) | refine G_exit rfl ?_ | refine G_seq ?_ | refine G_region ?_ | refine G_skip ?_ | refine G_block ?_ | refine G_end ?_ | refine G_true rfl ?_ | refine G_false rfl ?_))
        refine G_loop (fun f ds0 w0 => ds0 = [] ∧ ∃ (f0 : Fm) (i : Nat) (F : Int), f = with_ [(108, .int .i64 (i : Int)), (107, .int .i64 (ts.length : Int)), (11, ptr bB), (106, .slice pl ts.length lcap)] f0 ∧ i ≤ ts.length ∧ Ext (fun b => b = bB) w5 w0 ∧
            w0.heap[bB]? = some (Ob [.slice p ds.length dcap, .int .i64 F] 37) ∧ F ≤ 100000 ∧ -(100000 * 4398046511104) - 16 - (i : Int) ≤ F ∧ (0 < F → ∀ (j : Nat) (t : Ty), j < i → ts[j]? = some t → Ty.size t ≤ 100000)) (fun f _ _ => countM 108 107 f)
          ⟨rfl, _, 0, F, with_self ⟨rfl, rfl, rfl, rfl, trivial⟩, Nat.zero_le _, hext3, hB3, by omega, by omega, fun _ j t hj => absurd hj (Nat.not_lt_zero j)⟩ ?_
        clear hB3 hF1 hF2 hAr3 hext3
        rintro f ds0 wr4 ⟨rfl, f4, i4, F4, rfl, hi4, hext4, hB4, hF1, hF2, hF3⟩
        have hAr4 := hAs wr4 hext4
        by_cases h4 : i4 < ts.length
        · have hb4 : decide ((i4 : Int) < (ts.length : Int)) = true := decide_eq_true (by omega)
          obtain ⟨t, hti⟩ : ∃ v, ts[i4]? = some v := ⟨_, List.getElem?_eq_getElem h4⟩
          obtain ⟨bk, off, tcs, rfl, hec, hdt⟩ := ht.get hti
          obtain ⟨q, qcap, rfl, -, -, -, hqb, -⟩ := hdt.cells
          (repeat (first | (refine cL ?_; first | (refine cL_guard ?_; refine L_unwanted rfl rfl rfl ?_) | (refine cL_move ?_; refine L_val R_move rfl rfl rfl ?_) | (refine cL_load ?_; first | refine L_val (R_loadA rfl rfl fun j v hj => hAr4.hcell (hec j v hj)) rfl rfl rfl ?_ | refine L_val (R_loadB rfl (by assumption) (by rfl)) rfl rfl rfl ?_ | refine L_val (R_loadH (by assumption) rfl (by assumption) (by rfl)) rfl rfl rfl ?_) | (refine cL_fieldAddr ?_; refine L_val (R_fa rfl) rfl rfl rfl ?_) | (refine cL_nilCheck ?_; refine L_val (R_nil rfl) rfl rfl rfl ?_) | (refine cL_assign ?_; refine L_val R_assign rfl rfl rfl ?_) | (refine cL_call ?_; refine L_val (R_len rfl) rfl rfl rfl ?_) | (refine cL_pick ?_; first | refine L_val (R_pickT rfl) rfl rfl rfl ?_ | refine L_val (R_pickF rfl) rfl rfl rfl ?_) | (refine cL_eql ?_; first | refine L_val (R_eqPN rfl rfl) rfl rfl rfl ?_ | refine L_val (R_eqI rfl rfl) rfl rfl rfl ?_ | refine L_val (R_eqB rfl rfl) rfl rfl rfl ?_ | refine L_val (R_eqIfN rfl rfl) rfl rfl rfl ?_ | refine L_val (R_eqIfNN rfl) rfl rfl rfl ?_) | (refine cL_lss ?_; first | refine L_valB (R_ltI rfl rfl) hb4 rfl rfl rfl ?_ | refine L_val (R_ltI rfl rfl) rfl rfl rfl ?_) | (refine cL_indexAddr ?_; refine L_valE (R_ia rfl rfl (by omega) (by omega)) (ia6 _ _ _) rfl rfl rfl ?_) | (refine cL_not ?_; refine L_val (R_not rfl) rfl rfl rfl ?_) | (refine cL_add ?_; refine L_val (R_addI rfl rfl) rfl rfl rfl ?_) | (refine cL_gtr ?_; refine L_val (R_gtI rfl rfl) rfl rfl rfl ?_) | refine L_nil ?_) | refine G_seq ?_ | refine G_region ?_ | refine G_skip ?_ | refine G_block ?_ | refine G_end ?_ | refine G_true rfl ?_ | refine G_false rfl ?_))
          refine L_allocS rfl rfl fun b15 w6 hn6 => ?_
          refine L_storeA rfl hn6.here rfl rfl rfl rfl rfl rfl fun w7 h7 e7 s7 => ?_
          have hn7 := hn6.store h7 e7 s7
          obtain ⟨H7, g7, hb15⟩ := Grow.ofNew hAr4 hn7
          have hB7 := hn7.ext.heap (fun h => h) hB4
          have hHB7 : H7 bB = none := by
            cases hh : H7 bB with
            | none => rfl
            | some o =>
              have hl := lt_of_heap hB4
              rcases g7.new bB o hh with h | h
              · rw [hHB] at h; cases h
              · omega
          have htake : ds.take ds.length = ds := List.take_length
          have hbu := build_any (p := p) (dcap := dcap) (bB := bB) hdecls hdl ds.length (Nat.le_refl _) t params 0 (by omega) (by rw [htake]; exact htt _ _ hti) _ H7 w7 F4 (.slice none 0 0) [] g7.ag (DTy.mono g7.le _ _ hdt) (hd.mono g7.le) hHB7 hB7 (OwnI.nil _ _) hF1 (by omega)
          (repeat (first | (refine cL ?_; first | (refine cL_guard ?_; refine L_unwanted rfl rfl rfl ?_) | (refine cL_move ?_; refine L_val R_move rfl rfl rfl ?_) | (refine cL_load ?_; first | refine L_val (R_loadAB rfl rfl (g7.ag _ _ hb15)) rfl rfl rfl ?_ | refine L_val (R_loadB rfl (by assumption) (by rfl)) rfl rfl rfl ?_ | refine L_val (R_loadH (by assumption) rfl (by assumption) (by rfl)) rfl rfl rfl ?_) | (refine cL_fieldAddr ?_; refine L_val (R_fa rfl) rfl rfl rfl ?_) | (refine cL_nilCheck ?_; refine L_val (R_nil rfl) rfl rfl rfl ?_) | (refine cL_assign ?_; refine L_val R_assign rfl rfl rfl ?_) | (refine cL_call ?_; refine L_val (R_len rfl) rfl rfl rfl ?_) | (refine cL_pick ?_; first | refine L_val (R_pickT rfl) rfl rfl rfl ?_ | refine L_val (R_pickF rfl) rfl rfl rfl ?_) | (refine cL_eql ?_; first | refine L_val (R_eqPN rfl rfl) rfl rfl rfl ?_ | refine L_val (R_eqI rfl rfl) rfl rfl rfl ?_ | refine L_val (R_eqB rfl rfl) rfl rfl rfl ?_ | refine L_val (R_eqIfN rfl rfl) rfl rfl rfl ?_ | refine L_val (R_eqIfNN rfl) rfl rfl rfl ?_) | (refine cL_lss ?_; refine L_val (R_ltI rfl rfl) rfl rfl rfl ?_) | (refine cL_not ?_; refine L_val (R_not rfl) rfl rfl rfl ?_) | (refine cL_add ?_; refine L_val (R_addI rfl rfl) rfl rfl rfl ?_) | (refine cL_gtr ?_; refine L_val (R_gtI rfl rfl) rfl rfl rfl ?_) | refine L_nil ?_) | refine G_seq ?_ | refine G_region ?_ | refine G_skip ?_ | refine G_block ?_ | refine G_end ?_ | refine G_true rfl ?_ | refine G_false rfl ?_))
          refine L_callR hbu rfl rfl fun v8 w8 ⟨k, F', hv8, hk0, hk1, hsp, hB8, hx8⟩ => ?_
          subst hv8
          have hsp1 := hsp.le
          have hsp2 := hsp.pos
          have hsp3 := hsp.dead
          have hsp4 := hsp.low
          (repeat (first | (refine cL ?_; first | (refine cL_guard ?_; refine L_unwanted rfl rfl rfl ?_) | (refine cL_move ?_; refine L_val R_move rfl rfl rfl ?_) | (refine cL_load ?_; first | refine L_val (R_loadB rfl (by assumption) (by rfl)) rfl rfl rfl ?_ | refine L_val (R_loadH (by assumption) rfl (by assumption) (by rfl)) rfl rfl rfl ?_) | (refine cL_fieldAddr ?_; refine L_val (R_fa rfl) rfl rfl rfl ?_) | (refine cL_nilCheck ?_; refine L_val (R_nil rfl) rfl rfl rfl ?_) | (refine cL_assign ?_; refine L_val R_assign rfl rfl rfl ?_) | (refine cL_call ?_; refine L_val (R_len rfl) rfl rfl rfl ?_) | (refine cL_pick ?_; first | refine L_val (R_pickT rfl) rfl rfl rfl ?_ | refine L_val (R_pickF rfl) rfl rfl rfl ?_) | (refine cL_eql ?_; first | refine L_val (R_eqPN rfl rfl) rfl rfl rfl ?_ | refine L_val (R_eqI rfl rfl) rfl rfl rfl ?_ | refine L_val (R_eqB rfl rfl) rfl rfl rfl ?_ | refine L_val (R_eqIfN rfl rfl) rfl rfl rfl ?_ | refine L_val (R_eqIfNN rfl) rfl rfl rfl ?_) | (refine cL_lss ?_; refine L_val (R_ltI rfl rfl) rfl rfl rfl ?_) | (refine cL_not ?_; refine L_val (R_not rfl) rfl rfl rfl ?_) | (refine cL_add ?_; first | refine L_valE (R_addI rfl rfl) (succ_i64 h4 (by omega)) rfl rfl rfl ?_ | refine L_val (R_addI rfl rfl) rfl rfl rfl ?_) | (refine cL_gtr ?_; refine L_val (R_gtI rfl rfl) rfl rfl rfl ?_) | refine L_nil ?_) | refine G_seq ?_ | refine G_region ?_ | refine G_skip ?_ | refine G_block ?_ | refine G_end ?_ | refine G_true rfl ?_ | refine G_false rfl ?_))
          refine G_inv ⟨⟨rfl, _, i4 + 1, F', with_self ⟨rfl, rfl, rfl, rfl, trivial⟩, h4, (hext4.trans hn7.ext.of_no).trans hx8, hB8, by omega, by omega, fun hf j tj hj htj => ?_⟩, ?_⟩
          · have := hsp2 hf
            rcases Nat.lt_succ_iff_lt_or_eq.1 hj with hj | rfl
            · exact hF3 (by omega) j tj hj htj
            · rw [hti] at htj
              injection htj with htj
              subst htj
              omega
          · show ((ts.length : Int) - ((i4 + 1 : Nat) : Int)).toNat < ((ts.length : Int) - (i4 : Int)).toNat
            omega
        · have hb4 : decide ((i4 : Int) < (ts.length : Int)) = false := decide_eq_false (by omega)
          (repeat (first | (refine cL ?_; first | (refine cL_guard ?_; refine L_unwanted rfl rfl rfl ?_) | (refine cL_move ?_; refine L_val R_move rfl rfl rfl ?_) | (refine cL_load ?_; first | refine L_val (R_loadB rfl (by assumption) (by rfl)) rfl rfl rfl ?_ | refine L_val (R_loadH (by assumption) rfl (by assumption) (by rfl)) rfl rfl rfl ?_) | (refine cL_fieldAddr ?_; refine L_val (R_fa rfl) rfl rfl rfl ?_) | (refine cL_nilCheck ?_; refine L_val (R_nil rfl) rfl rfl rfl ?_) | (refine cL_assign ?_; refine L_val R_assign rfl rfl rfl ?_) | (refine cL_call ?_; refine L_val (R_len rfl) rfl rfl rfl ?_) | (refine cL_pick ?_; first | refine L_val (R_pickT rfl) rfl rfl rfl ?_ | refine L_val (R_pickF rfl) rfl rfl rfl ?_) | (refine cL_eql ?_; first | refine L_val (R_eqPN rfl rfl) rfl rfl rfl ?_ | refine L_val (R_eqI rfl rfl) rfl rfl rfl ?_ | refine L_val (R_eqB rfl rfl) rfl rfl rfl ?_ | refine L_val (R_eqIfN rfl rfl) rfl rfl rfl ?_ | refine L_val (R_eqIfNN rfl) rfl rfl rfl ?_) | (refine cL_lss ?_; first | refine L_valB (R_ltI rfl rfl) hb4 rfl rfl rfl ?_ | refine L_val (R_ltI rfl rfl) rfl rfl rfl ?_) | (refine cL_not ?_; refine L_val (R_not rfl) rfl rfl rfl ?_) | (refine cL_add ?_; refine L_val (R_addI rfl rfl) rfl rfl rfl ?_) | (refine cL_gtr ?_; refine L_val (R_gtI rfl rfl) rfl rfl rfl ?_) | refine L_nil ?_) | refine G_exit rfl ?_ | refine G_seq ?_ | refine G_region ?_ | refine G_skip ?_ | refine G_block ?_ | refine G_end ?_ | refine G_true rfl ?_ | refine G_false rfl ?_))
          (refine G_retF rfl ?_)
          refine ⟨_, rfl, _, rfl, hxs wr4 hext4, fun hh => ?_⟩
          have hf : 0 < F4 := of_decide_eq_true hh
          refine ⟨hp0, hp8, hd16, hdd, fun t htm => ?_⟩
          obtain ⟨j, hj⟩ := List.mem_iff_getElem?.1 htm
          exact ⟨htt j t hj, hF3 hf j t (by have := (List.getElem?_eq_some_iff.1 hj).1; omega) hj⟩
end Go.Proofs.YtmmcjnfgcaefpaaGreatDoor

/-
  The package's constructors that only lay a block.
-/
namespace Go.Proofs.YtmmcjnfgcaefpaaGreatDoor
set_option maxRecDepth 100000
set_option maxHeartbeats 4000000
attribute [local irreducible] Calls execOp

/-- a pointer to a new block of these cells -/
def NewP (cs : List Value) (T : Nat) (w : World) : Value → World → Prop := fun r w' => ∃ b, r = ptr b ∧ NewB w w' b (Ob cs T)

theorem newPointer_any (T : Nat) (x : Value) (w : World) : Calls Tryz.prog 27 #[.iface T x] w (Ret (NewP [.iface T x] 153 w)) := by
  (refine calls_enter Tryz.func27 Tryz.ntmps27 rfl rfl ?_)
  (repeat (first | (refine cL ?_; first | (refine cL_move ?_; refine L_val R_move rfl rfl rfl ?_) | (refine cL_assign ?_; refine L_val R_assign rfl rfl rfl ?_) | (refine cL_build ?_; refine L_val (R_build (cs := [.iface T x]) rfl) rfl rfl rfl ?_) | refine L_nil ?_) | refine G_seq ?_ | refine G_region ?_ | refine G_skip ?_ | refine G_block ?_ | refine G_end ?_ | refine G_true rfl ?_ | refine G_false rfl ?_))
  refine L_box rfl rfl rfl fun b w1 hn => ?_
  (repeat (first | (refine cL ?_; first | (refine cL_move ?_; refine L_val R_move rfl rfl rfl ?_) | (refine cL_assign ?_; refine L_val R_assign rfl rfl rfl ?_) | refine L_nil ?_) | refine G_seq ?_ | refine G_region ?_ | refine G_skip ?_ | refine G_block ?_ | refine G_end ?_ | refine G_true rfl ?_ | refine G_false rfl ?_))
  (refine G_retF rfl ?_)
  exact ⟨_, rfl, b, rfl, hn⟩

theorem newSlice_any (T : Nat) (x : Value) (w : World) : Calls Tryz.prog 28 #[.iface T x] w (Ret (NewP [.iface T x] 141 w)) := by
  (refine calls_enter Tryz.func28 Tryz.ntmps28 rfl rfl ?_)
  (repeat (first | (refine cL ?_; first | (refine cL_move ?_; refine L_val R_move rfl rfl rfl ?_) | (refine cL_assign ?_; refine L_val R_assign rfl rfl rfl ?_) | (refine cL_build ?_; refine L_val (R_build (cs := [.iface T x]) rfl) rfl rfl rfl ?_) | refine L_nil ?_) | refine G_seq ?_ | refine G_region ?_ | refine G_skip ?_ | refine G_block ?_ | refine G_end ?_ | refine G_true rfl ?_ | refine G_false rfl ?_))
  refine L_box rfl rfl rfl fun b w1 hn => ?_
  (repeat (first | (refine cL ?_; first | (refine cL_move ?_; refine L_val R_move rfl rfl rfl ?_) | (refine cL_assign ?_; refine L_val R_assign rfl rfl rfl ?_) | refine L_nil ?_) | refine G_seq ?_ | refine G_region ?_ | refine G_skip ?_ | refine G_block ?_ | refine G_end ?_ | refine G_true rfl ?_ | refine G_false rfl ?_))
  (refine G_retF rfl ?_)
  exact ⟨_, rfl, b, rfl, hn⟩

theorem newArray_any (T : Nat) (x : Value) (n : Int) (w : World) : Calls Tryz.prog 29 #[.iface T x, .int .i64 n] w (Ret (NewP [.int .i64 n, .iface T x] 138 w)) := by
  (refine calls_enter Tryz.func29 Tryz.ntmps29 rfl rfl ?_)
  (repeat (first | (refine cL ?_; first | (refine cL_move ?_; refine L_val R_move rfl rfl rfl ?_) | (refine cL_assign ?_; refine L_val R_assign rfl rfl rfl ?_) | (refine cL_build ?_; refine L_val (R_build (cs := [.int .i64 n, .iface T x]) rfl) rfl rfl rfl ?_) | refine L_nil ?_) | refine G_seq ?_ | refine G_region ?_ | refine G_skip ?_ | refine G_block ?_ | refine G_end ?_ | refine G_true rfl ?_ | refine G_false rfl ?_))
  refine L_box rfl rfl rfl fun b w1 hn => ?_
  (repeat (first | (refine cL ?_; first | (refine cL_move ?_; refine L_val R_move rfl rfl rfl ?_) | (refine cL_assign ?_; refine L_val R_assign rfl rfl rfl ?_) | refine L_nil ?_) | refine G_seq ?_ | refine G_region ?_ | refine G_skip ?_ | refine G_block ?_ | refine G_end ?_ | refine G_true rfl ?_ | refine G_false rfl ?_))
  (refine G_retF rfl ?_)
  exact ⟨_, rfl, b, rfl, hn⟩

theorem newMap_any (T U : Nat) (x y : Value) (w : World) : Calls Tryz.prog 30 #[.iface T x, .iface U y] w (Ret (NewP [.iface T x, .iface U y] 174 w)) := by
  (refine calls_enter Tryz.func30 Tryz.ntmps30 rfl rfl ?_)
  (repeat (first | (refine cL ?_; first | (refine cL_move ?_; refine L_val R_move rfl rfl rfl ?_) | (refine cL_assign ?_; refine L_val R_assign rfl rfl rfl ?_) | (refine cL_build ?_; refine L_val (R_build (cs := [.iface T x, .iface U y]) rfl) rfl rfl rfl ?_) | refine L_nil ?_) | refine G_seq ?_ | refine G_region ?_ | refine G_skip ?_ | refine G_block ?_ | refine G_end ?_ | refine G_true rfl ?_ | refine G_false rfl ?_))
  refine L_box rfl rfl rfl fun b w1 hn => ?_
  (repeat (first | (refine cL ?_; first | (refine cL_move ?_; refine L_val R_move rfl rfl rfl ?_) | (refine cL_assign ?_; refine L_val R_assign rfl rfl rfl ?_) | refine L_nil ?_) | refine G_seq ?_ | refine G_region ?_ | refine G_skip ?_ | refine G_block ?_ | refine G_end ?_ | refine G_true rfl ?_ | refine G_false rfl ?_))
  (refine G_retF rfl ?_)
  exact ⟨_, rfl, b, rfl, hn⟩

theorem newChan_any (T : Nat) (x : Value) (n : Int) (w : World) : Calls Tryz.prog 31 #[.int .i64 n, .iface T x] w (Ret (NewP [.int .i64 n, .iface T x] 177 w)) := by
  (refine calls_enter Tryz.func31 Tryz.ntmps31 rfl rfl ?_)
  (repeat (first | (refine cL ?_; first | (refine cL_move ?_; refine L_val R_move rfl rfl rfl ?_) | (refine cL_assign ?_; refine L_val R_assign rfl rfl rfl ?_) | (refine cL_build ?_; refine L_val (R_build (cs := [.int .i64 n, .iface T x]) rfl) rfl rfl rfl ?_) | refine L_nil ?_) | refine G_seq ?_ | refine G_region ?_ | refine G_skip ?_ | refine G_block ?_ | refine G_end ?_ | refine G_true rfl ?_ | refine G_false rfl ?_))
  refine L_box rfl rfl rfl fun b w1 hn => ?_
  (repeat (first | (refine cL ?_; first | (refine cL_move ?_; refine L_val R_move rfl rfl rfl ?_) | (refine cL_assign ?_; refine L_val R_assign rfl rfl rfl ?_) | refine L_nil ?_) | refine G_seq ?_ | refine G_region ?_ | refine G_skip ?_ | refine G_block ?_ | refine G_end ?_ | refine G_true rfl ?_ | refine G_false rfl ?_))
  (refine G_retF rfl ?_)
  exact ⟨_, rfl, b, rfl, hn⟩

theorem newPackage_any (s t : ByteArray) (w : World) : Calls Tryz.prog 18 #[.string s, .string t] w (Ret (NewP [.string s, .string t] 95 w)) := by
  (refine calls_enter Tryz.func18 Tryz.ntmps18 rfl rfl ?_)
  (repeat (first | (refine cL ?_; first | (refine cL_move ?_; refine L_val R_move rfl rfl rfl ?_) | (refine cL_assign ?_; refine L_val R_assign rfl rfl rfl ?_) | (refine cL_build ?_; refine L_val (R_build (cs := [.string s, .string t]) rfl) rfl rfl rfl ?_) | refine L_nil ?_) | refine G_seq ?_ | refine G_region ?_ | refine G_skip ?_ | refine G_block ?_ | refine G_end ?_ | refine G_true rfl ?_ | refine G_false rfl ?_))
  refine L_box rfl rfl rfl fun b w1 hn => ?_
  (repeat (first | (refine cL ?_; first | (refine cL_move ?_; refine L_val R_move rfl rfl rfl ?_) | (refine cL_assign ?_; refine L_val R_assign rfl rfl rfl ?_) | refine L_nil ?_) | refine G_seq ?_ | refine G_region ?_ | refine G_skip ?_ | refine G_block ?_ | refine G_end ?_ | refine G_true rfl ?_ | refine G_false rfl ?_))
  (refine G_retF rfl ?_)
  exact ⟨_, rfl, b, rfl, hn⟩

theorem direction_any (n : Int) (w : World) (h0 : 0 ≤ n) (h3 : n < 3) : Calls Tryz.prog 32 #[.int .i64 n] w (Ret (Is (.int .i64 n) w)) := by
  rcases (show n = 0 ∨ n = 1 ∨ n = 2 by omega) with rfl | rfl | rfl
  · (refine calls_enter Tryz.func32 Tryz.ntmps32 rfl rfl ?_)
    (repeat (first | (refine cL ?_; first | (refine cL_move ?_; refine L_val R_move rfl rfl rfl ?_) | (refine cL_assign ?_; refine L_val R_assign rfl rfl rfl ?_) | (refine cL_eql ?_; first | refine L_val (R_eqPN rfl rfl) rfl rfl rfl ?_ | refine L_val (R_eqI rfl rfl) rfl rfl rfl ?_ | refine L_val (R_eqB rfl rfl) rfl rfl rfl ?_ | refine L_val (R_eqIfN rfl rfl) rfl rfl rfl ?_ | refine L_val (R_eqIfNN rfl) rfl rfl rfl ?_) | refine L_nil ?_) | refine G_seq ?_ | refine G_region ?_ | refine G_skip ?_ | refine G_block ?_ | refine G_end ?_ | refine G_true rfl ?_ | refine G_false rfl ?_))
    (refine G_retF rfl ?_)
    exact ⟨_, rfl, rfl, rfl⟩
  · (refine calls_enter Tryz.func32 Tryz.ntmps32 rfl rfl ?_)
    (repeat (first | (refine cL ?_; first | (refine cL_move ?_; refine L_val R_move rfl rfl rfl ?_) | (refine cL_assign ?_; refine L_val R_assign rfl rfl rfl ?_) | (refine cL_eql ?_; first | refine L_val (R_eqPN rfl rfl) rfl rfl rfl ?_ | refine L_val (R_eqI rfl rfl) rfl rfl rfl ?_ | refine L_val (R_eqB rfl rfl) rfl rfl rfl ?_ | refine L_val (R_eqIfN rfl rfl) rfl rfl rfl ?_ | refine L_val (R_eqIfNN rfl) rfl rfl rfl ?_) | refine L_nil ?_) | refine G_seq ?_ | refine G_region ?_ | refine G_skip ?_ | refine G_block ?_ | refine G_end ?_ | refine G_true rfl ?_ | refine G_false rfl ?_))
    (refine G_retF rfl ?_)
    exact ⟨_, rfl, rfl, rfl⟩
  · (refine calls_enter Tryz.func32 Tryz.ntmps32 rfl rfl ?_)
    (repeat (first | (refine cL ?_; first | (refine cL_move ?_; refine L_val R_move rfl rfl rfl ?_) | (refine cL_assign ?_; refine L_val R_assign rfl rfl rfl ?_) | (refine cL_eql ?_; first | refine L_val (R_eqPN rfl rfl) rfl rfl rfl ?_ | refine L_val (R_eqI rfl rfl) rfl rfl rfl ?_ | refine L_val (R_eqB rfl rfl) rfl rfl rfl ?_ | refine L_val (R_eqIfN rfl rfl) rfl rfl rfl ?_ | refine L_val (R_eqIfNN rfl) rfl rfl rfl ?_) | refine L_nil ?_) | refine G_seq ?_ | refine G_region ?_ | refine G_skip ?_ | refine G_block ?_ | refine G_end ?_ | refine G_true rfl ?_ | refine G_false rfl ?_))
    (refine G_retF rfl ?_)
    exact ⟨_, rfl, rfl, rfl⟩

theorem newVar_any (k n : Int) (pk : Option Addr) (s : ByteArray) (T : Nat) (x : Value) (w : World) : Calls Tryz.prog 42 #[.int .u8 k, .int .i64 n, .pointer pk, .string s, .iface T x] w (Ret (NewP [.int .i64 n, .pointer pk, .string s, .iface T x, .int .u8 k, .bool false] 148 w)) := by
  (refine calls_enter Tryz.func42 Tryz.ntmps42 rfl rfl ?_)
  (repeat (first | (refine cL ?_; first | (refine cL_move ?_; refine L_val R_move rfl rfl rfl ?_) | (refine cL_assign ?_; refine L_val R_assign rfl rfl rfl ?_) | (refine cL_build ?_; first | refine L_val (R_build (cs := [.int .i64 n, .pointer pk, .string s, .iface T x]) rfl) rfl rfl rfl ?_ | refine L_val (R_build (cs := [.int .i64 n, .pointer pk, .string s, .iface T x, .int .u8 k, .bool false]) rfl) rfl rfl rfl ?_) | refine L_nil ?_) | refine G_seq ?_ | refine G_region ?_ | refine G_skip ?_ | refine G_block ?_ | refine G_end ?_ | refine G_true rfl ?_ | refine G_false rfl ?_))
  refine L_box rfl rfl rfl fun b w1 hn => ?_
  (repeat (first | (refine cL ?_; first | (refine cL_move ?_; refine L_val R_move rfl rfl rfl ?_) | (refine cL_assign ?_; refine L_val R_assign rfl rfl rfl ?_) | refine L_nil ?_) | refine G_seq ?_ | refine G_region ?_ | refine G_skip ?_ | refine G_block ?_ | refine G_end ?_ | refine G_true rfl ?_ | refine G_false rfl ?_))
  (refine G_retF rfl ?_)
  exact ⟨_, rfl, b, rfl, hn⟩
end Go.Proofs.YtmmcjnfgcaefpaaGreatDoor

/-
  Variables, names, basic types: what the package lays.
-/
namespace Go.Proofs.YtmmcjnfgcaefpaaGreatDoor
set_option maxRecDepth 100000
set_option maxHeartbeats 4000000
attribute [local irreducible] Calls execOp

theorem newField_any (n : Int) (pk : Option Addr) (s : ByteArray) (T : Nat) (x : Value) (w : World) : Calls Tryz.prog 33 #[.int .i64 n, .pointer pk, .string s, .iface T x, .bool false] w (Ret (NewP [.int .i64 n, .pointer pk, .string s, .iface T x, .int .u8 6, .bool false] 148 w)) := by
  (refine calls_enter Tryz.func33 Tryz.ntmps33 rfl rfl ?_)
  (repeat (first | (refine cL ?_; first | (refine cL_move ?_; refine L_val R_move rfl rfl rfl ?_) | (refine cL_fieldAddr ?_; refine L_val (R_fa rfl) rfl rfl rfl ?_) | (refine cL_nilCheck ?_; refine L_val (R_nil rfl) rfl rfl rfl ?_) | (refine cL_assign ?_; refine L_val R_assign rfl rfl rfl ?_) | refine L_nil ?_) | refine G_seq ?_ | refine G_region ?_ | refine G_skip ?_ | refine G_block ?_ | refine G_end ?_ | refine G_true rfl ?_ | refine G_false rfl ?_))
  refine L_callR (newVar_any 6 n pk s T x w) rfl rfl fun v w1 ⟨b, hv, hn⟩ => ?_
  subst hv
  (repeat (first | (refine cL ?_; first | (refine cL_move ?_; refine L_val R_move rfl rfl rfl ?_) | (refine cL_fieldAddr ?_; refine L_val (R_fa rfl) rfl rfl rfl ?_) | (refine cL_nilCheck ?_; refine L_val (R_nil rfl) rfl rfl rfl ?_) | (refine cL_assign ?_; refine L_val R_assign rfl rfl rfl ?_) | refine L_nil ?_) | refine G_seq ?_ | refine G_region ?_ | refine G_skip ?_ | refine G_block ?_ | refine G_end ?_ | refine G_true rfl ?_ | refine G_false rfl ?_))
  refine L_store rfl hn.here rfl rfl rfl fun w2 h2 e2 s2 => ?_
  (repeat (first | (refine cL ?_; first | (refine cL_move ?_; refine L_val R_move rfl rfl rfl ?_) | (refine cL_fieldAddr ?_; refine L_val (R_fa rfl) rfl rfl rfl ?_) | (refine cL_nilCheck ?_; refine L_val (R_nil rfl) rfl rfl rfl ?_) | (refine cL_assign ?_; refine L_val R_assign rfl rfl rfl ?_) | refine L_nil ?_) | refine G_seq ?_ | refine G_region ?_ | refine G_skip ?_ | refine G_block ?_ | refine G_end ?_ | refine G_true rfl ?_ | refine G_false rfl ?_))
  (refine G_retF rfl ?_)
  exact ⟨_, rfl, b, rfl, hn.store h2 e2 s2⟩

theorem newParam_any (n : Int) (pk : Option Addr) (s : ByteArray) (T : Nat) (x : Value) (w : World) : Calls Tryz.prog 68 #[.int .i64 n, .pointer pk, .string s, .iface T x] w (Ret (NewP [.int .i64 n, .pointer pk, .string s, .iface T x, .int .u8 4, .bool false] 148 w)) := by
  (refine calls_enter Tryz.func68 Tryz.ntmps68 rfl rfl ?_)
  (repeat (first | (refine cL ?_; first | (refine cL_move ?_; refine L_val R_move rfl rfl rfl ?_) | (refine cL_assign ?_; refine L_val R_assign rfl rfl rfl ?_) | refine L_nil ?_) | refine G_seq ?_ | refine G_region ?_ | refine G_skip ?_ | refine G_block ?_ | refine G_end ?_ | refine G_true rfl ?_ | refine G_false rfl ?_))
  refine L_callR (newVar_any 4 n pk s T x w) rfl rfl fun v w1 ⟨b, hv, hn⟩ => ?_
  subst hv
  (repeat (first | (refine cL ?_; first | (refine cL_move ?_; refine L_val R_move rfl rfl rfl ?_) | (refine cL_assign ?_; refine L_val R_assign rfl rfl rfl ?_) | refine L_nil ?_) | refine G_seq ?_ | refine G_region ?_ | refine G_skip ?_ | refine G_block ?_ | refine G_end ?_ | refine G_true rfl ?_ | refine G_false rfl ?_))
  (refine G_retF rfl ?_)
  exact ⟨_, rfl, b, rfl, hn⟩

theorem newTypeName_any (n : Int) (pk : Option Addr) (s : ByteArray) (w : World) : Calls Tryz.prog 39 #[.int .i64 n, .pointer pk, .string s, .nilIface] w (Ret (NewP [.int .i64 n, .pointer pk, .string s, .nilIface] 196 w)) := by
  (refine calls_enter Tryz.func39 Tryz.ntmps39 rfl rfl ?_)
  (repeat (first | (refine cL ?_; first | (refine cL_move ?_; refine L_val R_move rfl rfl rfl ?_) | (refine cL_assign ?_; refine L_val R_assign rfl rfl rfl ?_) | (refine cL_build ?_; refine L_val (R_build (cs := [.int .i64 n, .pointer pk, .string s, .nilIface]) rfl) rfl rfl rfl ?_) | refine L_nil ?_) | refine G_seq ?_ | refine G_region ?_ | refine G_skip ?_ | refine G_block ?_ | refine G_end ?_ | refine G_true rfl ?_ | refine G_false rfl ?_))
  refine L_box rfl rfl rfl fun b w1 hn => ?_
  (repeat (first | (refine cL ?_; first | (refine cL_move ?_; refine L_val R_move rfl rfl rfl ?_) | (refine cL_assign ?_; refine L_val R_assign rfl rfl rfl ?_) | refine L_nil ?_) | refine G_seq ?_ | refine G_region ?_ | refine G_skip ?_ | refine G_block ?_ | refine G_end ?_ | refine G_true rfl ?_ | refine G_false rfl ?_))
  (refine G_retF rfl ?_)
  exact ⟨_, rfl, b, rfl, hn⟩

theorem name_any {b : Nat} {vd v2 v3 : Value} {pk : Option Addr} (s : ByteArray) (w : World) (hb : w.heap[b]? = some (Ob [vd, .pointer pk, v2, v3] 54)) :
    Calls Tryz.prog 20 #[ptr b, .string s] w (Ret (NewP [.int .i64 0, .pointer pk, .string s, .nilIface] 196 w)) := by
  (refine calls_enter Tryz.func20 Tryz.ntmps20 rfl rfl ?_)
  (repeat (first | (refine cL ?_; first | (refine cL_move ?_; refine L_val R_move rfl rfl rfl ?_) | (refine cL_load ?_; first | refine L_val (R_loadB rfl (by assumption) (by rfl)) rfl rfl rfl ?_ | refine L_val (R_loadH (by assumption) rfl (by assumption) (by rfl)) rfl rfl rfl ?_) | (refine cL_fieldAddr ?_; refine L_val (R_fa rfl) rfl rfl rfl ?_) | (refine cL_nilCheck ?_; refine L_val (R_nil rfl) rfl rfl rfl ?_) | (refine cL_assign ?_; refine L_val R_assign rfl rfl rfl ?_) | refine L_nil ?_) | refine G_seq ?_ | refine G_region ?_ | refine G_skip ?_ | refine G_block ?_ | refine G_end ?_ | refine G_true rfl ?_ | refine G_false rfl ?_))
  refine L_callR (newTypeName_any 0 pk s w) rfl rfl fun v w1 ⟨b, hv, hn⟩ => ?_
  subst hv
  (repeat (first | (refine cL ?_; first | (refine cL_move ?_; refine L_val R_move rfl rfl rfl ?_) | (refine cL_load ?_; first | refine L_val (R_loadB rfl (by assumption) (by rfl)) rfl rfl rfl ?_ | refine L_val (R_loadH (by assumption) rfl (by assumption) (by rfl)) rfl rfl rfl ?_) | (refine cL_fieldAddr ?_; refine L_val (R_fa rfl) rfl rfl rfl ?_) | (refine cL_nilCheck ?_; refine L_val (R_nil rfl) rfl rfl rfl ?_) | (refine cL_assign ?_; refine L_val R_assign rfl rfl rfl ?_) | refine L_nil ?_) | refine G_seq ?_ | refine G_region ?_ | refine G_skip ?_ | refine G_block ?_ | refine G_end ?_ | refine G_true rfl ?_ | refine G_false rfl ?_))
  (refine G_retF rfl ?_)
  exact ⟨_, rfl, b, rfl, hn⟩

theorem newTuple_nil (w : World) : Calls Tryz.prog 69 #[.slice none 0 0] w (Ret (Is (.pointer none) w)) := by
  (refine calls_enter Tryz.func69 Tryz.ntmps69 rfl rfl ?_)
  (repeat (first | (refine cL ?_; first | (refine cL_move ?_; refine L_val R_move rfl rfl rfl ?_) | (refine cL_assign ?_; refine L_val R_assign rfl rfl rfl ?_) | (refine cL_call ?_; refine L_val (R_len rfl) rfl rfl rfl ?_) | (refine cL_gtr ?_; refine L_val (R_gtI rfl rfl) rfl rfl rfl ?_) | refine L_nil ?_) | refine G_seq ?_ | refine G_region ?_ | refine G_skip ?_ | refine G_block ?_ | refine G_end ?_ | refine G_true rfl ?_ | refine G_false rfl ?_))
  (refine G_retF rfl ?_)
  exact ⟨_, rfl, rfl, rfl⟩
theorem newTuple_some (p : Option Addr) (len cap : Nat) (w : World) (h : 0 < len) : Calls Tryz.prog 69 #[.slice p len cap] w (Ret (NewP [.slice p len cap] 156 w)) := by
  have e : decide ((len : Int) > 0) = true := decide_eq_true (by omega)
  (refine calls_enter Tryz.func69 Tryz.ntmps69 rfl rfl ?_)
  (repeat (first | (refine cL ?_; first | (refine cL_move ?_; refine L_val R_move rfl rfl rfl ?_) | (refine cL_assign ?_; refine L_val R_assign rfl rfl rfl ?_) | (refine cL_call ?_; refine L_val (R_len rfl) rfl rfl rfl ?_) | (refine cL_gtr ?_; first | refine L_valB (R_gtI rfl rfl) e rfl rfl rfl ?_ | refine L_val (R_gtI rfl rfl) rfl rfl rfl ?_) | (refine cL_build ?_; refine L_val (R_build (cs := [.slice p len cap]) rfl) rfl rfl rfl ?_) | refine L_nil ?_) | refine G_seq ?_ | refine G_region ?_ | refine G_skip ?_ | refine G_block ?_ | refine G_end ?_ | refine G_true rfl ?_ | refine G_false rfl ?_))
  refine L_box rfl rfl rfl fun b w1 hn => ?_
  (repeat (first | (refine cL ?_; first | (refine cL_move ?_; refine L_val R_move rfl rfl rfl ?_) | (refine cL_assign ?_; refine L_val R_assign rfl rfl rfl ?_) | (refine cL_call ?_; refine L_val (R_len rfl) rfl rfl rfl ?_) | (refine cL_gtr ?_; refine L_val (R_gtI rfl rfl) rfl rfl rfl ?_) | refine L_nil ?_) | refine G_seq ?_ | refine G_region ?_ | refine G_skip ?_ | refine G_block ?_ | refine G_end ?_ | refine G_true rfl ?_ | refine G_false rfl ?_))
  (refine G_retF rfl ?_)
  exact ⟨_, rfl, b, rfl, hn⟩
theorem newTypeList_some (p : Option Addr) (len cap : Nat) (w : World) (h : 0 < len) : Calls Tryz.prog 70 #[.slice p len cap] w (Ret (NewP [.slice p len cap] 230 w)) := by
  have e : ((len : Int) == 0) = false := by simp; omega
  (refine calls_enter Tryz.func70 Tryz.ntmps70 rfl rfl ?_)
  (repeat (first | (refine cL ?_; first | (refine cL_move ?_; refine L_val R_move rfl rfl rfl ?_) | (refine cL_assign ?_; refine L_val R_assign rfl rfl rfl ?_) | (refine cL_call ?_; refine L_val (R_len rfl) rfl rfl rfl ?_) | (refine cL_eql ?_; first | refine L_valB (R_eqI rfl rfl) e rfl rfl rfl ?_ | refine L_val (R_eqPN rfl rfl) rfl rfl rfl ?_ | refine L_val (R_eqI rfl rfl) rfl rfl rfl ?_ | refine L_val (R_eqB rfl rfl) rfl rfl rfl ?_ | refine L_val (R_eqIfN rfl rfl) rfl rfl rfl ?_ | refine L_val (R_eqIfNN rfl) rfl rfl rfl ?_) | (refine cL_build ?_; refine L_val (R_build (cs := [.slice p len cap]) rfl) rfl rfl rfl ?_) | refine L_nil ?_) | refine G_seq ?_ | refine G_region ?_ | refine G_skip ?_ | refine G_block ?_ | refine G_end ?_ | refine G_true rfl ?_ | refine G_false rfl ?_))
  refine L_box rfl rfl rfl fun b w1 hn => ?_
  (repeat (first | (refine cL ?_; first | (refine cL_move ?_; refine L_val R_move rfl rfl rfl ?_) | (refine cL_assign ?_; refine L_val R_assign rfl rfl rfl ?_) | (refine cL_call ?_; refine L_val (R_len rfl) rfl rfl rfl ?_) | (refine cL_eql ?_; first | refine L_val (R_eqPN rfl rfl) rfl rfl rfl ?_ | refine L_val (R_eqI rfl rfl) rfl rfl rfl ?_ | refine L_val (R_eqB rfl rfl) rfl rfl rfl ?_ | refine L_val (R_eqIfN rfl rfl) rfl rfl rfl ?_ | refine L_val (R_eqIfNN rfl) rfl rfl rfl ?_) | refine L_nil ?_) | refine G_seq ?_ | refine G_region ?_ | refine G_skip ?_ | refine G_block ?_ | refine G_end ?_ | refine G_true rfl ?_ | refine G_false rfl ?_))
  (refine G_retF rfl ?_)
  exact ⟨_, rfl, b, rfl, hn⟩

/-- a basic type, laid -/
def BasicP (H : Hp) (w : World) (n : Int) : Value → World → Prop := fun r w' => ∃ b H' i s, r = ptr b ∧ Grow H w H' w' ∧ H' b = some (Ob [.int .i64 (n + 1), i, s] 135)

theorem typ_any {H : Hp} (n : Nat) (w : World) (hA : Agree H w) (h17 : n < 17) : Calls Tryz.prog 61 #[.int .i64 ((n : Int) + 1)] w (Ret (BasicP H w n)) := by
  (refine calls_enter Tryz.func61 Tryz.ntmps61 rfl rfl ?_)
  (repeat (first | (refine cL ?_; first | (refine cL_move ?_; refine L_val R_move rfl rfl rfl ?_) | (refine cL_load ?_; first | refine L_val (R_loadB rfl (by assumption) (by rfl)) rfl rfl rfl ?_ | refine L_val (R_loadH (by assumption) rfl (by assumption) (by rfl)) rfl rfl rfl ?_) | (refine cL_assign ?_; refine L_val R_assign rfl rfl rfl ?_) | refine L_nil ?_) | refine G_seq ?_ | refine G_region ?_ | refine G_skip ?_ | refine G_block ?_ | refine G_end ?_ | refine G_true rfl ?_ | refine G_false rfl ?_))
  refine L_val (R_build (cs := [.int .i64 0, .int .i64 0, .string ⟨#[105, 110, 118, 97, 108, 105, 100, 32, 116, 121, 112, 101]⟩]) rfl) rfl rfl rfl ?_
  refine L_box rfl rfl rfl fun b0 w0 hn0 => ?_
  obtain ⟨H0, g0, hb0⟩ := Grow.ofNew hA hn0
  refine L_val (R_build (cs := [.int .i64 1, .int .i64 1, .string ⟨#[98, 111, 111, 108]⟩]) rfl) rfl rfl rfl ?_
  refine L_box rfl rfl rfl fun b1 w1 hn1 => ?_
  obtain ⟨H1, g1, hb1⟩ := Grow.ofNew g0.ag hn1
  refine L_val (R_build (cs := [.int .i64 2, .int .i64 2, .string ⟨#[105, 110, 116]⟩]) rfl) rfl rfl rfl ?_
  refine L_box rfl rfl rfl fun b2 w2 hn2 => ?_
  obtain ⟨H2, g2, hb2⟩ := Grow.ofNew g1.ag hn2
  refine L_val (R_build (cs := [.int .i64 3, .int .i64 2, .string ⟨#[105, 110, 116, 56]⟩]) rfl) rfl rfl rfl ?_
  refine L_box rfl rfl rfl fun b3 w3 hn3 => ?_
  obtain ⟨H3, g3, hb3⟩ := Grow.ofNew g2.ag hn3
  refine L_val (R_build (cs := [.int .i64 4, .int .i64 2, .string ⟨#[105, 110, 116, 49, 54]⟩]) rfl) rfl rfl rfl ?_
  refine L_box rfl rfl rfl fun b4 w4 hn4 => ?_
  obtain ⟨H4, g4, hb4⟩ := Grow.ofNew g3.ag hn4
  refine L_val (R_build (cs := [.int .i64 5, .int .i64 2, .string ⟨#[105, 110, 116, 51, 50]⟩]) rfl) rfl rfl rfl ?_
  refine L_box rfl rfl rfl fun b5 w5 hn5 => ?_
  obtain ⟨H5, g5, hb5⟩ := Grow.ofNew g4.ag hn5
  refine L_val (R_build (cs := [.int .i64 6, .int .i64 2, .string ⟨#[105, 110, 116, 54, 52]⟩]) rfl) rfl rfl rfl ?_
  refine L_box rfl rfl rfl fun b6 w6 hn6 => ?_
  obtain ⟨H6, g6, hb6⟩ := Grow.ofNew g5.ag hn6
  refine L_val (R_build (cs := [.int .i64 7, .int .i64 6, .string ⟨#[117, 105, 110, 116]⟩]) rfl) rfl rfl rfl ?_
  refine L_box rfl rfl rfl fun b7 w7 hn7 => ?_
  obtain ⟨H7, g7, hb7⟩ := Grow.ofNew g6.ag hn7
  refine L_val (R_build (cs := [.int .i64 8, .int .i64 6, .string ⟨#[117, 105, 110, 116, 56]⟩]) rfl) rfl rfl rfl ?_
  refine L_box rfl rfl rfl fun b8 w8 hn8 => ?_
  obtain ⟨H8, g8, hb8⟩ := Grow.ofNew g7.ag hn8
  refine L_val (R_build (cs := [.int .i64 9, .int .i64 6, .string ⟨#[117, 105, 110, 116, 49, 54]⟩]) rfl) rfl rfl rfl ?_
  refine L_box rfl rfl rfl fun b9 w9 hn9 => ?_
  obtain ⟨H9, g9, hb9⟩ := Grow.ofNew g8.ag hn9
  refine L_val (R_build (cs := [.int .i64 10, .int .i64 6, .string ⟨#[117, 105, 110, 116, 51, 50]⟩]) rfl) rfl rfl rfl ?_
  refine L_box rfl rfl rfl fun b10 w10 hn10 => ?_
  obtain ⟨H10, g10, hb10⟩ := Grow.ofNew g9.ag hn10
  refine L_val (R_build (cs := [.int .i64 11, .int .i64 6, .string ⟨#[117, 105, 110, 116, 54, 52]⟩]) rfl) rfl rfl rfl ?_
  refine L_box rfl rfl rfl fun b11 w11 hn11 => ?_
  obtain ⟨H11, g11, hb11⟩ := Grow.ofNew g10.ag hn11
  refine L_val (R_build (cs := [.int .i64 12, .int .i64 6, .string ⟨#[117, 105, 110, 116, 112, 116, 114]⟩]) rfl) rfl rfl rfl ?_
  refine L_box rfl rfl rfl fun b12 w12 hn12 => ?_
  obtain ⟨H12, g12, hb12⟩ := Grow.ofNew g11.ag hn12
  refine L_val (R_build (cs := [.int .i64 13, .int .i64 8, .string ⟨#[102, 108, 111, 97, 116, 51, 50]⟩]) rfl) rfl rfl rfl ?_
  refine L_box rfl rfl rfl fun b13 w13 hn13 => ?_
  obtain ⟨H13, g13, hb13⟩ := Grow.ofNew g12.ag hn13
  refine L_val (R_build (cs := [.int .i64 14, .int .i64 8, .string ⟨#[102, 108, 111, 97, 116, 54, 52]⟩]) rfl) rfl rfl rfl ?_
  refine L_box rfl rfl rfl fun b14 w14 hn14 => ?_
  obtain ⟨H14, g14, hb14⟩ := Grow.ofNew g13.ag hn14
  refine L_val (R_build (cs := [.int .i64 15, .int .i64 16, .string ⟨#[99, 111, 109, 112, 108, 101, 120, 54, 52]⟩]) rfl) rfl rfl rfl ?_
  refine L_box rfl rfl rfl fun b15 w15 hn15 => ?_
  obtain ⟨H15, g15, hb15⟩ := Grow.ofNew g14.ag hn15
  refine L_val (R_build (cs := [.int .i64 16, .int .i64 16, .string ⟨#[99, 111, 109, 112, 108, 101, 120, 49, 50, 56]⟩]) rfl) rfl rfl rfl ?_
  refine L_box rfl rfl rfl fun b16 w16 hn16 => ?_
  obtain ⟨H16, g16, hb16⟩ := Grow.ofNew g15.ag hn16
  refine L_val (R_build (cs := [.int .i64 17, .int .i64 32, .string ⟨#[115, 116, 114, 105, 110, 103]⟩]) rfl) rfl rfl rfl ?_
  refine L_box rfl rfl rfl fun b17 w17 hn17 => ?_
  obtain ⟨H17, g17, hb17⟩ := Grow.ofNew g16.ag hn17
  refine L_val (R_build (cs := [.int .i64 18, .int .i64 0, .string ⟨#[80, 111, 105, 110, 116, 101, 114]⟩]) rfl) rfl rfl rfl ?_
  refine L_box rfl rfl rfl fun b18 w18 hn18 => ?_
  obtain ⟨H18, g18, hb18⟩ := Grow.ofNew g17.ag hn18
  refine L_val (R_build (cs := [.int .i64 19, .int .i64 65, .string ⟨#[117, 110, 116, 121, 112, 101, 100, 32, 98, 111, 111, 108]⟩]) rfl) rfl rfl rfl ?_
  refine L_box rfl rfl rfl fun b19 w19 hn19 => ?_
  obtain ⟨H19, g19, hb19⟩ := Grow.ofNew g18.ag hn19
  refine L_val (R_build (cs := [.int .i64 20, .int .i64 66, .string ⟨#[117, 110, 116, 121, 112, 101, 100, 32, 105, 110, 116]⟩]) rfl) rfl rfl rfl ?_
  refine L_box rfl rfl rfl fun b20 w20 hn20 => ?_
  obtain ⟨H20, g20, hb20⟩ := Grow.ofNew g19.ag hn20
  refine L_val (R_build (cs := [.int .i64 21, .int .i64 66, .string ⟨#[117, 110, 116, 121, 112, 101, 100, 32, 114, 117, 110, 101]⟩]) rfl) rfl rfl rfl ?_
  refine L_box rfl rfl rfl fun b21 w21 hn21 => ?_
  obtain ⟨H21, g21, hb21⟩ := Grow.ofNew g20.ag hn21
  refine L_val (R_build (cs := [.int .i64 22, .int .i64 72, .string ⟨#[117, 110, 116, 121, 112, 101, 100, 32, 102, 108, 111, 97, 116]⟩]) rfl) rfl rfl rfl ?_
  refine L_box rfl rfl rfl fun b22 w22 hn22 => ?_
  obtain ⟨H22, g22, hb22⟩ := Grow.ofNew g21.ag hn22
  refine L_val (R_build (cs := [.int .i64 23, .int .i64 80, .string ⟨#[117, 110, 116, 121, 112, 101, 100, 32, 99, 111, 109, 112, 108, 101, 120]⟩]) rfl) rfl rfl rfl ?_
  refine L_box rfl rfl rfl fun b23 w23 hn23 => ?_
  obtain ⟨H23, g23, hb23⟩ := Grow.ofNew g22.ag hn23
  refine L_val (R_build (cs := [.int .i64 24, .int .i64 96, .string ⟨#[117, 110, 116, 121, 112, 101, 100, 32, 115, 116, 114, 105, 110, 103]⟩]) rfl) rfl rfl rfl ?_
  refine L_box rfl rfl rfl fun b24 w24 hn24 => ?_
  obtain ⟨H24, g24, hb24⟩ := Grow.ofNew g23.ag hn24
  refine L_val (R_build (cs := [.int .i64 25, .int .i64 64, .string ⟨#[117, 110, 116, 121, 112, 101, 100, 32, 110, 105, 108]⟩]) rfl) rfl rfl rfl ?_
  refine L_box rfl rfl rfl fun b25 w25 hn25 => ?_
  obtain ⟨H25, g25, hb25⟩ := Grow.ofNew g24.ag hn25
  refine L_buildSlice (vs := [ptr b0, ptr b1, ptr b2, ptr b3, ptr b4, ptr b5, ptr b6, ptr b7, ptr b8, ptr b9, ptr b10, ptr b11, ptr b12, ptr b13, ptr b14, ptr b15, ptr b16, ptr b17, ptr b18, ptr b19, ptr b20, ptr b21, ptr b22, ptr b23, ptr b24, ptr b25]) rfl rfl rfl rfl rfl rfl fun bs ws hns => ?_
  have hx25 : Grow H25 w25 H25 w25 := Grow.refl g25.ag
  have hx24 := g25.trans hx25
  have hx23 := g24.trans hx24
  have hx22 := g23.trans hx23
  have hx21 := g22.trans hx22
  have hx20 := g21.trans hx21
  have hx19 := g20.trans hx20
  have hx18 := g19.trans hx19
  have hx17 := g18.trans hx18
  have hx16 := g17.trans hx17
  have hx15 := g16.trans hx16
  have hx14 := g15.trans hx15
  have hx13 := g14.trans hx14
  have hx12 := g13.trans hx13
  have hx11 := g12.trans hx12
  have hx10 := g11.trans hx11
  have hx9 := g10.trans hx10
  have hx8 := g9.trans hx9
  have hx7 := g8.trans hx8
  have hx6 := g7.trans hx7
  have hx5 := g6.trans hx6
  have hx4 := g5.trans hx5
  have hx3 := g4.trans hx4
  have hx2 := g3.trans hx3
  have hx1 := g2.trans hx2
  have hx0 := g1.trans hx1
  have hx := g0.trans hx0
  obtain ⟨Hs, gs, hbs⟩ := Grow.ofNew g25.ag hns
  obtain ⟨bb, hget, i, s, hbb⟩ : ∃ bb, lget [ptr b0, ptr b1, ptr b2, ptr b3, ptr b4, ptr b5, ptr b6, ptr b7, ptr b8, ptr b9, ptr b10, ptr b11, ptr b12, ptr b13, ptr b14, ptr b15, ptr b16, ptr b17, ptr b18, ptr b19, ptr b20, ptr b21, ptr b22, ptr b23, ptr b24, ptr b25] (n + 1) = some (ptr bb) ∧ ∃ i s, H25 bb = some (Ob [.int .i64 ((n : Int) + 1), i, s] 135) := by
    match n, h17 with
    | 0, _ => exact ⟨_, rfl, _, _, hx1.le _ _ hb1⟩
    | 1, _ => exact ⟨_, rfl, _, _, hx2.le _ _ hb2⟩
    | 2, _ => exact ⟨_, rfl, _, _, hx3.le _ _ hb3⟩
    | 3, _ => exact ⟨_, rfl, _, _, hx4.le _ _ hb4⟩
    | 4, _ => exact ⟨_, rfl, _, _, hx5.le _ _ hb5⟩
    | 5, _ => exact ⟨_, rfl, _, _, hx6.le _ _ hb6⟩
    | 6, _ => exact ⟨_, rfl, _, _, hx7.le _ _ hb7⟩
    | 7, _ => exact ⟨_, rfl, _, _, hx8.le _ _ hb8⟩
    | 8, _ => exact ⟨_, rfl, _, _, hx9.le _ _ hb9⟩
    | 9, _ => exact ⟨_, rfl, _, _, hx10.le _ _ hb10⟩
    | 10, _ => exact ⟨_, rfl, _, _, hx11.le _ _ hb11⟩
    | 11, _ => exact ⟨_, rfl, _, _, hx12.le _ _ hb12⟩
    | 12, _ => exact ⟨_, rfl, _, _, hx13.le _ _ hb13⟩
    | 13, _ => exact ⟨_, rfl, _, _, hx14.le _ _ hb14⟩
    | 14, _ => exact ⟨_, rfl, _, _, hx15.le _ _ hb15⟩
    | 15, _ => exact ⟨_, rfl, _, _, hx16.le _ _ hb16⟩
    | 16, _ => exact ⟨_, rfl, _, _, hx17.le _ _ hb17⟩
    | k + 17, hk => exact absurd hk (by omega)
  have hia : (Value.pointer (some ⟨bs, 0 + ((n : Int) + 1).toNat * 1, none⟩)) = .pointer (some ⟨bs, n + 1, none⟩) := by
    have : ((n : Int) + 1).toNat = n + 1 := by omega
    rw [this]; simp
  have hAs := gs.ag
  (repeat (first | (refine cL ?_; first | (refine cL_move ?_; refine L_val R_move rfl rfl rfl ?_) | (refine cL_load ?_; first | refine L_val (R_loadH hAs rfl hbs hget) rfl rfl rfl ?_ | refine L_val (R_loadB rfl (by assumption) (by rfl)) rfl rfl rfl ?_ | refine L_val (R_loadH (by assumption) rfl (by assumption) (by rfl)) rfl rfl rfl ?_) | (refine cL_assign ?_; refine L_val R_assign rfl rfl rfl ?_) | (refine cL_indexAddr ?_; refine L_valE (R_ia rfl rfl (by omega) (by omega)) hia rfl rfl rfl ?_) | refine L_nil ?_) | refine G_seq ?_ | refine G_region ?_ | refine G_skip ?_ | refine G_block ?_ | refine G_end ?_ | refine G_true rfl ?_ | refine G_false rfl ?_))
  (refine G_retF rfl ?_)
  exact ⟨_, rfl, bb, Hs, i, s, rfl, hx.trans gs, gs.le _ _ hbb⟩

theorem basic_any {H : Hp} (n : Nat) (w : World) (hA : Agree H w) (h17 : n < 17) : Calls Tryz.prog 25 #[.int .i64 (n : Int)] w (Ret fun r w' => ∃ b, r = .iface 130 (ptr b) ∧ BasicP H w n (ptr b) w') := by
  have e : Value.int .i64 (IntKind.i64.wrap (1 + (n : Int))) = .int .i64 ((n : Int) + 1) := by rw [wrap_i64 (by omega) (by omega), Int.add_comm]
  (refine calls_enter Tryz.func25 Tryz.ntmps25 rfl rfl ?_)
  (repeat (first | (refine cL ?_; first | (refine cL_move ?_; refine L_val R_move rfl rfl rfl ?_) | (refine cL_assign ?_; refine L_val R_assign rfl rfl rfl ?_) | (refine cL_makeInterface ?_; refine L_val R_mkI rfl rfl rfl ?_) | (refine cL_add ?_; first | refine L_valE (R_addI rfl rfl) e rfl rfl rfl ?_ | refine L_val (R_addI rfl rfl) rfl rfl rfl ?_) | refine L_nil ?_) | refine G_seq ?_ | refine G_region ?_ | refine G_skip ?_ | refine G_block ?_ | refine G_end ?_ | refine G_true rfl ?_ | refine G_false rfl ?_))
  refine L_callR (typ_any n w hA h17) rfl rfl fun v w1 hb => ?_
  have hb2 := hb
  obtain ⟨b, H', i, s, hv, -, -⟩ := hb2
  subst hv
  (repeat (first | (refine cL ?_; first | (refine cL_move ?_; refine L_val R_move rfl rfl rfl ?_) | (refine cL_assign ?_; refine L_val R_assign rfl rfl rfl ?_) | (refine cL_makeInterface ?_; refine L_val R_mkI rfl rfl rfl ?_) | (refine cL_add ?_; refine L_val (R_addI rfl rfl) rfl rfl rfl ?_) | refine L_nil ?_) | refine G_seq ?_ | refine G_region ?_ | refine G_skip ?_ | refine G_block ?_ | refine G_end ?_ | refine G_true rfl ?_ | refine G_false rfl ?_))
  (refine G_retF rfl ?_)
  exact ⟨_, rfl, b, rfl, hb⟩
end Go.Proofs.YtmmcjnfgcaefpaaGreatDoor

/-
  The walk's own rules, ninth part: calls through an interface.
-/
namespace Go.Proofs.YtmmcjnfgcaefpaaGreatDoor

class InvT (P : Program) (t : Nat) (name : String) (f : outParam Nat) : Prop where
  h : ∀ (a : Addr) (w : World), (method (P.types.size + Made.depth) t (.pointer (some a)) name).run P w = .ok (f, .pointer (some a)) w

section
variable {P : Program} {n : Nat} {ops rest : List Oper} {K : LK} {f : Fm} {ds : List Deferred} {w w' : World}
variable {dst : Option Nat} {ty : TypeId} {pos : String} {aft : Array Edge} {g : Option (Nat × Bool)}

theorem R_invoke {t : Nat} {name : String} {fn : Nat} [hi : InvT P t name fn] [hc : CallT P fn] {x : Operand} {a : Addr} {ts : Array TypeId} (hx : ev f x = .iface t (.pointer (some a))) :
    (execOp (ev f) ⟨dst, .call ⟨.invoke x name, #[], ts⟩, ty, pos, aft, g⟩).run P w = .ok (.enter fn #[.pointer (some a)]) w := by
  simp only [execOp, resolve, Sem.run_bind, Sem.run_pure, Result.andThen_ok, invoke]
  simp [hx, callMethod, hi.h a w, hc.h]

theorem L_invokeR {d : Nat} {t : Nat} {name : String} {fn : Nat} [hi : InvT P t name fn] [hc : CallT P fn] {x : Operand} {a : Addr} {ts : Array TypeId} {Φ : Value → World → Prop} (hx : ev f x = .iface t (.pointer (some a)))
    (hcl : Calls P fn #[.pointer (some a)] w (Ret Φ)) (hw : wantd ops f ⟨some d, .call ⟨.invoke x name, #[], ts⟩, ty, pos, aft, g⟩ = true) (hn : Nat.blt d n = true)
    (h : ∀ v w', Φ v w' → L P n ops K rest (upd f d v) ds w') : L P n ops K (⟨some d, .call ⟨.invoke x name, #[], ts⟩, ty, pos, aft, g⟩ :: rest) f ds w :=
  L_enter (R_invoke hx) hw rfl hn hcl fun _ w' ⟨v, he, hv⟩ => ⟨v, he, h v w' hv⟩
theorem L_invokeI {d : Nat} {t : Nat} {name : String} {fn : Nat} [hi : InvT P t name fn] [hc : CallT P fn] {x : Operand} {a : Addr} {ts : Array TypeId} {c : Value} (hx : ev f x = .iface t (.pointer (some a)))
    (hcl : Calls P fn #[.pointer (some a)] w (Ret (Is c w))) (hw : wantd ops f ⟨some d, .call ⟨.invoke x name, #[], ts⟩, ty, pos, aft, g⟩ = true) (hn : Nat.blt d n = true)
    (h : L P n ops K rest (upd f d c) ds w) : L P n ops K (⟨some d, .call ⟨.invoke x name, #[], ts⟩, ty, pos, aft, g⟩ :: rest) f ds w :=
  L_invokeR hx hcl hw hn fun v w' ⟨hv, hw'⟩ => by subst hv; subst hw'; exact h

theorem R_defer {fn : FuncId} {xs : List Operand} {ts : Array TypeId} :
    (execOp (ev f) ⟨dst, .defer ⟨.value (.func fn), xs.toArray, ts⟩, ty, pos, aft, g⟩).run P w = .ok (.defer { target := .fn (.func fn) #[], args := (xs.map (ev f)).toArray }) w := by
  simp only [execOp, resolve, ev, Deferred.ofValue, Sem.run_bind, Sem.run_pure, Result.andThen_ok]
  simp
end
end Go.Proofs.YtmmcjnfgcaefpaaGreatDoor

/-
  What lies under a type literal: itself.
-/
namespace Go.Proofs.YtmmcjnfgcaefpaaGreatDoor
set_option maxRecDepth 100000
set_option maxHeartbeats 4000000
attribute [local irreducible] Calls execOp

instance : CallT Tryz.prog 208 := call_of Tryz.func208 (by kernel_rfl) (by kernel_rfl)
instance : InvT Tryz.prog 130 "Underlying" 208 := ⟨fun a w => by kernel_rfl⟩
theorem under_basic (a : Nat) (w : World) : Calls Tryz.prog 208 #[ptr a] w (Ret (Is (.iface 130 (ptr a)) w)) := by
  (refine calls_enter Tryz.func208 Tryz.ntmps208 rfl rfl ?_)
  (repeat (first | (refine cL ?_; first | (refine cL_move ?_; refine L_val R_move rfl rfl rfl ?_) | (refine cL_assign ?_; refine L_val R_assign rfl rfl rfl ?_) | (refine cL_makeInterface ?_; refine L_val R_mkI rfl rfl rfl ?_) | refine L_nil ?_) | refine G_seq ?_ | refine G_region ?_ | refine G_skip ?_ | refine G_block ?_ | refine G_end ?_ | refine G_true rfl ?_ | refine G_false rfl ?_))
  (refine G_retF rfl ?_)
  exact ⟨_, rfl, rfl, rfl⟩
instance : CallT Tryz.prog 192 := call_of Tryz.func192 (by kernel_rfl) (by kernel_rfl)
instance : InvT Tryz.prog 71 "Underlying" 192 := ⟨fun a w => by kernel_rfl⟩
theorem under_pointer (a : Nat) (w : World) : Calls Tryz.prog 192 #[ptr a] w (Ret (Is (.iface 71 (ptr a)) w)) := by
  (refine calls_enter Tryz.func192 Tryz.ntmps192 rfl rfl ?_)
  (repeat (first | (refine cL ?_; first | (refine cL_move ?_; refine L_val R_move rfl rfl rfl ?_) | (refine cL_assign ?_; refine L_val R_assign rfl rfl rfl ?_) | (refine cL_makeInterface ?_; refine L_val R_mkI rfl rfl rfl ?_) | refine L_nil ?_) | refine G_seq ?_ | refine G_region ?_ | refine G_skip ?_ | refine G_block ?_ | refine G_end ?_ | refine G_true rfl ?_ | refine G_false rfl ?_))
  (refine G_retF rfl ?_)
  exact ⟨_, rfl, rfl, rfl⟩
instance : CallT Tryz.prog 194 := call_of Tryz.func194 (by kernel_rfl) (by kernel_rfl)
instance : InvT Tryz.prog 73 "Underlying" 194 := ⟨fun a w => by kernel_rfl⟩
theorem under_slice (a : Nat) (w : World) : Calls Tryz.prog 194 #[ptr a] w (Ret (Is (.iface 73 (ptr a)) w)) := by
  (refine calls_enter Tryz.func194 Tryz.ntmps194 rfl rfl ?_)
  (repeat (first | (refine cL ?_; first | (refine cL_move ?_; refine L_val R_move rfl rfl rfl ?_) | (refine cL_assign ?_; refine L_val R_assign rfl rfl rfl ?_) | (refine cL_makeInterface ?_; refine L_val R_mkI rfl rfl rfl ?_) | refine L_nil ?_) | refine G_seq ?_ | refine G_region ?_ | refine G_skip ?_ | refine G_block ?_ | refine G_end ?_ | refine G_true rfl ?_ | refine G_false rfl ?_))
  (refine G_retF rfl ?_)
  exact ⟨_, rfl, rfl, rfl⟩
instance : CallT Tryz.prog 196 := call_of Tryz.func196 (by kernel_rfl) (by kernel_rfl)
instance : InvT Tryz.prog 75 "Underlying" 196 := ⟨fun a w => by kernel_rfl⟩
theorem under_array (a : Nat) (w : World) : Calls Tryz.prog 196 #[ptr a] w (Ret (Is (.iface 75 (ptr a)) w)) := by
  (refine calls_enter Tryz.func196 Tryz.ntmps196 rfl rfl ?_)
  (repeat (first | (refine cL ?_; first | (refine cL_move ?_; refine L_val R_move rfl rfl rfl ?_) | (refine cL_assign ?_; refine L_val R_assign rfl rfl rfl ?_) | (refine cL_makeInterface ?_; refine L_val R_mkI rfl rfl rfl ?_) | refine L_nil ?_) | refine G_seq ?_ | refine G_region ?_ | refine G_skip ?_ | refine G_block ?_ | refine G_end ?_ | refine G_true rfl ?_ | refine G_false rfl ?_))
  (refine G_retF rfl ?_)
  exact ⟨_, rfl, rfl, rfl⟩
instance : CallT Tryz.prog 198 := call_of Tryz.func198 (by kernel_rfl) (by kernel_rfl)
instance : InvT Tryz.prog 77 "Underlying" 198 := ⟨fun a w => by kernel_rfl⟩
theorem under_map (a : Nat) (w : World) : Calls Tryz.prog 198 #[ptr a] w (Ret (Is (.iface 77 (ptr a)) w)) := by
  (refine calls_enter Tryz.func198 Tryz.ntmps198 rfl rfl ?_)
  (repeat (first | (refine cL ?_; first | (refine cL_move ?_; refine L_val R_move rfl rfl rfl ?_) | (refine cL_assign ?_; refine L_val R_assign rfl rfl rfl ?_) | (refine cL_makeInterface ?_; refine L_val R_mkI rfl rfl rfl ?_) | refine L_nil ?_) | refine G_seq ?_ | refine G_region ?_ | refine G_skip ?_ | refine G_block ?_ | refine G_end ?_ | refine G_true rfl ?_ | refine G_false rfl ?_))
  (refine G_retF rfl ?_)
  exact ⟨_, rfl, rfl, rfl⟩
instance : CallT Tryz.prog 200 := call_of Tryz.func200 (by kernel_rfl) (by kernel_rfl)
instance : InvT Tryz.prog 79 "Underlying" 200 := ⟨fun a w => by kernel_rfl⟩
theorem under_chan (a : Nat) (w : World) : Calls Tryz.prog 200 #[ptr a] w (Ret (Is (.iface 79 (ptr a)) w)) := by
  (refine calls_enter Tryz.func200 Tryz.ntmps200 rfl rfl ?_)
  (repeat (first | (refine cL ?_; first | (refine cL_move ?_; refine L_val R_move rfl rfl rfl ?_) | (refine cL_assign ?_; refine L_val R_assign rfl rfl rfl ?_) | (refine cL_makeInterface ?_; refine L_val R_mkI rfl rfl rfl ?_) | refine L_nil ?_) | refine G_seq ?_ | refine G_region ?_ | refine G_skip ?_ | refine G_block ?_ | refine G_end ?_ | refine G_true rfl ?_ | refine G_false rfl ?_))
  (refine G_retF rfl ?_)
  exact ⟨_, rfl, rfl, rfl⟩
instance : CallT Tryz.prog 202 := call_of Tryz.func202 (by kernel_rfl) (by kernel_rfl)
instance : InvT Tryz.prog 87 "Underlying" 202 := ⟨fun a w => by kernel_rfl⟩
theorem under_struct (a : Nat) (w : World) : Calls Tryz.prog 202 #[ptr a] w (Ret (Is (.iface 87 (ptr a)) w)) := by
  (refine calls_enter Tryz.func202 Tryz.ntmps202 rfl rfl ?_)
  (repeat (first | (refine cL ?_; first | (refine cL_move ?_; refine L_val R_move rfl rfl rfl ?_) | (refine cL_assign ?_; refine L_val R_assign rfl rfl rfl ?_) | (refine cL_makeInterface ?_; refine L_val R_mkI rfl rfl rfl ?_) | refine L_nil ?_) | refine G_seq ?_ | refine G_region ?_ | refine G_skip ?_ | refine G_block ?_ | refine G_end ?_ | refine G_true rfl ?_ | refine G_false rfl ?_))
  (refine G_retF rfl ?_)
  exact ⟨_, rfl, rfl, rfl⟩
instance : CallT Tryz.prog 203 := call_of Tryz.func203 (by kernel_rfl) (by kernel_rfl)
instance : InvT Tryz.prog 89 "Underlying" 203 := ⟨fun a w => by kernel_rfl⟩
theorem under_signature (a : Nat) (w : World) : Calls Tryz.prog 203 #[ptr a] w (Ret (Is (.iface 89 (ptr a)) w)) := by
  (refine calls_enter Tryz.func203 Tryz.ntmps203 rfl rfl ?_)
  (repeat (first | (refine cL ?_; first | (refine cL_move ?_; refine L_val R_move rfl rfl rfl ?_) | (refine cL_assign ?_; refine L_val R_assign rfl rfl rfl ?_) | (refine cL_makeInterface ?_; refine L_val R_mkI rfl rfl rfl ?_) | refine L_nil ?_) | refine G_seq ?_ | refine G_region ?_ | refine G_skip ?_ | refine G_block ?_ | refine G_end ?_ | refine G_true rfl ?_ | refine G_false rfl ?_))
  (refine G_retF rfl ?_)
  exact ⟨_, rfl, rfl, rfl⟩
instance : CallT Tryz.prog 183 := call_of Tryz.func183 (by kernel_rfl) (by kernel_rfl)
instance : InvT Tryz.prog 59 "Underlying" 183 := ⟨fun a w => by kernel_rfl⟩
theorem under_interface (a : Nat) (w : World) : Calls Tryz.prog 183 #[ptr a] w (Ret (Is (.iface 59 (ptr a)) w)) := by
  (refine calls_enter Tryz.func183 Tryz.ntmps183 rfl rfl ?_)
  (repeat (first | (refine cL ?_; first | (refine cL_move ?_; refine L_val R_move rfl rfl rfl ?_) | (refine cL_assign ?_; refine L_val R_assign rfl rfl rfl ?_) | (refine cL_makeInterface ?_; refine L_val R_mkI rfl rfl rfl ?_) | refine L_nil ?_) | refine G_seq ?_ | refine G_region ?_ | refine G_skip ?_ | refine G_block ?_ | refine G_end ?_ | refine G_true rfl ?_ | refine G_false rfl ?_))
  (refine G_retF rfl ?_)
  exact ⟨_, rfl, rfl, rfl⟩
end Go.Proofs.YtmmcjnfgcaefpaaGreatDoor

/-
  Type parameters: what the package lays.
-/
namespace Go.Proofs.YtmmcjnfgcaefpaaGreatDoor
set_option maxRecDepth 100000
set_option maxHeartbeats 4000000
attribute [local irreducible] Calls execOp

theorem allTermlist_any (w : World) : Calls Tryz.prog 73 #[] w (Ret fun r w' => ∃ p n c, r = .slice p n c ∧ Ext No w w') := by
  (refine calls_enter Tryz.func73 Tryz.ntmps73 rfl rfl ?_)
  (repeat (first | (refine cL ?_; first | (refine cL_assign ?_; refine L_val R_assign rfl rfl rfl ?_) | refine L_nil ?_) | refine G_seq ?_ | refine G_region ?_ | refine G_skip ?_ | refine G_block ?_ | refine G_end ?_ | refine G_true rfl ?_ | refine G_false rfl ?_))
  refine L_allocS rfl rfl fun b w1 hn => ?_
  refine L_buildSlice (vs := [ptr b]) rfl rfl rfl rfl rfl rfl fun bs ws hns => ?_
  (repeat (first | (refine cL ?_; first | (refine cL_assign ?_; refine L_val R_assign rfl rfl rfl ?_) | refine L_nil ?_) | refine G_seq ?_ | refine G_region ?_ | refine G_skip ?_ | refine G_block ?_ | refine G_end ?_ | refine G_true rfl ?_ | refine G_false rfl ?_))
  (refine G_retF rfl ?_)
  exact ⟨_, rfl, _, _, _, rfl, hn.ext.trans hns.ext⟩

theorem topTypeSet_any (w : World) : Calls Tryz.prog 40 #[] w (Ret fun r w' => ∃ b, r = ptr b ∧ Ext No w w') := by
  (refine calls_enter Tryz.func40 Tryz.ntmps40 rfl rfl ?_)
  (repeat (first | (refine cL ?_; first | (refine cL_assign ?_; refine L_val R_assign rfl rfl rfl ?_) | refine L_nil ?_) | refine G_seq ?_ | refine G_region ?_ | refine G_skip ?_ | refine G_block ?_ | refine G_end ?_ | refine G_true rfl ?_ | refine G_false rfl ?_))
  refine L_callR (xs := []) (allTermlist_any w) rfl rfl fun v w1 ⟨p, n, c, hv, hx⟩ => ?_
  subst hv
  (repeat (first | (refine cL ?_; first | (refine cL_assign ?_; refine L_val R_assign rfl rfl rfl ?_) | (refine cL_build ?_; refine L_val (R_build (cs := [.bool false, .slice none 0 0, .slice p n c, .bool false]) rfl) rfl rfl rfl ?_) | refine L_nil ?_) | refine G_seq ?_ | refine G_region ?_ | refine G_skip ?_ | refine G_block ?_ | refine G_end ?_ | refine G_true rfl ?_ | refine G_false rfl ?_))
  refine L_box rfl rfl rfl fun b w2 hn => ?_
  (repeat (first | (refine cL ?_; first | (refine cL_assign ?_; refine L_val R_assign rfl rfl rfl ?_) | refine L_nil ?_) | refine G_seq ?_ | refine G_region ?_ | refine G_skip ?_ | refine G_block ?_ | refine G_end ?_ | refine G_true rfl ?_ | refine G_false rfl ?_))
  (refine G_retF rfl ?_)
  exact ⟨_, rfl, b, rfl, hx.trans hn.ext⟩

def ifcCells (ts : Nat) : List Value := [.pointer none, .slice none 0 0, .slice none 0 0, .pointer none, .bool false, .bool true, ptr ts]
def IfcP (w : World) (r : Value) (w' : World) : Prop := ∃ b ts, r = ptr b ∧ Ext No w w' ∧ w.heap.size ≤ b ∧ w'.heap[b]? = some (Ob (ifcCells ts) 103)

theorem newInterface_any (w : World) : Calls Tryz.prog 21 #[.slice none 0 0, .slice none 0 0] w (Ret (IfcP w)) := by
  (refine calls_enter Tryz.func21 Tryz.ntmps21 rfl rfl ?_)
  (repeat (first | (refine cL ?_; first | (refine cL_guard ?_; refine L_unwanted rfl rfl rfl ?_) | (refine cL_move ?_; refine L_val R_move rfl rfl rfl ?_) | (refine cL_load ?_; first | refine L_val (R_loadB rfl (by assumption) (by rfl)) rfl rfl rfl ?_ | refine L_val (R_loadH (by assumption) rfl (by assumption) (by rfl)) rfl rfl rfl ?_) | (refine cL_fieldAddr ?_; refine L_val (R_fa rfl) rfl rfl rfl ?_) | (refine cL_nilCheck ?_; refine L_val (R_nil rfl) rfl rfl rfl ?_) | (refine cL_assign ?_; refine L_val R_assign rfl rfl rfl ?_) | (refine cL_typeAssert ?_; first | refine L_val (R_taY rfl) rfl rfl rfl ?_ | refine L_val (R_taN rfl rfl) rfl rfl rfl ?_ | refine L_val (R_taNil rfl) rfl rfl rfl ?_) | (refine cL_call ?_; refine L_val (R_len rfl) rfl rfl rfl ?_) | (refine cL_pick ?_; first | refine L_val (R_pickT rfl) rfl rfl rfl ?_ | refine L_val (R_pickF rfl) rfl rfl rfl ?_) | (refine cL_eql ?_; first | refine L_val (R_eqPN rfl rfl) rfl rfl rfl ?_ | refine L_val (R_eqI rfl rfl) rfl rfl rfl ?_ | refine L_val (R_eqB rfl rfl) rfl rfl rfl ?_ | refine L_val (R_eqIfN rfl rfl) rfl rfl rfl ?_ | refine L_val (R_eqIfNN rfl) rfl rfl rfl ?_) | (refine cL_lss ?_; refine L_val (R_ltI rfl rfl) rfl rfl rfl ?_) | (refine cL_makeInterface ?_; refine L_val R_mkI rfl rfl rfl ?_) | (refine cL_add ?_; refine L_val (R_addI rfl rfl) rfl rfl rfl ?_) | refine L_nil ?_) | refine G_seq ?_ | refine G_region ?_ | refine G_skip ?_ | refine G_block ?_ | refine G_end ?_ | refine G_true rfl ?_ | refine G_false rfl ?_))
  refine L_callR (xs := []) (topTypeSet_any w) rfl rfl fun v w1 ⟨ts, hv, hx⟩ => ?_
  subst hv
  (repeat (first | (refine cL ?_; first | (refine cL_guard ?_; refine L_unwanted rfl rfl rfl ?_) | (refine cL_move ?_; refine L_val R_move rfl rfl rfl ?_) | (refine cL_load ?_; first | refine L_val (R_loadB rfl (by assumption) (by rfl)) rfl rfl rfl ?_ | refine L_val (R_loadH (by assumption) rfl (by assumption) (by rfl)) rfl rfl rfl ?_) | (refine cL_fieldAddr ?_; refine L_val (R_fa rfl) rfl rfl rfl ?_) | (refine cL_nilCheck ?_; refine L_val (R_nil rfl) rfl rfl rfl ?_) | (refine cL_assign ?_; refine L_val R_assign rfl rfl rfl ?_) | (refine cL_typeAssert ?_; first | refine L_val (R_taY rfl) rfl rfl rfl ?_ | refine L_val (R_taN rfl rfl) rfl rfl rfl ?_ | refine L_val (R_taNil rfl) rfl rfl rfl ?_) | (refine cL_call ?_; refine L_val (R_len rfl) rfl rfl rfl ?_) | (refine cL_pick ?_; first | refine L_val (R_pickT rfl) rfl rfl rfl ?_ | refine L_val (R_pickF rfl) rfl rfl rfl ?_) | (refine cL_eql ?_; first | refine L_val (R_eqPN rfl rfl) rfl rfl rfl ?_ | refine L_val (R_eqI rfl rfl) rfl rfl rfl ?_ | refine L_val (R_eqB rfl rfl) rfl rfl rfl ?_ | refine L_val (R_eqIfN rfl rfl) rfl rfl rfl ?_ | refine L_val (R_eqIfNN rfl) rfl rfl rfl ?_) | (refine cL_lss ?_; refine L_val (R_ltI rfl rfl) rfl rfl rfl ?_) | (refine cL_makeInterface ?_; refine L_val R_mkI rfl rfl rfl ?_) | (refine cL_add ?_; refine L_val (R_addI rfl rfl) rfl rfl rfl ?_) | (refine cL_build ?_; refine L_val (R_build (cs := ifcCells ts) rfl) rfl rfl rfl ?_) | refine L_nil ?_) | refine G_seq ?_ | refine G_region ?_ | refine G_skip ?_ | refine G_block ?_ | refine G_end ?_ | refine G_true rfl ?_ | refine G_false rfl ?_))
  refine L_box rfl rfl rfl fun b w2 hn => ?_
  (repeat (first | (refine cL ?_; first | (refine cL_guard ?_; refine L_unwanted rfl rfl rfl ?_) | (refine cL_move ?_; refine L_val R_move rfl rfl rfl ?_) | (refine cL_load ?_; first | refine L_val (R_loadB rfl (by assumption) (by rfl)) rfl rfl rfl ?_ | refine L_val (R_loadH (by assumption) rfl (by assumption) (by rfl)) rfl rfl rfl ?_) | (refine cL_fieldAddr ?_; refine L_val (R_fa rfl) rfl rfl rfl ?_) | (refine cL_nilCheck ?_; refine L_val (R_nil rfl) rfl rfl rfl ?_) | (refine cL_assign ?_; refine L_val R_assign rfl rfl rfl ?_) | (refine cL_typeAssert ?_; first | refine L_val (R_taY rfl) rfl rfl rfl ?_ | refine L_val (R_taN rfl rfl) rfl rfl rfl ?_ | refine L_val (R_taNil rfl) rfl rfl rfl ?_) | (refine cL_call ?_; refine L_val (R_len rfl) rfl rfl rfl ?_) | (refine cL_pick ?_; first | refine L_val (R_pickT rfl) rfl rfl rfl ?_ | refine L_val (R_pickF rfl) rfl rfl rfl ?_) | (refine cL_eql ?_; first | refine L_val (R_eqPN rfl rfl) rfl rfl rfl ?_ | refine L_val (R_eqI rfl rfl) rfl rfl rfl ?_ | refine L_val (R_eqB rfl rfl) rfl rfl rfl ?_ | refine L_val (R_eqIfN rfl rfl) rfl rfl rfl ?_ | refine L_val (R_eqIfNN rfl) rfl rfl rfl ?_) | (refine cL_lss ?_; refine L_val (R_ltI rfl rfl) rfl rfl rfl ?_) | (refine cL_makeInterface ?_; refine L_val R_mkI rfl rfl rfl ?_) | (refine cL_add ?_; refine L_val (R_addI rfl rfl) rfl rfl rfl ?_) | refine L_nil ?_) | refine G_seq ?_ | refine G_region ?_ | refine G_skip ?_ | refine G_block ?_ | refine G_end ?_ | refine G_true rfl ?_ | refine G_false rfl ?_))
  (refine G_retF rfl ?_)
  refine ⟨_, rfl, b, ts, rfl, hx.trans hn.ext, ?_, hn.here⟩
  rw [hn.fresh]
  exact hx.size

theorem typeSet_any {b ts : Nat} (w : World) (hb : w.heap[b]? = some (Ob (ifcCells ts) 103)) : Calls Tryz.prog 76 #[.pointer none, .int .i64 0, ptr b] w (Ret (Is (ptr ts) w)) := by
  unfold ifcCells at hb
  (refine calls_enter Tryz.func76 Tryz.ntmps76 rfl rfl ?_)
  (repeat (first | (refine cL ?_; first | (refine cL_move ?_; refine L_val R_move rfl rfl rfl ?_) | (refine cL_load ?_; first | refine L_val (R_loadB rfl (by assumption) (by rfl)) rfl rfl rfl ?_ | refine L_val (R_loadH (by assumption) rfl (by assumption) (by rfl)) rfl rfl rfl ?_) | (refine cL_fieldAddr ?_; refine L_val (R_fa rfl) rfl rfl rfl ?_) | (refine cL_nilCheck ?_; refine L_val (R_nil rfl) rfl rfl rfl ?_) | (refine cL_assign ?_; refine L_val R_assign rfl rfl rfl ?_) | (refine cL_extract ?_; refine L_val (R_extract rfl rfl) rfl rfl rfl ?_) | (refine cL_typeAssert ?_; first | refine L_val (R_taY rfl) rfl rfl rfl ?_ | refine L_val (R_taN rfl rfl) rfl rfl rfl ?_ | refine L_val (R_taNil rfl) rfl rfl rfl ?_) | (refine cL_call ?_; refine L_val (R_len rfl) rfl rfl rfl ?_) | (refine cL_eql ?_; first | refine L_val (R_eqPN rfl rfl) rfl rfl rfl ?_ | refine L_val (R_eqI rfl rfl) rfl rfl rfl ?_ | refine L_val (R_eqB rfl rfl) rfl rfl rfl ?_ | refine L_val (R_eqIfN rfl rfl) rfl rfl rfl ?_ | refine L_val (R_eqIfNN rfl) rfl rfl rfl ?_) | (refine cL_neq ?_; first | refine L_val (R_nePN rfl rfl) rfl rfl rfl ?_ | refine L_val (R_neI rfl rfl) rfl rfl rfl ?_ | refine L_val (R_neB rfl rfl) rfl rfl rfl ?_ | refine L_val (R_neIfN rfl rfl) rfl rfl rfl ?_ | refine L_val (R_neIfNN rfl) rfl rfl rfl ?_) | (refine cL_lss ?_; refine L_val (R_ltI rfl rfl) rfl rfl rfl ?_) | (refine cL_not ?_; refine L_val (R_not rfl) rfl rfl rfl ?_) | (refine cL_add ?_; refine L_val (R_addI rfl rfl) rfl rfl rfl ?_) | refine L_nil ?_) | refine G_seq ?_ | refine G_region ?_ | refine G_skip ?_ | refine G_block ?_ | refine G_end ?_ | refine G_true rfl ?_ | refine G_false rfl ?_))
  (refine G_retF rfl ?_)
  exact ⟨_, rfl, rfl, rfl⟩
theorem typeSetM_any {b ts : Nat} (w : World) (hb : w.heap[b]? = some (Ob (ifcCells ts) 103)) : Calls Tryz.prog 44 #[ptr b] w (Ret (Is (ptr ts) w)) := by
  have hb' := hb
  unfold ifcCells at hb
  (refine calls_enter Tryz.func44 Tryz.ntmps44 rfl rfl ?_)
  (repeat (first | (refine cL ?_; first | (refine cL_move ?_; refine L_val R_move rfl rfl rfl ?_) | (refine cL_load ?_; first | refine L_val (R_loadB rfl (by assumption) (by rfl)) rfl rfl rfl ?_ | refine L_val (R_loadH (by assumption) rfl (by assumption) (by rfl)) rfl rfl rfl ?_) | (refine cL_fieldAddr ?_; refine L_val (R_fa rfl) rfl rfl rfl ?_) | (refine cL_nilCheck ?_; refine L_val (R_nil rfl) rfl rfl rfl ?_) | (refine cL_assign ?_; refine L_val R_assign rfl rfl rfl ?_) | (refine cL_call ?_; refine L_callI (typeSet_any w hb') rfl rfl ?_) | refine L_nil ?_) | refine G_seq ?_ | refine G_region ?_ | refine G_skip ?_ | refine G_block ?_ | refine G_end ?_ | refine G_true rfl ?_ | refine G_false rfl ?_))
  (refine G_retF rfl ?_)
  exact ⟨_, rfl, rfl, rfl⟩
theorem complete_any {b ts : Nat} (w : World) (hb : w.heap[b]? = some (Ob (ifcCells ts) 103)) : Calls Tryz.prog 22 #[ptr b] w (Ret (Is (ptr b) w)) := by
  have hb' := hb
  unfold ifcCells at hb
  (refine calls_enter Tryz.func22 Tryz.ntmps22 rfl rfl ?_)
  (repeat (first | (refine cL ?_; first | (refine cL_move ?_; refine L_val R_move rfl rfl rfl ?_) | (refine cL_load ?_; first | refine L_val (R_loadB rfl (by assumption) (by rfl)) rfl rfl rfl ?_ | refine L_val (R_loadH (by assumption) rfl (by assumption) (by rfl)) rfl rfl rfl ?_) | (refine cL_fieldAddr ?_; refine L_val (R_fa rfl) rfl rfl rfl ?_) | (refine cL_nilCheck ?_; refine L_val (R_nil rfl) rfl rfl rfl ?_) | (refine cL_assign ?_; refine L_val R_assign rfl rfl rfl ?_) | (refine cL_call ?_; refine L_callI (typeSetM_any w hb') rfl rfl ?_) | (refine cL_not ?_; refine L_val (R_not rfl) rfl rfl rfl ?_) | refine L_nil ?_) | refine G_seq ?_ | refine G_region ?_ | refine G_skip ?_ | refine G_block ?_ | refine G_end ?_ | refine G_true rfl ?_ | refine G_false rfl ?_))
  (refine G_retF rfl ?_)
  exact ⟨_, rfl, rfl, rfl⟩

theorem isTypeParam_no (T : Nat) (v : Value) (w : World) (hT : Nat.beq T 211 = false) (hN : Nat.beq T 55 = false) :
    Calls Tryz.prog 86 #[.iface T v] w (Ret (Is (.bool false) w)) := by
  (refine calls_enter Tryz.func86 Tryz.ntmps86 rfl rfl ?_)
  (repeat (first | (refine cL ?_; first | (refine cL_move ?_; refine L_val R_move rfl rfl rfl ?_) | (refine cL_assign ?_; refine L_val R_assign rfl rfl rfl ?_) | (refine cL_extract ?_; refine L_val (R_extract rfl rfl) rfl rfl rfl ?_) | (refine cL_typeAssert ?_; first | refine L_val (R_taN rfl hN) rfl rfl rfl ?_ | refine L_val (R_taY rfl) rfl rfl rfl ?_ | refine L_val (R_taN rfl rfl) rfl rfl rfl ?_ | refine L_val (R_taNil rfl) rfl rfl rfl ?_) | (refine cL_call ?_; refine L_callI (unalias_any T v _ hT) rfl rfl ?_) | refine L_nil ?_) | refine G_seq ?_ | refine G_region ?_ | refine G_skip ?_ | refine G_block ?_ | refine G_end ?_ | refine G_true rfl ?_ | refine G_false rfl ?_))
  (refine G_retF rfl ?_)
  exact ⟨_, rfl, rfl, rfl⟩

theorem iface_any {t o b ts : Nat} (w : World) (ht : w.heap[t]? = some (Ob [.pointer none, .int .u64 0, ptr o, .int .i64 (-1), .iface 59 (ptr b)] 203)) (hb : w.heap[b]? = some (Ob (ifcCells ts) 103)) :
    Calls Tryz.prog 72 #[ptr t] w (Ret (Is (ptr b) w)) := by
  unfold ifcCells at hb
  (refine calls_enter Tryz.func72 Tryz.ntmps72 rfl rfl ?_)
  (repeat (first | (refine cL ?_; first | (refine cL_move ?_; refine L_val R_move rfl rfl rfl ?_) | (refine cL_load ?_; first | refine L_val (R_loadB rfl (by assumption) (by rfl)) rfl rfl rfl ?_ | refine L_val (R_loadH (by assumption) rfl (by assumption) (by rfl)) rfl rfl rfl ?_) | (refine cL_fieldAddr ?_; refine L_val (R_fa rfl) rfl rfl rfl ?_) | (refine cL_nilCheck ?_; refine L_val (R_nil rfl) rfl rfl rfl ?_) | (refine cL_assign ?_; refine L_val R_assign rfl rfl rfl ?_) | (refine cL_extract ?_; refine L_val (R_extract rfl rfl) rfl rfl rfl ?_) | (refine cL_typeAssert ?_; first | refine L_val (R_taY rfl) rfl rfl rfl ?_ | refine L_val (R_taN rfl rfl) rfl rfl rfl ?_ | refine L_val (R_taNil rfl) rfl rfl rfl ?_) | (refine cL_call ?_; first | refine L_invokeI rfl (under_interface b w) rfl rfl ?_ | refine L_callI (isTypeParam_no _ _ _ rfl rfl) rfl rfl ?_) | (refine cL_eql ?_; first | refine L_val (R_eqPN rfl rfl) rfl rfl rfl ?_ | refine L_val (R_eqI rfl rfl) rfl rfl rfl ?_ | refine L_val (R_eqB rfl rfl) rfl rfl rfl ?_ | refine L_val (R_eqIfN rfl rfl) rfl rfl rfl ?_ | refine L_val (R_eqIfNN rfl) rfl rfl rfl ?_) | (refine cL_neq ?_; first | refine L_val (R_nePN rfl rfl) rfl rfl rfl ?_ | refine L_val (R_neI rfl rfl) rfl rfl rfl ?_ | refine L_val (R_neB rfl rfl) rfl rfl rfl ?_ | refine L_val (R_neIfN rfl rfl) rfl rfl rfl ?_ | refine L_val (R_neIfNN rfl) rfl rfl rfl ?_) | (refine cL_makeInterface ?_; refine L_val R_mkI rfl rfl rfl ?_) | (refine cL_not ?_; refine L_val (R_not rfl) rfl rfl rfl ?_) | refine L_nil ?_) | refine G_seq ?_ | refine G_region ?_ | refine G_skip ?_ | refine G_block ?_ | refine G_end ?_ | refine G_true rfl ?_ | refine G_false rfl ?_))
  (refine G_retF rfl ?_)
  exact ⟨_, rfl, rfl, rfl⟩

def TParP (o b : Nat) (w : World) (r : Value) (w' : World) : Prop :=
  ∃ t, r = ptr t ∧ Ext (fun k => k = o) w w' ∧ w.heap.size ≤ t ∧ w'.heap[t]? = some (Ob [.pointer none, .int .u64 0, ptr o, .int .i64 (-1), .iface 59 (ptr b)] 203) ∧ ∃ x y z u, w'.heap[o]? = some (Ob [x, y, z, u] 196)

theorem nextID_any (w : World) : Calls Tryz.prog 71 #[] w (Ret (Is (.int .u64 0) w)) := by
  (refine calls_enter Tryz.func71 Tryz.ntmps71 rfl rfl ?_)
  (repeat (first | (refine cL ?_; first | (refine cL_assign ?_; refine L_val R_assign rfl rfl rfl ?_) | refine L_nil ?_) | refine G_seq ?_ | refine G_region ?_ | refine G_skip ?_ | refine G_block ?_ | refine G_end ?_ | refine G_true rfl ?_ | refine G_false rfl ?_))
  (refine G_retF rfl ?_)
  exact ⟨_, rfl, rfl, rfl⟩

theorem newTypeParam_any {o b ts : Nat} {n : Int} {pk : Option Addr} {s : ByteArray} (w : World) (ho : w.heap[o]? = some (Ob [.int .i64 n, .pointer pk, .string s, .nilIface] 196)) (hb : w.heap[b]? = some (Ob (ifcCells ts) 103)) (hne : b ≠ o) :
    Calls Tryz.prog 38 #[.pointer none, ptr o, .iface 59 (ptr b)] w (Ret (TParP o b w)) := by
  (refine calls_enter Tryz.func38 Tryz.ntmps38 rfl rfl ?_)
  (repeat (first | (refine cL ?_; first | (refine cL_move ?_; refine L_val R_move rfl rfl rfl ?_) | (refine cL_load ?_; first | refine L_val (R_loadB rfl (by assumption) (by rfl)) rfl rfl rfl ?_ | refine L_val (R_loadH (by assumption) rfl (by assumption) (by rfl)) rfl rfl rfl ?_) | (refine cL_fieldAddr ?_; refine L_val (R_fa rfl) rfl rfl rfl ?_) | (refine cL_nilCheck ?_; refine L_val (R_nil rfl) rfl rfl rfl ?_) | (refine cL_assign ?_; refine L_val R_assign rfl rfl rfl ?_) | (refine cL_call ?_; refine L_callI (xs := []) (nextID_any w) rfl rfl ?_) | (refine cL_eql ?_; first | refine L_val (R_eqPN rfl rfl) rfl rfl rfl ?_ | refine L_val (R_eqI rfl rfl) rfl rfl rfl ?_ | refine L_val (R_eqB rfl rfl) rfl rfl rfl ?_ | refine L_val (R_eqIfN rfl rfl) rfl rfl rfl ?_ | refine L_val (R_eqIfNN rfl) rfl rfl rfl ?_) | (refine cL_neq ?_; first | refine L_val (R_nePN rfl rfl) rfl rfl rfl ?_ | refine L_val (R_neI rfl rfl) rfl rfl rfl ?_ | refine L_val (R_neB rfl rfl) rfl rfl rfl ?_ | refine L_val (R_neIfN rfl rfl) rfl rfl rfl ?_ | refine L_val (R_neIfNN rfl) rfl rfl rfl ?_) | (refine cL_makeInterface ?_; refine L_val R_mkI rfl rfl rfl ?_) | (refine cL_build ?_; refine L_val (R_build (cs := [.pointer none, .int .u64 0, ptr o, .int .i64 (-1), .iface 59 (ptr b)]) rfl) rfl rfl rfl ?_) | refine L_nil ?_) | refine G_seq ?_ | refine G_region ?_ | refine G_skip ?_ | refine G_block ?_ | refine G_end ?_ | refine G_true rfl ?_ | refine G_false rfl ?_))
  refine L_box rfl rfl rfl fun t w1 hn => ?_
  have ho1 := hn.ext.heap (fun h => h) ho
  have hb1 := hn.ext.heap (fun h => h) hb
  have hto : t ≠ o := by have := lt_of_heap ho; have := hn.fresh; omega
  (repeat (first | (refine cL ?_; first | (refine cL_move ?_; refine L_val R_move rfl rfl rfl ?_) | (refine cL_load ?_; first | refine L_val (R_loadB rfl (by assumption) (by rfl)) rfl rfl rfl ?_ | refine L_val (R_loadH (by assumption) rfl (by assumption) (by rfl)) rfl rfl rfl ?_) | (refine cL_fieldAddr ?_; refine L_val (R_fa rfl) rfl rfl rfl ?_) | (refine cL_nilCheck ?_; refine L_val (R_nil rfl) rfl rfl rfl ?_) | (refine cL_assign ?_; refine L_val R_assign rfl rfl rfl ?_) | (refine cL_eql ?_; first | refine L_val (R_eqPN rfl rfl) rfl rfl rfl ?_ | refine L_val (R_eqI rfl rfl) rfl rfl rfl ?_ | refine L_val (R_eqB rfl rfl) rfl rfl rfl ?_ | refine L_val (R_eqIfN rfl rfl) rfl rfl rfl ?_ | refine L_val (R_eqIfNN rfl) rfl rfl rfl ?_) | (refine cL_neq ?_; first | refine L_val (R_nePN rfl rfl) rfl rfl rfl ?_ | refine L_val (R_neI rfl rfl) rfl rfl rfl ?_ | refine L_val (R_neB rfl rfl) rfl rfl rfl ?_ | refine L_val (R_neIfN rfl rfl) rfl rfl rfl ?_ | refine L_val (R_neIfNN rfl) rfl rfl rfl ?_) | (refine cL_makeInterface ?_; refine L_val R_mkI rfl rfl rfl ?_) | refine L_nil ?_) | refine G_seq ?_ | refine G_region ?_ | refine G_skip ?_ | refine G_block ?_ | refine G_end ?_ | refine G_true rfl ?_ | refine G_false rfl ?_))
  refine L_store rfl ho1 rfl rfl rfl fun w2 h2 e2 s2 => ?_
  have ht2 := e2.heap (fun h => hto h) hn.here
  have hb2 := e2.heap (fun h => hne h) hb1
  (repeat (first | (refine cL ?_; first | (refine cL_move ?_; refine L_val R_move rfl rfl rfl ?_) | (refine cL_load ?_; first | refine L_val (R_loadB rfl (by assumption) (by rfl)) rfl rfl rfl ?_ | refine L_val (R_loadH (by assumption) rfl (by assumption) (by rfl)) rfl rfl rfl ?_) | (refine cL_fieldAddr ?_; refine L_val (R_fa rfl) rfl rfl rfl ?_) | (refine cL_nilCheck ?_; refine L_val (R_nil rfl) rfl rfl rfl ?_) | (refine cL_assign ?_; refine L_val R_assign rfl rfl rfl ?_) | (refine cL_call ?_; refine L_callI (iface_any w2 ht2 hb2) rfl rfl ?_) | (refine cL_eql ?_; first | refine L_val (R_eqPN rfl rfl) rfl rfl rfl ?_ | refine L_val (R_eqI rfl rfl) rfl rfl rfl ?_ | refine L_val (R_eqB rfl rfl) rfl rfl rfl ?_ | refine L_val (R_eqIfN rfl rfl) rfl rfl rfl ?_ | refine L_val (R_eqIfNN rfl) rfl rfl rfl ?_) | (refine cL_neq ?_; first | refine L_val (R_nePN rfl rfl) rfl rfl rfl ?_ | refine L_val (R_neI rfl rfl) rfl rfl rfl ?_ | refine L_val (R_neB rfl rfl) rfl rfl rfl ?_ | refine L_val (R_neIfN rfl rfl) rfl rfl rfl ?_ | refine L_val (R_neIfNN rfl) rfl rfl rfl ?_) | (refine cL_makeInterface ?_; refine L_val R_mkI rfl rfl rfl ?_) | refine L_nil ?_) | refine G_seq ?_ | refine G_region ?_ | refine G_skip ?_ | refine G_block ?_ | refine G_end ?_ | refine G_true rfl ?_ | refine G_false rfl ?_))
  (refine G_retF rfl ?_)
  refine ⟨_, rfl, t, rfl, hn.ext.of_no.trans e2, ?_, ht2, _, _, _, _, h2⟩
  rw [hn.fresh]
  exact Nat.le_refl _

theorem newTP_any {o b ts : Nat} {n : Int} {pk : Option Addr} {s : ByteArray} (w : World) (ho : w.heap[o]? = some (Ob [.int .i64 n, .pointer pk, .string s, .nilIface] 196)) (hb : w.heap[b]? = some (Ob (ifcCells ts) 103)) (hne : b ≠ o) :
    Calls Tryz.prog 19 #[ptr o, .iface 59 (ptr b)] w (Ret (TParP o b w)) := by
  (refine calls_enter Tryz.func19 Tryz.ntmps19 rfl rfl ?_)
  (repeat (first | (refine cL ?_; first | (refine cL_move ?_; refine L_val R_move rfl rfl rfl ?_) | (refine cL_assign ?_; refine L_val R_assign rfl rfl rfl ?_) | refine L_nil ?_) | refine G_seq ?_ | refine G_region ?_ | refine G_skip ?_ | refine G_block ?_ | refine G_end ?_ | refine G_true rfl ?_ | refine G_false rfl ?_))
  refine L_callR (newTypeParam_any w ho hb hne) rfl rfl fun v w1 h1 => ?_
  obtain ⟨t, hv, h2⟩ := h1
  subst hv
  (repeat (first | (refine cL ?_; first | (refine cL_move ?_; refine L_val R_move rfl rfl rfl ?_) | (refine cL_assign ?_; refine L_val R_assign rfl rfl rfl ?_) | refine L_nil ?_) | refine G_seq ?_ | refine G_region ?_ | refine G_skip ?_ | refine G_block ?_ | refine G_end ?_ | refine G_true rfl ?_ | refine G_false rfl ?_))
  (refine G_retF rfl ?_)
  exact ⟨_, rfl, t, rfl, h2⟩
end Go.Proofs.YtmmcjnfgcaefpaaGreatDoor

/-
  The numbers under which the program holds package sync's lock, checked by the kernel; and an atomic 'or'.
-/
namespace Go.Proofs.YtmmcjnfgcaefpaaGreatDoor
set_option maxRecDepth 100000
set_option maxHeartbeats 4000000

abbrev muLink : Go.Conc.Locks.MuLink := { lock := 77, unlock := 78, ilock := 99, iunlock := 100, lockSlow := 127, unlockSlow := 130, disable := 123, enable := 125, acquire := 126, relMerge := 128, cas32 := 124, add32 := 129, tMutex := 122, tIMutex := 120, tPMutex := 246, tPIMutex := 271, tPI32 := 273, tUP := 275, tNoCopy := 117, tU32 := 118 }
theorem muLib : Go.Conc.Locks.MuLib Tryz.prog muLink := by
  constructor <;> first | kernel_rfl | (intro w; kernel_rfl)

theorem run_call_or {P : Program} {f : FuncId} {fn : Func} (hf : P.funcs[f]? = some fn) (hname : (fn.name == "runtime.NumGoroutine") = false) (hb : fn.body.isNone = true) (hn : Extern.findNext fn = none) (k : IntKind)
    (he : Extern.find fn = some (Extern.Atomic.update (Op.intBits .or) k false)) {a : Addr} {x y s : Int} {w : World} (hc : w.cell? a = some (.int k x)) (hz : w.frozen? a = false)
    (hs : (Op.intBits .or k x y).run P w = .ok (.int k s) w) :
    (callFunc f #[.pointer (some a), .int k y]).run P w = .ok (.value (.int k x)) (w.setCell a (.int k s)) := by
  rw [run_callFunc_extern hf hname hb hn he]
  change (Sem.run P (do
    let a' ← asAddr (.pointer (some a))
    let old ← Extern.Atomic.read (.int k) a'
    let new ← Op.intBits .or k (← asInt old) (← asInt (.int k y))
    store a' new .atomic
    pure (if false = true then new else old)) w).andThen _ = _
  simp [Extern.Atomic.read, asAddr, asInt, asIntOf, hc, hz, hs, run_store P w a (.int k s) .atomic rfl, Result.andThen]

theorem L_orU {n : Nat} {ops rest : List Oper} {K : LK} {f : Fm} {ds : List Deferred} {d : Nat} {ty : TypeId} {pos : String} {aft : Array Edge} {g : Option (Nat × Bool)} {w : World} {x y : Operand} {ts : Array TypeId} {b i : Nat} {cs : List Value} {T : TypeId} {m c s : Int}
    (hx : ev f x = .pointer (some ⟨b, i, none⟩)) (hy : ev f y = .int .u32 c) (hb : w.heap[b]? = some (Ob cs T)) (hv : lget cs i = some (.int .u32 m)) (hs : ∀ w, (Op.intBits .or .u32 m c).run Tryz.prog w = .ok (.int .u32 s) w)
    (hw : wantd ops f ⟨some d, .call ⟨.value (.func 101), #[x, y], ts⟩, ty, pos, aft, g⟩ = true) (hn : Nat.blt d n = true)
    (h : ∀ w', w'.heap[b]? = some (Ob (lset cs i (.int .u32 s)) T) → Ext (fun k => k = b) w w' → w'.heap.size = w.heap.size → L Tryz.prog n ops K rest (upd f d (.int .u32 m)) ds w') :
    L Tryz.prog n ops K (⟨some d, .call ⟨.value (.func 101), #[x, y], ts⟩, ty, pos, aft, g⟩ :: rest) f ds w := by
  have hc : w.cell? ⟨b, i, none⟩ = some (.int .u32 m) := by
    rw [lget_eq] at hv
    simp [World.cell?, hb, Ob]
    exact hv
  have hr := run_call_or (P := Tryz.prog) Tryz.func101 (by kernel_rfl) (by kernel_rfl) (by kernel_rfl) .u32 (by kernel_rfl) hc (frozen_ob hb) (hs w)
  refine L_val (v := .int .u32 m) (w' := w.setCell ⟨b, i, none⟩ (.int .u32 s)) ?_ hw rfl hn (h _ (heap_setCell hb) (Ext.setCell w ⟨b, i, none⟩ (.int .u32 s) rfl) (by simp))
  simp only [execOp, resolve, ev, Deferred.ofValue, Sem.run_bind, Sem.run_pure, Result.andThen_ok, invoke]
  simp [hx, hy, hr]
end Go.Proofs.YtmmcjnfgcaefpaaGreatDoor

/-
  Defined types: what the package lays, and how an underlying type is set under the lock.
-/
namespace Go.Proofs.YtmmcjnfgcaefpaaGreatDoor
set_option maxRecDepth 100000
set_option maxHeartbeats 4000000
attribute [local irreducible] Calls execOp

instance : CallT Tryz.prog 78 := call_of Tryz.func78 (by kernel_rfl) (by kernel_rfl)

theorem setState_any {a : Nat} {cs : List Value} {m c s : Int} (w : World) (hb : w.heap[a]? = some (Ob cs 124)) (hv : lget cs 6 = some (.int .u32 m)) (hs : ∀ w, (Op.intBits .or .u32 m c).run Tryz.prog w = .ok (.int .u32 s) w) :
    Calls Tryz.prog 79 #[ptr a, .int .u32 c] w (Ret fun r w' => r = .tuple #[] ∧ w'.heap[a]? = some (Ob (lset cs 6 (.int .u32 s)) 124) ∧ Ext (fun k => k = a) w w' ∧ w'.heap.size = w.heap.size) := by
  (refine calls_enter Tryz.func79 Tryz.ntmps79 rfl rfl ?_)
  (repeat (first | (refine cL ?_; first | (refine cL_move ?_; refine L_val R_move rfl rfl rfl ?_) | (refine cL_fieldAddr ?_; refine L_val (R_fa rfl) rfl rfl rfl ?_) | (refine cL_nilCheck ?_; refine L_val (R_nil rfl) rfl rfl rfl ?_) | refine L_nil ?_) | refine G_seq ?_ | refine G_region ?_ | refine G_skip ?_ | refine G_block ?_ | refine G_end ?_ | refine G_true rfl ?_ | refine G_false rfl ?_))
  refine L_orU rfl rfl hb hv hs rfl rfl fun w1 h1 e1 s1 => ?_
  (repeat (first | (refine cL ?_; first | (refine cL_move ?_; refine L_val R_move rfl rfl rfl ?_) | (refine cL_fieldAddr ?_; refine L_val (R_fa rfl) rfl rfl rfl ?_) | (refine cL_nilCheck ?_; refine L_val (R_nil rfl) rfl rfl rfl ?_) | refine L_nil ?_) | refine G_seq ?_ | refine G_region ?_ | refine G_skip ?_ | refine G_block ?_ | refine G_end ?_ | refine G_true rfl ?_ | refine G_false rfl ?_))
  refine G_end0 rfl ?_
  exact ⟨_, rfl, rfl, h1, e1, s1⟩

theorem asNamed_nil (w : World) : Calls Tryz.prog 45 #[.nilIface] w (Ret (Is (.pointer none) w)) := by
  have hu : Calls Tryz.prog 48 #[.nilIface] w (Ret (Is .nilIface w)) := by
    (refine calls_enter Tryz.func48 Tryz.ntmps48 rfl rfl ?_)
    (repeat (first | (refine cL ?_; first | (refine cL_move ?_; refine L_val R_move rfl rfl rfl ?_) | (refine cL_assign ?_; refine L_val R_assign rfl rfl rfl ?_) | (refine cL_extract ?_; refine L_val (R_extract rfl rfl) rfl rfl rfl ?_) | (refine cL_typeAssert ?_; first | refine L_val (R_taY rfl) rfl rfl rfl ?_ | refine L_val (R_taN rfl rfl) rfl rfl rfl ?_ | refine L_val (R_taNil rfl) rfl rfl rfl ?_) | (refine cL_neq ?_; first | refine L_val (R_nePN rfl rfl) rfl rfl rfl ?_ | refine L_val (R_neI rfl rfl) rfl rfl rfl ?_ | refine L_val (R_neB rfl rfl) rfl rfl rfl ?_ | refine L_val (R_neIfN rfl rfl) rfl rfl rfl ?_ | refine L_val (R_neIfNN rfl) rfl rfl rfl ?_) | refine L_nil ?_) | refine G_seq ?_ | refine G_region ?_ | refine G_skip ?_ | refine G_block ?_ | refine G_end ?_ | refine G_true rfl ?_ | refine G_false rfl ?_))
    (refine G_retF rfl ?_)
    exact ⟨_, rfl, rfl, rfl⟩
  (refine calls_enter Tryz.func45 Tryz.ntmps45 rfl rfl ?_)
  (repeat (first | (refine cL ?_; first | (refine cL_move ?_; refine L_val R_move rfl rfl rfl ?_) | (refine cL_assign ?_; refine L_val R_assign rfl rfl rfl ?_) | (refine cL_extract ?_; refine L_val (R_extract rfl rfl) rfl rfl rfl ?_) | (refine cL_typeAssert ?_; first | refine L_val (R_taY rfl) rfl rfl rfl ?_ | refine L_val (R_taN rfl rfl) rfl rfl rfl ?_ | refine L_val (R_taNil rfl) rfl rfl rfl ?_) | (refine cL_call ?_; refine L_callI hu rfl rfl ?_) | refine L_nil ?_) | refine G_seq ?_ | refine G_region ?_ | refine G_skip ?_ | refine G_block ?_ | refine G_end ?_ | refine G_true rfl ?_ | refine G_false rfl ?_))
  (refine G_retF rfl ?_)
  exact ⟨_, rfl, rfl, rfl⟩

theorem lit_notNamed {T : Nat} (h : litT T = true) : Nat.beq T 211 = false ∧ Nat.beq T 63 = false := by
  simp only [litT, Bool.or_eq_true] at h
  rcases h with ((((((h | h) | h) | h) | h) | h) | h) | h <;> (have := Nat.eq_of_beq_eq_true h; subst this; exact ⟨rfl, rfl⟩)

def rawCells (o : Nat) (nl : Bool) (inst m2 fr und vz me : Value) (m1 st : Int) : List Value := [.pointer none, ptr o, .bool nl, inst, .int .i32 m1, m2, .int .u32 st, fr, und, vz, me]

theorem setUnderlying_any {a o T b : Nat} {nl : Bool} {inst m2 fr und vz me : Value} (w : World) (hb : w.heap[a]? = some (Ob (rawCells o nl inst m2 fr und vz me 0 0) 124)) (hT : litT T = true) :
    Calls Tryz.prog 47 #[ptr a, .iface T (ptr b)] w (Ret fun r w' => r = .tuple #[] ∧ w'.heap[a]? = some (Ob (rawCells o false inst m2 (.iface T (ptr b)) (.iface T (ptr b)) vz me 0 15) 124) ∧ Ext (fun k => k = a) w w' ∧ w'.heap.size = w.heap.size) := by
  obtain ⟨hA, hN⟩ := lit_notNamed hT
  unfold rawCells at hb
  have hc4 : w.cell? ⟨a, 4, none⟩ = some (.int .i32 0) := by simp [World.cell?, hb, Ob]
  have hlock := Go.MuLone.lock_free muLib ⟨a, 4, none⟩ w hc4 (frozen_ob hb)
  (refine calls_enter_d Tryz.func47 Tryz.ntmps47 rfl rfl ?_)
  (repeat (first | (refine cL ?_; first | (refine cL_move ?_; refine L_val R_move rfl rfl rfl ?_) | (refine cL_fieldAddr ?_; refine L_val (R_fa rfl) rfl rfl rfl ?_) | (refine cL_nilCheck ?_; refine L_val (R_nil rfl) rfl rfl rfl ?_) | (refine cL_call ?_; refine L_callI (asNamed_no _ _ _ hA hN) rfl rfl ?_) | (refine cL_eql ?_; first | refine L_val (R_eqPN rfl rfl) rfl rfl rfl ?_ | refine L_val (R_eqI rfl rfl) rfl rfl rfl ?_ | refine L_val (R_eqB rfl rfl) rfl rfl rfl ?_ | refine L_val (R_eqIfN rfl rfl) rfl rfl rfl ?_ | refine L_val (R_eqIfNN rfl) rfl rfl rfl ?_) | (refine cL_neq ?_; first | refine L_val (R_nePN rfl rfl) rfl rfl rfl ?_ | refine L_val (R_neI rfl rfl) rfl rfl rfl ?_ | refine L_val (R_neB rfl rfl) rfl rfl rfl ?_ | refine L_val (R_neIfN rfl rfl) rfl rfl rfl ?_ | refine L_val (R_neIfNN rfl) rfl rfl rfl ?_) | (refine cL_makeInterface ?_; refine L_val R_mkI rfl rfl rfl ?_) | refine L_nil ?_) | refine G_seq ?_ | refine G_region ?_ | refine G_skip ?_ | refine G_block ?_ | refine G_end ?_ | refine G_true rfl ?_ | refine G_false rfl ?_))
  refine L_callR (Φ := fun r w' => r = .tuple #[] ∧ w' = w.setCell ⟨a, 4, none⟩ (.int .i32 1)) (hlock.mono fun e w' ⟨he, hw⟩ => ⟨_, he, rfl, hw⟩) rfl rfl fun v w1 ⟨hv, hw1⟩ => ?_
  subst hv
  have h1 := heap_setCell (i := 4) (v := .int .i32 1) hb
  rw [← hw1] at h1
  have x1 : Ext (fun k => k = a) w w1 := by rw [hw1]; exact Ext.setCell w ⟨a, 4, none⟩ _ rfl
  have s1 : w1.heap.size = w.heap.size := by rw [hw1]; simp
  clear hw1
  (repeat (first | (refine cL ?_; first | (refine cL_move ?_; refine L_val R_move rfl rfl rfl ?_) | (refine cL_fieldAddr ?_; refine L_val (R_fa rfl) rfl rfl rfl ?_) | (refine cL_nilCheck ?_; refine L_val (R_nil rfl) rfl rfl rfl ?_) | (refine cL_eql ?_; first | refine L_val (R_eqPN rfl rfl) rfl rfl rfl ?_ | refine L_val (R_eqI rfl rfl) rfl rfl rfl ?_ | refine L_val (R_eqB rfl rfl) rfl rfl rfl ?_ | refine L_val (R_eqIfN rfl rfl) rfl rfl rfl ?_ | refine L_val (R_eqIfNN rfl) rfl rfl rfl ?_) | (refine cL_neq ?_; first | refine L_val (R_nePN rfl rfl) rfl rfl rfl ?_ | refine L_val (R_neI rfl rfl) rfl rfl rfl ?_ | refine L_val (R_neB rfl rfl) rfl rfl rfl ?_ | refine L_val (R_neIfN rfl rfl) rfl rfl rfl ?_ | refine L_val (R_neIfNN rfl) rfl rfl rfl ?_) | (refine cL_makeInterface ?_; refine L_val R_mkI rfl rfl rfl ?_) | refine L_nil ?_) | refine G_seq ?_ | refine G_region ?_ | refine G_skip ?_ | refine G_block ?_ | refine G_end ?_ | refine G_true rfl ?_ | refine G_false rfl ?_))
  refine L_defer R_defer rfl rfl ?_
  (repeat (first | (refine cL ?_; first | (refine cL_move ?_; refine L_val R_move rfl rfl rfl ?_) | (refine cL_fieldAddr ?_; refine L_val (R_fa rfl) rfl rfl rfl ?_) | (refine cL_nilCheck ?_; refine L_val (R_nil rfl) rfl rfl rfl ?_) | (refine cL_eql ?_; first | refine L_val (R_eqPN rfl rfl) rfl rfl rfl ?_ | refine L_val (R_eqI rfl rfl) rfl rfl rfl ?_ | refine L_val (R_eqB rfl rfl) rfl rfl rfl ?_ | refine L_val (R_eqIfN rfl rfl) rfl rfl rfl ?_ | refine L_val (R_eqIfNN rfl) rfl rfl rfl ?_) | (refine cL_neq ?_; first | refine L_val (R_nePN rfl rfl) rfl rfl rfl ?_ | refine L_val (R_neI rfl rfl) rfl rfl rfl ?_ | refine L_val (R_neB rfl rfl) rfl rfl rfl ?_ | refine L_val (R_neIfN rfl rfl) rfl rfl rfl ?_ | refine L_val (R_neIfNN rfl) rfl rfl rfl ?_) | (refine cL_makeInterface ?_; refine L_val R_mkI rfl rfl rfl ?_) | refine L_nil ?_) | refine G_seq ?_ | refine G_region ?_ | refine G_skip ?_ | refine G_block ?_ | refine G_end ?_ | refine G_true rfl ?_ | refine G_false rfl ?_))
  refine L_store rfl h1 rfl rfl rfl fun w2 h2 x2 s2 => ?_
  (repeat (first | (refine cL ?_; first | (refine cL_move ?_; refine L_val R_move rfl rfl rfl ?_) | (refine cL_fieldAddr ?_; refine L_val (R_fa rfl) rfl rfl rfl ?_) | (refine cL_nilCheck ?_; refine L_val (R_nil rfl) rfl rfl rfl ?_) | (refine cL_eql ?_; first | refine L_val (R_eqPN rfl rfl) rfl rfl rfl ?_ | refine L_val (R_eqI rfl rfl) rfl rfl rfl ?_ | refine L_val (R_eqB rfl rfl) rfl rfl rfl ?_ | refine L_val (R_eqIfN rfl rfl) rfl rfl rfl ?_ | refine L_val (R_eqIfNN rfl) rfl rfl rfl ?_) | (refine cL_neq ?_; first | refine L_val (R_nePN rfl rfl) rfl rfl rfl ?_ | refine L_val (R_neI rfl rfl) rfl rfl rfl ?_ | refine L_val (R_neB rfl rfl) rfl rfl rfl ?_ | refine L_val (R_neIfN rfl rfl) rfl rfl rfl ?_ | refine L_val (R_neIfNN rfl) rfl rfl rfl ?_) | (refine cL_makeInterface ?_; refine L_val R_mkI rfl rfl rfl ?_) | refine L_nil ?_) | refine G_seq ?_ | refine G_region ?_ | refine G_skip ?_ | refine G_block ?_ | refine G_end ?_ | refine G_true rfl ?_ | refine G_false rfl ?_))
  refine L_store rfl h2 rfl rfl rfl fun w3 h3 x3 s3 => ?_
  (repeat (first | (refine cL ?_; first | (refine cL_move ?_; refine L_val R_move rfl rfl rfl ?_) | (refine cL_fieldAddr ?_; refine L_val (R_fa rfl) rfl rfl rfl ?_) | (refine cL_nilCheck ?_; refine L_val (R_nil rfl) rfl rfl rfl ?_) | (refine cL_eql ?_; first | refine L_val (R_eqPN rfl rfl) rfl rfl rfl ?_ | refine L_val (R_eqI rfl rfl) rfl rfl rfl ?_ | refine L_val (R_eqB rfl rfl) rfl rfl rfl ?_ | refine L_val (R_eqIfN rfl rfl) rfl rfl rfl ?_ | refine L_val (R_eqIfNN rfl) rfl rfl rfl ?_) | (refine cL_neq ?_; first | refine L_val (R_nePN rfl rfl) rfl rfl rfl ?_ | refine L_val (R_neI rfl rfl) rfl rfl rfl ?_ | refine L_val (R_neB rfl rfl) rfl rfl rfl ?_ | refine L_val (R_neIfN rfl rfl) rfl rfl rfl ?_ | refine L_val (R_neIfNN rfl) rfl rfl rfl ?_) | (refine cL_makeInterface ?_; refine L_val R_mkI rfl rfl rfl ?_) | refine L_nil ?_) | refine G_seq ?_ | refine G_region ?_ | refine G_skip ?_ | refine G_block ?_ | refine G_end ?_ | refine G_true rfl ?_ | refine G_false rfl ?_))
  refine L_callR (setState_any (s := 7) w3 h3 rfl (fun w => by kernel_rfl)) rfl rfl fun v w4 ⟨hv, h4, x4, s4⟩ => ?_
  subst hv
  (repeat (first | (refine cL ?_; first | (refine cL_move ?_; refine L_val R_move rfl rfl rfl ?_) | (refine cL_fieldAddr ?_; refine L_val (R_fa rfl) rfl rfl rfl ?_) | (refine cL_nilCheck ?_; refine L_val (R_nil rfl) rfl rfl rfl ?_) | (refine cL_eql ?_; first | refine L_val (R_eqPN rfl rfl) rfl rfl rfl ?_ | refine L_val (R_eqI rfl rfl) rfl rfl rfl ?_ | refine L_val (R_eqB rfl rfl) rfl rfl rfl ?_ | refine L_val (R_eqIfN rfl rfl) rfl rfl rfl ?_ | refine L_val (R_eqIfNN rfl) rfl rfl rfl ?_) | (refine cL_neq ?_; first | refine L_val (R_nePN rfl rfl) rfl rfl rfl ?_ | refine L_val (R_neI rfl rfl) rfl rfl rfl ?_ | refine L_val (R_neB rfl rfl) rfl rfl rfl ?_ | refine L_val (R_neIfN rfl rfl) rfl rfl rfl ?_ | refine L_val (R_neIfNN rfl) rfl rfl rfl ?_) | (refine cL_makeInterface ?_; refine L_val R_mkI rfl rfl rfl ?_) | refine L_nil ?_) | refine G_seq ?_ | refine G_region ?_ | refine G_skip ?_ | refine G_block ?_ | refine G_end ?_ | refine G_true rfl ?_ | refine G_false rfl ?_))
  refine L_store rfl h4 rfl rfl rfl fun w5 h5 x5 s5 => ?_
  (repeat (first | (refine cL ?_; first | (refine cL_move ?_; refine L_val R_move rfl rfl rfl ?_) | (refine cL_fieldAddr ?_; refine L_val (R_fa rfl) rfl rfl rfl ?_) | (refine cL_nilCheck ?_; refine L_val (R_nil rfl) rfl rfl rfl ?_) | (refine cL_eql ?_; first | refine L_val (R_eqPN rfl rfl) rfl rfl rfl ?_ | refine L_val (R_eqI rfl rfl) rfl rfl rfl ?_ | refine L_val (R_eqB rfl rfl) rfl rfl rfl ?_ | refine L_val (R_eqIfN rfl rfl) rfl rfl rfl ?_ | refine L_val (R_eqIfNN rfl) rfl rfl rfl ?_) | (refine cL_neq ?_; first | refine L_val (R_nePN rfl rfl) rfl rfl rfl ?_ | refine L_val (R_neI rfl rfl) rfl rfl rfl ?_ | refine L_val (R_neB rfl rfl) rfl rfl rfl ?_ | refine L_val (R_neIfN rfl rfl) rfl rfl rfl ?_ | refine L_val (R_neIfNN rfl) rfl rfl rfl ?_) | (refine cL_makeInterface ?_; refine L_val R_mkI rfl rfl rfl ?_) | refine L_nil ?_) | refine G_seq ?_ | refine G_region ?_ | refine G_skip ?_ | refine G_block ?_ | refine G_end ?_ | refine G_true rfl ?_ | refine G_false rfl ?_))
  refine L_callR (setState_any (s := 15) w5 h5 rfl (fun w => by kernel_rfl)) rfl rfl fun v w6 ⟨hv, h6, x6, s6⟩ => ?_
  subst hv
  (repeat (first | (refine cL ?_; first | (refine cL_move ?_; refine L_val R_move rfl rfl rfl ?_) | (refine cL_fieldAddr ?_; refine L_val (R_fa rfl) rfl rfl rfl ?_) | (refine cL_nilCheck ?_; refine L_val (R_nil rfl) rfl rfl rfl ?_) | (refine cL_eql ?_; first | refine L_val (R_eqPN rfl rfl) rfl rfl rfl ?_ | refine L_val (R_eqI rfl rfl) rfl rfl rfl ?_ | refine L_val (R_eqB rfl rfl) rfl rfl rfl ?_ | refine L_val (R_eqIfN rfl rfl) rfl rfl rfl ?_ | refine L_val (R_eqIfNN rfl) rfl rfl rfl ?_) | (refine cL_neq ?_; first | refine L_val (R_nePN rfl rfl) rfl rfl rfl ?_ | refine L_val (R_neI rfl rfl) rfl rfl rfl ?_ | refine L_val (R_neB rfl rfl) rfl rfl rfl ?_ | refine L_val (R_neIfN rfl rfl) rfl rfl rfl ?_ | refine L_val (R_neIfNN rfl) rfl rfl rfl ?_) | (refine cL_makeInterface ?_; refine L_val R_mkI rfl rfl rfl ?_) | refine L_nil ?_) | refine G_seq ?_ | refine G_region ?_ | refine G_skip ?_ | refine G_block ?_ | refine G_end ?_ | refine G_true rfl ?_ | refine G_false rfl ?_))
  refine G_nil ?_
  intro tmps htm
  have hc6 : w6.cell? ⟨a, 4, none⟩ = some (.int .i32 1) := by
    simp only [World.cell?, h6, Ob]
    rfl
  have hun := Go.MuLone.unlock_deferred muLib ⟨a, 4, none⟩ .returning w6 hc6 (frozen_ob h6)
  have hcall : CallT Tryz.prog 78 := inferInstance
  refine leaves_cons (f := 78) (args := #[.pointer (some ⟨a, 4, none⟩)]) (by simp) (hcall.h _ _) (hun.mono ?_)
  rintro e u w7 ⟨hu, he, hw7⟩
  subst he
  subst hu
  have h7 := heap_setCell (i := 4) (v := .int .i32 0) h6
  rw [← hw7] at h7
  have x7 : Ext (fun k => k = a) w6 w7 := by rw [hw7]; exact Ext.setCell w6 ⟨a, 4, none⟩ _ rfl
  have s7 : w7.heap.size = w6.heap.size := by rw [hw7]; simp
  refine ⟨.tuple #[], ResV.none rfl _ w7 tmps htm, _, rfl, rfl, h7, x1.trans (x2.trans (x3.trans (x4.trans (x5.trans (x6.trans x7))))), by omega⟩
end Go.Proofs.YtmmcjnfgcaefpaaGreatDoor

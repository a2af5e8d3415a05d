/-
  A part of the proof that laws.FnClosed returns true at every input: the walk's own rules and the contracts of functions, in build order.
  Its conditions are those of the statement: see the last text.
-/
import Derived.Test.YtjilnjifegeceaaGreatDoorFnClosedPartK

/-
  Types in the place of bound type parameters; where a type parameter occurs. Plain Lean.
-/
namespace Go.Proofs.YtjilnjifegeceaaGreatDoor

mutual
def applyT (l : List Ty) : Ty → Ty
  | .mk k n c b nm es => if k = 2 then ((l[n.toNat]?).getD (.mk k n c b nm es)).setNm nm else .mk k n c b nm (applyL l es)
def applyL (l : List Ty) : List Ty → List Ty
  | [] => []
  | e :: es => applyT l e :: applyL l es
end

mutual
def occT (p : Int) : Ty → Bool
  | .mk k n _ _ _ es => if k = 2 then n == p else occL p es
def occL (p : Int) : List Ty → Bool
  | [] => false
  | e :: es => occT p e || occL p es
end

theorem applyL_len (l : List Ty) : ∀ es : List Ty, (applyL l es).length = es.length
  | [] => rfl
  | e :: es => by simp [applyL, applyL_len l es]
theorem applyL_get (l : List Ty) : ∀ (es : List Ty) (i : Nat), (applyL l es)[i]? = es[i]?.map (applyT l)
  | [], i => by simp [applyL]
  | e :: es, 0 => rfl
  | e :: es, i + 1 => by simpa [applyL] using applyL_get l es i
theorem applyT_nm (l : List Ty) (t : Ty) : (applyT l t).nm = t.nm := by
  cases t
  unfold applyT
  split
  · rw [setNm_nm]; rfl
  · rfl
theorem applyL_nm (l : List Ty) : ∀ es : List Ty, (applyL l es).map Ty.nm = es.map Ty.nm
  | [] => rfl
  | e :: es => by simp only [applyL, List.map_cons, applyT_nm, applyL_nm l es]
theorem setNm_size (t : Ty) (s : ByteArray) : Ty.size (t.setNm s) = Ty.size t := by cases t; rfl
theorem ident_setNm (t u : Ty) (s : ByteArray) : ident (t.setNm s) u = ident t u := by cases t; cases u; simp [Ty.setNm, ident]
theorem ident_setNm' (t u : Ty) (s : ByteArray) : ident t (u.setNm s) = ident t u := by cases t; cases u; simp [Ty.setNm, ident]
theorem rep_unNm {E : Env} {H : Hp} {t : Ty} {s : ByteArray} {v : Value} (h : Rep E H (t.setNm s) v) : Rep E H t v := by
  cases t
  simp only [Rep, Ty.setNm] at h ⊢
  exact h

theorem occL_iff {p : Int} : ∀ {es : List Ty}, occL p es = true ↔ ∃ (i : Nat) (e : Ty), es[i]? = some e ∧ occT p e = true
  | [] => by simp [occL]
  | e :: es => by
    rw [occL, Bool.or_eq_true, occL_iff]
    constructor
    · rintro (h | ⟨i, x, h1, h2⟩)
      · exact ⟨0, e, rfl, h⟩
      · exact ⟨i + 1, x, by simpa using h1, h2⟩
    · rintro ⟨i, x, h1, h2⟩
      cases i with
      | zero =>
        simp only [List.getElem?_cons_zero, Option.some.injEq] at h1
        subst h1
        exact .inl h2
      | succ i => exact .inr ⟨i, x, by simpa using h1, h2⟩

/-- identical types have the same type parameters -/
theorem occ_ident {p : Int} : ∀ (t u : Ty), ident t u = true → occT p t = true → occT p u = true := by
  refine Ty.ind fun k n c b nm es ih => ?_
  intro u hid ho
  cases u with
  | mk k2 n2 c2 b2 nm2 es2 =>
  rw [ident_iff] at hid
  obtain ⟨rfl, hl, -, -, hn, he⟩ := hid
  rw [identL_iff hl] at he
  simp only [occT] at ho ⊢
  by_cases hk : k = 2
  · rw [if_pos hk] at ho ⊢
    rw [← hn (by omega) (by omega) (by omega)]
    exact ho
  · rw [if_neg hk] at ho ⊢
    obtain ⟨i, e, h1, h2⟩ := occL_iff.1 ho
    obtain ⟨e', h3⟩ : ∃ e', es2[i]? = some e' := ⟨_, List.getElem?_eq_getElem (by have := (List.getElem?_eq_some_iff.1 h1).1; omega)⟩
    exact occL_iff.2 ⟨i, e', h3, ih e (List.mem_of_getElem? h1) e' (he i e e' h1 h3) h2⟩

/-- a type without type parameters -/
theorem occ_closed {ds : List (Int × Ty)} {own p : Int} : ∀ t : Ty, shapedB ds 0 own t = true → occT p t = false := by
  refine Ty.ind fun k n c b nm es ih h => ?_
  simp only [occT]
  by_cases hk : k = 2
  · subst hk
    obtain ⟨h1, h2, -⟩ := headB_param (shaped_head h) (Int.le_refl 0)
    omega
  · rw [if_neg hk]
    cases ho : occL p es with
    | false => rfl
    | true =>
      obtain ⟨i, e, h1, h2⟩ := occL_iff.1 ho
      have := ih e (List.mem_of_getElem? h1) (shaped_part h (List.mem_of_getElem? h1))
      rw [this] at h2
      cases h2
theorem closed_k {ds : List (Int × Ty)} {own : Int} {t : Ty} (h : shapedB ds 0 own t = true) : t.k ≠ 2 := by
  intro hk
  cases t with
  | mk k n c b nm es =>
  have hk' : k = 2 := hk
  subst hk'
  obtain ⟨h1, h2, -⟩ := headB_param (shaped_head h) (Int.le_refl 0)
  omega
/-- nothing is put in the place of what does not occur -/
theorem apply_closed {ds : List (Int × Ty)} {own : Int} {l : List Ty} : ∀ t : Ty, shapedB ds 0 own t = true → applyT l t = t := by
  refine Ty.ind fun k n c b nm es ih h => ?_
  have hk : k ≠ 2 := closed_k h
  unfold applyT
  rw [if_neg hk]
  congr 1
  have : ∀ (es' : List Ty), (∀ e ∈ es', applyT l e = e) → applyL l es' = es' := by
    intro es'
    induction es' with
    | nil => intro _; rfl
    | cons x es' ihl => intro hh; rw [applyL, hh x List.mem_cons_self, ihl fun e he => hh e (List.mem_cons_of_mem _ he)]
  exact this es fun e he => ih e he (shaped_part h he)
/-- a type without type parameters is in order whatever the number of them -/
theorem shaped_more {ds : List (Int × Ty)} {params : Int} (_ : 0 ≤ params) : ∀ t : Ty, shapedB ds 0 0 t = true → shapedB ds params 0 t = true := by
  refine Ty.ind fun k n c b nm es ih h => ?_
  have hk : k ≠ 2 := closed_k h
  have hl : ∀ p, limitL ds.length k p 0 = limitL ds.length k 0 0 := fun p => by simp [limitL, hk]
  have hh := h
  simp only [shapedB, Bool.and_eq_true] at h ⊢
  refine ⟨?_, ?_, h.2.2⟩
  · have h1 := h.1
    simp only [headB] at h1 ⊢
    rw [hl params]
    exact h1
  · have key : ∀ es' : List Ty, (∀ e ∈ es', shapedB ds params 0 e = true) → shapedLB ds params 0 es' = true := by
      intro es'
      induction es' with
      | nil => intro _; rfl
      | cons x es' ihl => intro hx; simp only [shapedLB, Bool.and_eq_true]; exact ⟨hx x List.mem_cons_self, ihl fun e he => hx e (List.mem_cons_of_mem _ he)⟩
    exact key es fun e he => ih e he (shaped_part hh he)

/-- where types without type parameters stand in the place of all type parameters, none occurs -/
theorem app_occ {ds : List (Int × Ty)} {l : List Ty} {m : Nat} (p : Int) (hcl : ∀ a ∈ l, shapedB ds 0 0 a = true) : ∀ t : Ty, l.length = m → shapedB ds (m : Int) 0 t = true → occT p (applyT l t) = false := by
  refine Ty.ind fun k n c b nm es ih => ?_
  intro hl h
  unfold applyT
  by_cases hk : k = 2
  · subst hk
    obtain ⟨h0, h1, -⟩ := headB_param (shaped_head h) (by omega)
    have h1' : n < (m : Int) := h1
    have h0' : 0 ≤ n := h0
    obtain ⟨w, hw⟩ : ∃ w, l[n.toNat]? = some w := ⟨_, List.getElem?_eq_getElem (by omega)⟩
    rw [if_pos rfl, hw]
    have := occ_closed (p := p) w (hcl w (List.mem_of_getElem? hw))
    cases w
    simpa [Ty.setNm, occT] using this
  · rw [if_neg hk]
    simp only [occT, if_neg hk]
    cases ho : occL p (applyL l es) with
    | false => rfl
    | true =>
      obtain ⟨i, e, h1, h2⟩ := occL_iff.1 ho
      rw [applyL_get] at h1
      obtain ⟨e0, h3, rfl⟩ := Option.map_eq_some_iff.1 h1
      rw [ih e0 (List.mem_of_getElem? h3) hl (shaped_part h (List.mem_of_getElem? h3))] at h2
      cases h2
end Go.Proofs.YtjilnjifegeceaaGreatDoor

/-
  The verifier's 'alike' and 'Identical' on the input's types.
-/
namespace Go.Proofs.YtjilnjifegeceaaGreatDoor
set_option maxRecDepth 100000
set_option maxHeartbeats 4000000
attribute [local irreducible] Calls execOp

theorem r128 {G G' : Prop} (k : G') (h : Hid G' → G := by intro k_; (repeat (first | (refine cL ?_; first | (refine cL_guard ?_; refine L_unwanted rfl rfl rfl ?_) | (refine cL_move ?_; refine L_val R_move rfl rfl rfl ?_) | (refine cL_load ?_; first | refine L_val (R_loadB rfl (by assumption) (by rfl)) rfl rfl rfl ?_ | refine L_val (R_loadH (by assumption) rfl (by assumption) (by rfl)) rfl rfl rfl ?_) | (refine cL_fieldAddr ?_; refine L_val (R_fa rfl) rfl rfl rfl ?_) | (refine cL_assign ?_; refine L_val R_assign rfl rfl rfl ?_) | (refine cL_call ?_; refine L_val (R_len rfl) rfl rfl rfl ?_) | (refine cL_pick ?_; first | refine L_val (R_pickT rfl) rfl rfl rfl ?_ | refine L_val (R_pickF rfl) rfl rfl rfl ?_) | (refine cL_eql ?_; first | refine L_val (R_eqPN rfl rfl) rfl rfl rfl ?_ | refine L_val (R_eqI rfl rfl) rfl rfl rfl ?_ | refine L_val (R_eqB rfl rfl) rfl rfl rfl ?_ | refine L_val (R_eqIfN rfl rfl) rfl rfl rfl ?_ | refine L_val (R_eqIfNN rfl) rfl rfl rfl ?_) | (refine cL_neq ?_; first | refine L_val (R_nePN rfl rfl) rfl rfl rfl ?_ | refine L_val (R_neI rfl rfl) rfl rfl rfl ?_ | refine L_val (R_neB rfl rfl) rfl rfl rfl ?_ | refine L_val (R_neIfN rfl rfl) rfl rfl rfl ?_ | refine L_val (R_neIfNN rfl) rfl rfl rfl ?_) | (refine cL_lss ?_; refine L_val (R_ltI rfl rfl) rfl rfl rfl ?_) | (refine cL_add ?_; refine L_val (R_addI rfl rfl) rfl rfl rfl ?_) | refine L_nil ?_) | refine G_seq ?_ | refine G_region ?_ | refine G_skip ?_ | refine G_block ?_ | refine G_end ?_ | refine G_true rfl ?_ | refine G_false rfl ?_)); exact k_.out) : G := h ⟨k⟩
theorem r129 {G G' : Prop} (k : G') (h : Hid G' → G := by intro k_; (first | (refine cL ?_; first | (refine cL_guard ?_; refine L_unwanted rfl rfl rfl ?_) | (refine cL_move ?_; refine L_val R_move rfl rfl rfl ?_) | (refine cL_load ?_; first | refine L_val (R_loadB rfl (by assumption) (by rfl)) rfl rfl rfl ?_ | refine L_val (R_loadH (by assumption) rfl (by assumption) (by rfl)) rfl rfl rfl ?_) | (refine cL_fieldAddr ?_; refine L_val (R_fa rfl) rfl rfl rfl ?_) | (refine cL_assign ?_; refine L_val R_assign rfl rfl rfl ?_) | (refine cL_call ?_; refine L_val (R_len rfl) rfl rfl rfl ?_) | (refine cL_pick ?_; first | refine L_val (R_pickT rfl) rfl rfl rfl ?_ | refine L_val (R_pickF rfl) rfl rfl rfl ?_) | (refine cL_eql ?_; first | refine L_val (R_eqPN rfl rfl) rfl rfl rfl ?_ | refine L_val (R_eqI rfl rfl) rfl rfl rfl ?_ | refine L_val (R_eqB rfl rfl) rfl rfl rfl ?_ | refine L_val (R_eqIfN rfl rfl) rfl rfl rfl ?_ | refine L_val (R_eqIfNN rfl) rfl rfl rfl ?_) | (refine cL_neq ?_; first | refine L_val (R_nePN rfl rfl) rfl rfl rfl ?_ | refine L_val (R_neI rfl rfl) rfl rfl rfl ?_ | refine L_val (R_neB rfl rfl) rfl rfl rfl ?_ | refine L_val (R_neIfN rfl rfl) rfl rfl rfl ?_ | refine L_val (R_neIfNN rfl) rfl rfl rfl ?_) | (refine cL_lss ?_; refine L_val (R_ltI rfl rfl) rfl rfl rfl ?_) | (refine cL_add ?_; refine L_val (R_addI rfl rfl) rfl rfl rfl ?_) | refine L_nil ?_) | refine G_seq ?_ | refine G_region ?_ | refine G_skip ?_ | refine G_block ?_ | refine G_end ?_ | refine G_true rfl ?_ | refine G_false rfl ?_); exact k_.out) : G := h ⟨k⟩
theorem r130 {G G' A : Prop} (ag : A) (k : G') (h : Hid G' → A → G := by intro k_ ag_; (first | (refine cD_guard ?_; refine D_unwanted rfl rfl ?_) | (refine cD_move ?_; refine D_val0 (fun _ _ => R_move) rfl rfl ?_) | (refine cD_load ?_; refine D_val0 (fun w he => R_loadH (ag_ w he) rfl (by assumption) (by rfl)) rfl rfl ?_) | (refine cD_fieldAddr ?_; refine D_val0 (fun _ _ => R_fa rfl) rfl rfl ?_) | (refine cD_assign ?_; refine D_val0 (fun _ _ => R_assign) rfl rfl ?_) | (refine cD_call ?_; refine D_val0 (fun _ _ => R_len rfl) rfl rfl ?_) | (refine cD_pick ?_; first | refine D_val0 (fun _ _ => R_pickT rfl) rfl rfl ?_ | refine D_val0 (fun _ _ => R_pickF rfl) rfl rfl ?_) | (refine cD_eql ?_; first | refine D_val0 (fun _ _ => R_eqPN rfl rfl) rfl rfl ?_ | refine D_val0 (fun _ _ => R_eqI rfl rfl) rfl rfl ?_ | refine D_val0 (fun _ _ => R_eqB rfl rfl) rfl rfl ?_ | refine D_val0 (fun _ _ => R_eqIfN rfl rfl) rfl rfl ?_ | refine D_val0 (fun _ _ => R_eqIfNN rfl) rfl rfl ?_) | (refine cD_neq ?_; first | refine D_val0 (fun _ _ => R_nePN rfl rfl) rfl rfl ?_ | refine D_val0 (fun _ _ => R_neI rfl rfl) rfl rfl ?_ | refine D_val0 (fun _ _ => R_neB rfl rfl) rfl rfl ?_ | refine D_val0 (fun _ _ => R_neIfN rfl rfl) rfl rfl ?_ | refine D_val0 (fun _ _ => R_neIfNN rfl) rfl rfl ?_) | (refine cD_lss ?_; refine D_val0 (fun _ _ => R_ltI rfl rfl) rfl rfl ?_) | (refine cD_add ?_; refine D_val0 (fun _ _ => R_addI rfl rfl) rfl rfl ?_)); exact k_.out) : G := h ⟨k⟩ ag

def alikeT (x y : Ty) : Bool := alikeP x.k x.n x.c x.b x.es y.k y.n y.c y.b y.es

theorem namesEq_eq : ∀ {es es' : List Ty}, es.length = es'.length → namesEq es es' = (List.range es.length).all fun i => beqB ((es[i]?.map Ty.nm).getD ⟨#[]⟩) ((es'[i]?.map Ty.nm).getD ⟨#[]⟩)
  | [], [], _ => rfl
  | e :: es, e' :: es', h => by
    rw [List.length_cons, List.range_succ_eq_map, List.all_cons, List.all_map, namesEq, namesEq_eq (by simpa using h)]
    rfl
  | [], _ :: _, h => by simp at h
  | _ :: _, [], h => by simp at h

section
variable {H : Hp} {x y : Ty} {cs cs' : List Value} (w : World) (hA : Agree H w) (hx : DTy H x cs) (hy : DTy H y cs')
include hA hx hy

theorem alike_any : Calls Tryz.prog 19 #[.agg cs.toArray, .agg cs'.toArray] w (Ret (Qt (.bool (alikeT x y)) w)) := by
  obtain ⟨p, cap, rfl, -, -, -, hbd, hes⟩ := hx.cells
  obtain ⟨p', cap', rfl, -, -, -, hbd', hes'⟩ := hy.cells
  (refine calls_enter Tryz.func19 Tryz.ntmps19 rfl rfl ?_)
  (refine r128 ?_)
  refine L_box rfl rfl rfl fun b2 w1 hn1 => ?_
  refine L_box rfl rfl rfl fun b3 w2 hn2 => ?_
  obtain ⟨H1, g1, hb2⟩ := Grow.ofNew hA hn1
  obtain ⟨H2, g2, hb3⟩ := Grow.ofNew g1.ag hn2
  have hb2 := g2.le _ _ hb2
  have hA2 := g2.ag
  have hex : Ext No w w2 := hn1.ext.trans hn2.ext
  have hle := Hp.le_trans g1.le g2.le
  cases ek : (x.k != y.k) with
  | true =>
    have hv : alikeT x y = false := by simp at ek; simp [alikeT, alikeP, ek]
    (repeat (first | (refine cL ?_; first | (refine cL_guard ?_; refine L_unwanted rfl rfl rfl ?_) | (refine cL_neq ?_; refine L_valB (R_neI rfl rfl) ek rfl rfl rfl ?_)) | refine r129 ?_))
    (refine G_retF rfl ?_)
    exact ⟨_, rfl, by rw [hv]; rfl, hex⟩
  | false =>
    have hk : x.k = y.k := by simpa using ek
    cases el : ((x.es.length : Int) != (y.es.length : Int)) with
    | true =>
      have hl : x.es.length ≠ y.es.length := by
        simp at el
        omega
      have hv : alikeT x y = false := by simp [alikeT, alikeP, hl]
      (repeat (first | (refine cL ?_; first | (refine cL_guard ?_; refine L_unwanted rfl rfl rfl ?_) | (refine cL_neq ?_; first | refine L_valB (R_neI rfl rfl) ek rfl rfl rfl ?_ | refine L_valB (R_neI rfl rfl) el rfl rfl rfl ?_)) | refine r129 ?_))
      (refine G_retF rfl ?_)
      exact ⟨_, rfl, by rw [hv]; rfl, hex⟩
    | false =>
      have hl : x.es.length = y.es.length := by
        simp at el
        omega
      cases e9 : (x.k == 9) with
      | true =>
        have hk9 : x.k = 9 := by simpa using e9
        have hv : alikeT x y = (List.range x.es.length).all fun i => beqB ((x.es[i]?.map Ty.nm).getD ⟨#[]⟩) ((y.es[i]?.map Ty.nm).getD ⟨#[]⟩) := by
          rw [← namesEq_eq hl]
          simp [alikeT, alikeP, hl, ← hk, hk9]
        rw [hv]
        (repeat (first | (refine cL ?_; first | (refine cL_guard ?_; refine L_unwanted rfl rfl rfl ?_) | (refine cL_eql ?_; refine L_valB (R_eqI rfl rfl) e9 rfl rfl rfl ?_) | (refine cL_neq ?_; first | refine L_valB (R_neI rfl rfl) ek rfl rfl rfl ?_ | refine L_valB (R_neI rfl rfl) el rfl rfl rfl ?_)) | refine r129 ?_))
        refine G_loop (CountI 28 27 x.es.length [(3, ptr b3), (26, .slice p x.es.length cap)] w2 fun i => ∀ j, j < i → beqB ((x.es[j]?.map Ty.nm).getD ⟨#[]⟩) ((y.es[j]?.map Ty.nm).getD ⟨#[]⟩) = true) (fun f _ _ => countM 28 27 f)
          ⟨rfl, Ext.refl _ _, _, 0, with_self ⟨rfl, rfl, rfl, rfl, trivial⟩, Nat.zero_le _, fun j hj => absurd hj (Nat.not_lt_zero j)⟩ ?_
        rintro f ds wr ⟨rfl, hext, f0, i, rfl, hi, hJ⟩
        have hAr := hA2.ext0 hext
        by_cases h : i < x.es.length
        · have hb : decide ((i : Int) < (x.es.length : Int)) = true := decide_eq_true (by omega)
          obtain ⟨e, he⟩ : ∃ v, x.es[i]? = some v := ⟨_, List.getElem?_eq_getElem h⟩
          obtain ⟨e', he'⟩ : ∃ v', y.es[i]? = some v' := ⟨_, List.getElem?_eq_getElem (by omega)⟩
          obtain ⟨bk, off, ec, rfl, hec, hed⟩ := (hes.mono hle).get he
          obtain ⟨bk', off', ec', rfl, hec', hed'⟩ := (hes'.mono hle).get he'
          obtain ⟨q, qcap, rfl, -, -, -, -, -⟩ := hed.cells
          obtain ⟨q', qcap', rfl, -, -, -, -, -⟩ := hed'.cells
          (repeat (first | (refine cL ?_; first | (refine cL_guard ?_; refine L_unwanted rfl rfl rfl ?_) | (refine cL_load ?_; refine L_val (R_loadA rfl rfl fun j v hj => hAr.hcell (hec j v hj)) rfl rfl rfl ?_) | (refine cL_lss ?_; refine L_valB (R_ltI rfl rfl) hb rfl rfl rfl ?_) | (refine cL_indexAddr ?_; refine L_valE (R_ia rfl rfl (by omega) (by omega)) (ia6 _ _ _) rfl rfl rfl ?_)) | refine r129 ?_))
          refine L_allocS rfl rfl fun b6 w3 hn3 => ?_
          (refine r128 ?_)
          refine L_storeA rfl hn3.here rfl rfl rfl rfl rfl rfl fun w4 h4 e4 s4 => ?_
          obtain ⟨H4, g4, hb6⟩ := Grow.ofNew hAr (hn3.store h4 e4 s4)
          have hb3' := g4.le _ _ hb3
          have hAg : ∀ w', Ext No w4 w' → Agree _ w' := fun _ he => g4.ag.ext0 he
          have hec2 := hec'.mono g4.le
          have hnm : (!(e.nm.toList == e'.nm.toList)) = !(beqB ((x.es[i]?.map Ty.nm).getD ⟨#[]⟩) ((y.es[i]?.map Ty.nm).getD ⟨#[]⟩)) := by rw [he, he']; rfl
          (refine r128 ?_)
          (refine G_draw No (0 :: 1 :: 2 :: 3 :: 4 :: 5 :: 6 :: 7 :: 8 :: []) [] follows (by kernel_rfl) rfl ?_)
          cases hbn : beqB ((x.es[i]?.map Ty.nm).getD ⟨#[]⟩) ((y.es[i]?.map Ty.nm).getD ⟨#[]⟩) with
          | false =>
            rw [hbn] at hnm
            (repeat (first | (refine cD_guard ?_; refine D_unwanted rfl rfl ?_) | (refine cD_load ?_; refine D_val0 (fun w he => R_load rfl ((hAg w he).hcell (hec2 5 _ rfl))) rfl rfl ?_) | (refine cD_neq ?_; refine D_valB (fun _ _ => R_neS rfl rfl) hnm rfl rfl ?_) | (refine cD_indexAddr ?_; refine D_valE (fun _ _ => R_ia rfl rfl (by omega) (by omega)) (ia6 _ _ _) rfl rfl ?_) | refine r130 hAg ?_))
            refine D_nil fun w5 hw5 => ?_
            (refine r128 ?_)
            (refine G_retF rfl ?_)
            exact ⟨_, rfl, congrArg Value.bool (allR_false h hbn).symm, hex.trans (hext.trans (g4.ext.trans hw5))⟩
          | true =>
            rw [hbn] at hnm
            (repeat (first | (refine cD_guard ?_; refine D_unwanted rfl rfl ?_) | (refine cD_load ?_; refine D_val0 (fun w he => R_load rfl ((hAg w he).hcell (hec2 5 _ rfl))) rfl rfl ?_) | (refine cD_neq ?_; refine D_valB (fun _ _ => R_neS rfl rfl) hnm rfl rfl ?_) | (refine cD_indexAddr ?_; refine D_valE (fun _ _ => R_ia rfl rfl (by omega) (by omega)) (ia6 _ _ _) rfl rfl ?_) | refine r130 hAg ?_))
            refine D_nil fun w5 hw5 => ?_
            (repeat (first | (refine cL ?_; first | (refine cL_guard ?_; refine L_unwanted rfl rfl rfl ?_) | (refine cL_add ?_; refine L_valE (R_addI rfl rfl) (succ_i64 h (by omega)) rfl rfl rfl ?_)) | refine r129 ?_))
            refine G_inv ⟨⟨rfl, hext.trans (g4.ext.trans hw5), _, i + 1, with_self ⟨rfl, rfl, rfl, rfl, trivial⟩, h, fun j hj => ?_⟩, ?_⟩
            · rcases Nat.lt_succ_iff_lt_or_eq.1 hj with hj | rfl
              · exact hJ j hj
              · exact hbn
            · show ((x.es.length : Int) - ((i + 1 : Nat) : Int)).toNat < ((x.es.length : Int) - (i : Int)).toNat
              omega
        · have hb : decide ((i : Int) < (x.es.length : Int)) = false := decide_eq_false (by omega)
          (repeat (first | (refine cL ?_; first | (refine cL_guard ?_; refine L_unwanted rfl rfl rfl ?_) | (refine cL_lss ?_; refine L_valB (R_ltI rfl rfl) hb rfl rfl rfl ?_)) | refine G_exit rfl ?_ | refine r129 ?_))
          (refine G_retF rfl ?_)
          exact ⟨_, rfl, congrArg Value.bool (allR_true fun j hj => hJ j (by omega)).symm, hex.trans hext⟩
      | false =>
        have hk9 : x.k ≠ 9 := by simpa using e9
        cases e10 : (x.k == 10) with
        | true =>
          have hk10 : x.k = 10 := by simpa using e10
          have hv : alikeT x y = (x.c == y.c && x.b == y.b) := by simp [alikeT, alikeP, hl, ← hk, hk10]
          rw [hv]
          cases ec : (x.c == y.c) with
          | true =>
            (repeat (first | (refine cL ?_; first | (refine cL_guard ?_; refine L_unwanted rfl rfl rfl ?_) | (refine cL_eql ?_; first | refine L_valB (R_eqI rfl rfl) e9 rfl rfl rfl ?_ | refine L_valB (R_eqI rfl rfl) e10 rfl rfl rfl ?_ | refine L_valB (R_eqI rfl rfl) ec rfl rfl rfl ?_) | (refine cL_neq ?_; first | refine L_valB (R_neI rfl rfl) ek rfl rfl rfl ?_ | refine L_valB (R_neI rfl rfl) el rfl rfl rfl ?_)) | refine r129 ?_))
            (refine G_retF rfl ?_)
            exact ⟨_, rfl, rfl, hex⟩
          | false =>
            (repeat (first | (refine cL ?_; first | (refine cL_guard ?_; refine L_unwanted rfl rfl rfl ?_) | (refine cL_eql ?_; first | refine L_valB (R_eqI rfl rfl) e9 rfl rfl rfl ?_ | refine L_valB (R_eqI rfl rfl) e10 rfl rfl rfl ?_ | refine L_valB (R_eqI rfl rfl) ec rfl rfl rfl ?_) | (refine cL_neq ?_; first | refine L_valB (R_neI rfl rfl) ek rfl rfl rfl ?_ | refine L_valB (R_neI rfl rfl) el rfl rfl rfl ?_)) | refine r129 ?_))
            (refine G_retF rfl ?_)
            exact ⟨_, rfl, rfl, hex⟩
        | false =>
          have hk10 : x.k ≠ 10 := by simpa using e10
          cases e4 : (x.k == 4) with
          | true =>
            have hk4 : x.k = 4 := by simpa using e4
            have hv : alikeT x y = true := by simp [alikeT, alikeP, hl, ← hk, hk4]
            rw [hv]
            (repeat (first | (refine cL ?_; first | (refine cL_guard ?_; refine L_unwanted rfl rfl rfl ?_) | (refine cL_eql ?_; first | refine L_valB (R_eqI rfl rfl) e9 rfl rfl rfl ?_ | refine L_valB (R_eqI rfl rfl) e10 rfl rfl rfl ?_ | refine L_valB (R_eqI rfl rfl) e4 rfl rfl rfl ?_) | (refine cL_neq ?_; first | refine L_valB (R_neI rfl rfl) ek rfl rfl rfl ?_ | refine L_valB (R_neI rfl rfl) el rfl rfl rfl ?_)) | refine r129 ?_))
            (refine G_retF rfl ?_)
            exact ⟨_, rfl, rfl, hex⟩
          | false =>
            have hk4 : x.k ≠ 4 := by simpa using e4
            cases e5 : (x.k == 5) with
            | true =>
              have hk5 : x.k = 5 := by simpa using e5
              have hv : alikeT x y = true := by simp [alikeT, alikeP, hl, ← hk, hk5]
              rw [hv]
              (repeat (first | (refine cL ?_; first | (refine cL_guard ?_; refine L_unwanted rfl rfl rfl ?_) | (refine cL_eql ?_; first | refine L_valB (R_eqI rfl rfl) e9 rfl rfl rfl ?_ | refine L_valB (R_eqI rfl rfl) e10 rfl rfl rfl ?_ | refine L_valB (R_eqI rfl rfl) e4 rfl rfl rfl ?_ | refine L_valB (R_eqI rfl rfl) e5 rfl rfl rfl ?_) | (refine cL_neq ?_; first | refine L_valB (R_neI rfl rfl) ek rfl rfl rfl ?_ | refine L_valB (R_neI rfl rfl) el rfl rfl rfl ?_)) | refine r129 ?_))
              (refine G_retF rfl ?_)
              exact ⟨_, rfl, rfl, hex⟩
            | false =>
              have hk5 : x.k ≠ 5 := by simpa using e5
              cases e7 : (x.k == 7) with
              | true =>
                have hk7 : x.k = 7 := by simpa using e7
                have hv : alikeT x y = true := by simp [alikeT, alikeP, hl, ← hk, hk7]
                rw [hv]
                (repeat (first | (refine cL ?_; first | (refine cL_guard ?_; refine L_unwanted rfl rfl rfl ?_) | (refine cL_eql ?_; first | refine L_valB (R_eqI rfl rfl) e9 rfl rfl rfl ?_ | refine L_valB (R_eqI rfl rfl) e10 rfl rfl rfl ?_ | refine L_valB (R_eqI rfl rfl) e4 rfl rfl rfl ?_ | refine L_valB (R_eqI rfl rfl) e5 rfl rfl rfl ?_ | refine L_valB (R_eqI rfl rfl) e7 rfl rfl rfl ?_) | (refine cL_neq ?_; first | refine L_valB (R_neI rfl rfl) ek rfl rfl rfl ?_ | refine L_valB (R_neI rfl rfl) el rfl rfl rfl ?_)) | refine r129 ?_))
                (refine G_retF rfl ?_)
                exact ⟨_, rfl, rfl, hex⟩
              | false =>
                have hk7 : x.k ≠ 7 := by simpa using e7
                have hv : alikeT x y = (x.n == y.n) := by simp [alikeT, alikeP, hl, hk] at hk9 hk10 hk4 hk5 hk7 ⊢; simp [hk9, hk10, hk4, hk5, hk7]
                rw [hv]
                (repeat (first | (refine cL ?_; first | (refine cL_guard ?_; refine L_unwanted rfl rfl rfl ?_) | (refine cL_eql ?_; first | refine L_valB (R_eqI rfl rfl) e9 rfl rfl rfl ?_ | refine L_valB (R_eqI rfl rfl) e10 rfl rfl rfl ?_ | refine L_valB (R_eqI rfl rfl) e4 rfl rfl rfl ?_ | refine L_valB (R_eqI rfl rfl) e5 rfl rfl rfl ?_ | refine L_valB (R_eqI rfl rfl) e7 rfl rfl rfl ?_) | (refine cL_neq ?_; first | refine L_valB (R_neI rfl rfl) ek rfl rfl rfl ?_ | refine L_valB (R_neI rfl rfl) el rfl rfl rfl ?_)) | refine r129 ?_))
                (refine G_retF rfl ?_)
                exact ⟨_, rfl, rfl, hex⟩
end
end Go.Proofs.YtjilnjifegeceaaGreatDoor

/-
  The verifier's 'Identical' on the input's types.
-/
namespace Go.Proofs.YtjilnjifegeceaaGreatDoor
set_option maxRecDepth 100000
set_option maxHeartbeats 4000000
attribute [local irreducible] Calls execOp

theorem r131 {G G' : Prop} (k : G') (h : Hid G' → G := by intro k_; (repeat (first | (refine cL ?_; first | (refine cL_move ?_; refine L_val R_move rfl rfl rfl ?_) | (refine cL_load ?_; first | refine L_val (R_loadB rfl (by assumption) (by rfl)) rfl rfl rfl ?_ | refine L_val (R_loadH (by assumption) rfl (by assumption) (by rfl)) rfl rfl rfl ?_) | (refine cL_fieldAddr ?_; refine L_val (R_fa rfl) rfl rfl rfl ?_) | (refine cL_assign ?_; refine L_val R_assign rfl rfl rfl ?_) | (refine cL_call ?_; refine L_val (R_len rfl) rfl rfl rfl ?_) | (refine cL_lss ?_; refine L_val (R_ltI rfl rfl) rfl rfl rfl ?_) | (refine cL_not ?_; refine L_val (R_not rfl) rfl rfl rfl ?_) | (refine cL_add ?_; refine L_val (R_addI rfl rfl) rfl rfl rfl ?_) | refine L_nil ?_) | refine G_seq ?_ | refine G_region ?_ | refine G_skip ?_ | refine G_block ?_ | refine G_end ?_ | refine G_true rfl ?_ | refine G_false rfl ?_)); exact k_.out) : G := h ⟨k⟩
theorem r132 {G G' : Prop} (k : G') (h : Hid G' → G := by intro k_; (first | (refine cL ?_; first | (refine cL_move ?_; refine L_val R_move rfl rfl rfl ?_) | (refine cL_load ?_; first | refine L_val (R_loadB rfl (by assumption) (by rfl)) rfl rfl rfl ?_ | refine L_val (R_loadH (by assumption) rfl (by assumption) (by rfl)) rfl rfl rfl ?_) | (refine cL_fieldAddr ?_; refine L_val (R_fa rfl) rfl rfl rfl ?_) | (refine cL_assign ?_; refine L_val R_assign rfl rfl rfl ?_) | (refine cL_call ?_; refine L_val (R_len rfl) rfl rfl rfl ?_) | (refine cL_lss ?_; refine L_val (R_ltI rfl rfl) rfl rfl rfl ?_) | (refine cL_not ?_; refine L_val (R_not rfl) rfl rfl rfl ?_) | (refine cL_add ?_; refine L_val (R_addI rfl rfl) rfl rfl rfl ?_) | refine L_nil ?_) | refine G_seq ?_ | refine G_region ?_ | refine G_skip ?_ | refine G_block ?_ | refine G_end ?_ | refine G_true rfl ?_ | refine G_false rfl ?_); exact k_.out) : G := h ⟨k⟩
theorem r133 {G G' A : Prop} (ag : A) (k : G') (h : Hid G' → A → G := by intro k_ ag_; (first | (refine cD_move ?_; refine D_val0 (fun _ _ => R_move) rfl rfl ?_) | (refine cD_load ?_; refine D_val0 (fun w he => R_loadH (ag_ w he) rfl (by assumption) (by rfl)) rfl rfl ?_) | (refine cD_fieldAddr ?_; refine D_val0 (fun _ _ => R_fa rfl) rfl rfl ?_) | (refine cD_assign ?_; refine D_val0 (fun _ _ => R_assign) rfl rfl ?_) | (refine cD_call ?_; refine D_val0 (fun _ _ => R_len rfl) rfl rfl ?_) | (refine cD_lss ?_; refine D_val0 (fun _ _ => R_ltI rfl rfl) rfl rfl ?_) | (refine cD_not ?_; refine D_val0 (fun _ _ => R_not rfl) rfl rfl ?_) | (refine cD_add ?_; refine D_val0 (fun _ _ => R_addI rfl rfl) rfl rfl ?_)); exact k_.out) : G := h ⟨k⟩ ag

theorem ident_eq (x y : Ty) : ident x y = (alikeT x y && identL x.es y.es) := by
  cases x
  cases y
  rfl
theorem alikeT_len {x y : Ty} (h : alikeT x y = true) : x.es.length = y.es.length := by
  simp only [alikeT, alikeP, Bool.and_eq_true, beq_iff_eq] at h
  exact h.1.2

theorem specIdent_any : ∀ (x y : Ty) (cs cs' : List Value) (H : Hp) (w : World), Agree H w → DTy H x cs → DTy H y cs' → Calls Tryz.prog 9 #[.agg cs.toArray, .agg cs'.toArray] w (Ret (Qt (.bool (ident x y)) w)) := by
  refine Ty.ind fun k0 n0 c0 b0 nm0 es0 ih => ?_
  generalize hxx : Ty.mk k0 n0 c0 b0 nm0 es0 = x
  have hese : x.es = es0 := by rw [← hxx]; rfl
  rw [← hese] at ih
  clear hese hxx
  intro y cs cs' H w hA hx hy
  obtain ⟨p, cap, rfl, -, -, -, hbd, hes⟩ := hx.cells
  obtain ⟨p', cap', rfl, -, -, -, hbd', hes'⟩ := hy.cells
  (refine calls_enter Tryz.func9 Tryz.ntmps9 rfl rfl ?_)
  (refine r131 ?_)
  refine L_box rfl rfl rfl fun b2 w1 hn1 => ?_
  refine L_box rfl rfl rfl fun b3 w2 hn2 => ?_
  obtain ⟨H1, g1, hb2⟩ := Grow.ofNew hA hn1
  obtain ⟨H2, g2, hb3⟩ := Grow.ofNew g1.ag hn2
  have hb2 := g2.le _ _ hb2
  have hA2 := g2.ag
  have hex : Ext No w w2 := hn1.ext.trans hn2.ext
  have hle := Hp.le_trans g1.le g2.le
  have hx2 := DTy.mono hle _ _ hx
  have hy2 := DTy.mono hle _ _ hy
  (repeat (first | (refine cL ?_; first | (refine cL_load ?_; first | refine L_val (R_loadAB rfl rfl (hA2 _ _ hb2)) rfl rfl rfl ?_ | refine L_val (R_loadAB rfl rfl (hA2 _ _ hb3)) rfl rfl rfl ?_)) | refine r132 ?_))
  have hal := alike_any w2 hA2 hx2 hy2
  rw [ident_eq]
  cases eal : alikeT x y with
  | false =>
    rw [eal] at hal
    refine L_callQ hal rfl rfl fun w3 hw3 => ?_
    (refine r131 ?_)
    (refine G_retF rfl ?_)
    exact ⟨_, rfl, rfl, hex.trans hw3⟩
  | true =>
    rw [eal] at hal
    have hl := alikeT_len eal
    rw [Bool.true_and, identL_eq hl]
    refine L_callQ hal rfl rfl fun w3 hw3 => ?_
    have hA3 := hA2.ext0 hw3
    (refine r131 ?_)
    refine G_loop (CountI 14 13 x.es.length [(3, ptr b3), (12, .slice p x.es.length cap)] w3 fun i => ∀ j, j < i → identR x.es y.es j = true) (fun f _ _ => countM 14 13 f)
      ⟨rfl, Ext.refl _ _, _, 0, with_self ⟨rfl, rfl, rfl, rfl, trivial⟩, Nat.zero_le _, fun j hj => absurd hj (Nat.not_lt_zero j)⟩ ?_
    rintro f ds wr ⟨rfl, hext, f0, i, rfl, hi, hJ⟩
    have hAr := hA3.ext0 hext
    by_cases h : i < x.es.length
    · have hb : decide ((i : Int) < (x.es.length : Int)) = true := decide_eq_true (by omega)
      obtain ⟨e, he⟩ : ∃ v, x.es[i]? = some v := ⟨_, List.getElem?_eq_getElem h⟩
      obtain ⟨e', he'⟩ : ∃ v', y.es[i]? = some v' := ⟨_, List.getElem?_eq_getElem (by omega)⟩
      obtain ⟨bk, off, ec, rfl, hec, hed⟩ := (hes.mono hle).get he
      obtain ⟨bk', off', ec', rfl, hec', hed'⟩ := (hes'.mono hle).get he'
      obtain ⟨q, qcap, rfl, -, -, -, -, -⟩ := hed.cells
      obtain ⟨q', qcap', rfl, -, -, -, -, -⟩ := hed'.cells
      (repeat (first | (refine cL ?_; first | (refine cL_load ?_; refine L_val (R_loadA rfl rfl fun j v hj => hAr.hcell (hec j v hj)) rfl rfl rfl ?_) | (refine cL_lss ?_; refine L_valB (R_ltI rfl rfl) hb rfl rfl rfl ?_) | (refine cL_indexAddr ?_; refine L_valE (R_ia rfl rfl (by omega) (by omega)) (ia6 _ _ _) rfl rfl rfl ?_)) | refine r132 ?_))
      refine L_allocS rfl rfl fun b6 w4 hn4 => ?_
      (refine r131 ?_)
      refine L_storeA rfl hn4.here rfl rfl rfl rfl rfl rfl fun w5 h5 e5 s5 => ?_
      obtain ⟨H5, g5, hb6⟩ := Grow.ofNew hAr (hn4.store h5 e5 s5)
      have hb3' := g5.le _ _ hb3
      have hAg : ∀ w', Ext No w5 w' → Agree _ w' := fun _ he => g5.ag.ext0 he
      have hec2 := hec'.mono g5.le
      have hr : ident e e' = identR x.es y.es i := by simp [identR, he, he']
      have hih := fun w' hA' => hr ▸ ih e (List.mem_of_getElem? he) e' _ _ H5 w' hA' (DTy.mono g5.le _ _ hed) (DTy.mono g5.le _ _ hed')
      (refine r131 ?_)
      (refine G_draw No (0 :: 1 :: 2 :: 3 :: 4 :: 5 :: 6 :: 7 :: []) [] follows (by kernel_rfl) rfl ?_)
      cases hbn : identR x.es y.es i with
      | false =>
        rw [hbn] at hih
        (repeat (first | (refine cD_load ?_; first | refine D_val0 (fun w he => R_loadA rfl rfl fun j v hj => (hAg w he).hcell (hec2 j v hj)) rfl rfl ?_ | refine D_val0 (fun w he => R_loadAB rfl rfl ((hAg w he) _ _ hb6)) rfl rfl ?_) | (refine cD_call ?_; refine D_callQ (fun w he => hih w (hAg w he)) rfl ?_) | (refine cD_indexAddr ?_; refine D_valE (fun _ _ => R_ia rfl rfl (by omega) (by omega)) (ia6 _ _ _) rfl rfl ?_) | refine r133 hAg ?_))
        refine D_nil fun w6 hw6 => ?_
        (refine r131 ?_)
        (refine G_retF rfl ?_)
        exact ⟨_, rfl, congrArg Value.bool (allR_false h hbn).symm, hex.trans (hw3.trans (hext.trans (g5.ext.trans hw6)))⟩
      | true =>
        rw [hbn] at hih
        (repeat (first | (refine cD_load ?_; first | refine D_val0 (fun w he => R_loadA rfl rfl fun j v hj => (hAg w he).hcell (hec2 j v hj)) rfl rfl ?_ | refine D_val0 (fun w he => R_loadAB rfl rfl ((hAg w he) _ _ hb6)) rfl rfl ?_) | (refine cD_call ?_; refine D_callQ (fun w he => hih w (hAg w he)) rfl ?_) | (refine cD_indexAddr ?_; refine D_valE (fun _ _ => R_ia rfl rfl (by omega) (by omega)) (ia6 _ _ _) rfl rfl ?_) | refine r133 hAg ?_))
        refine D_nil fun w6 hw6 => ?_
        (repeat (first | (refine cL ?_; first | (refine cL_add ?_; refine L_valE (R_addI rfl rfl) (succ_i64 h (by omega)) rfl rfl rfl ?_)) | refine r132 ?_))
        refine G_inv ⟨⟨rfl, hext.trans (g5.ext.trans hw6), _, i + 1, with_self ⟨rfl, rfl, rfl, rfl, trivial⟩, h, fun j hj => ?_⟩, ?_⟩
        · rcases Nat.lt_succ_iff_lt_or_eq.1 hj with hj | rfl
          · exact hJ j hj
          · exact hbn
        · show ((x.es.length : Int) - ((i + 1 : Nat) : Int)).toNat < ((x.es.length : Int) - (i : Int)).toNat
          omega
    · have hb : decide ((i : Int) < (x.es.length : Int)) = false := decide_eq_false (by omega)
      (repeat (first | (refine cL ?_; first | (refine cL_lss ?_; refine L_valB (R_ltI rfl rfl) hb rfl rfl rfl ?_)) | refine G_exit rfl ?_ | refine r132 ?_))
      (refine G_retF rfl ?_)
      exact ⟨_, rfl, congrArg Value.bool (allR_true fun j hj => hJ j (by omega)).symm, hex.trans (hw3.trans hext)⟩
end Go.Proofs.YtjilnjifegeceaaGreatDoor

/-
  'works': a type parameter and a basic type unify; a number's remainder.
-/
namespace Go.Proofs.YtjilnjifegeceaaGreatDoor
set_option maxRecDepth 100000
set_option maxHeartbeats 4000000
attribute [local irreducible] Calls execOp

theorem r134 {G G' : Prop} (k : G') (h : Hid G' → G := by intro k_; (first | (refine cL ?_; first | (refine cL_guard ?_; refine L_unwanted rfl rfl rfl ?_) | (refine cL_move ?_; refine L_val R_move rfl rfl rfl ?_) | (refine cL_load ?_; first | refine L_val (R_loadB rfl (by assumption) (by rfl)) rfl rfl rfl ?_ | refine L_val (R_loadH (by assumption) rfl (by assumption) (by rfl)) rfl rfl rfl ?_) | (refine cL_fieldAddr ?_; refine L_val (R_fa rfl) rfl rfl rfl ?_) | (refine cL_assign ?_; refine L_val R_assign rfl rfl rfl ?_) | (refine cL_extract ?_; refine L_val (R_extract rfl rfl) rfl rfl rfl ?_) | (refine cL_call ?_; refine L_val (R_len rfl) rfl rfl rfl ?_) | (refine cL_pick ?_; first | refine L_val (R_pickT rfl) rfl rfl rfl ?_ | refine L_val (R_pickF rfl) rfl rfl rfl ?_) | (refine cL_eql ?_; first | refine L_val (R_eqPN rfl rfl) rfl rfl rfl ?_ | refine L_val (R_eqI rfl rfl) rfl rfl rfl ?_ | refine L_val (R_eqB rfl rfl) rfl rfl rfl ?_ | refine L_val (R_eqIfN rfl rfl) rfl rfl rfl ?_ | refine L_val (R_eqIfNN rfl) rfl rfl rfl ?_) | refine L_nil ?_) | refine G_seq ?_ | refine G_region ?_ | refine G_skip ?_ | refine G_block ?_ | refine G_end ?_ | refine G_true rfl ?_ | refine G_false rfl ?_); exact k_.out) : G := h ⟨k⟩
theorem r135 {G G' : Prop} (k : G') (h : Hid G' → G := by intro k_; (repeat (first | (refine cL ?_; first | (refine cL_guard ?_; refine L_unwanted rfl rfl rfl ?_) | (refine cL_move ?_; refine L_val R_move rfl rfl rfl ?_) | (refine cL_load ?_; first | refine L_val (R_loadB rfl (by assumption) (by rfl)) rfl rfl rfl ?_ | refine L_val (R_loadH (by assumption) rfl (by assumption) (by rfl)) rfl rfl rfl ?_) | (refine cL_fieldAddr ?_; refine L_val (R_fa rfl) rfl rfl rfl ?_) | (refine cL_assign ?_; refine L_val R_assign rfl rfl rfl ?_) | (refine cL_extract ?_; refine L_val (R_extract rfl rfl) rfl rfl rfl ?_) | (refine cL_call ?_; refine L_val (R_len rfl) rfl rfl rfl ?_) | (refine cL_pick ?_; first | refine L_val (R_pickT rfl) rfl rfl rfl ?_ | refine L_val (R_pickF rfl) rfl rfl rfl ?_) | (refine cL_eql ?_; first | refine L_val (R_eqPN rfl rfl) rfl rfl rfl ?_ | refine L_val (R_eqI rfl rfl) rfl rfl rfl ?_ | refine L_val (R_eqB rfl rfl) rfl rfl rfl ?_ | refine L_val (R_eqIfN rfl rfl) rfl rfl rfl ?_ | refine L_val (R_eqIfNN rfl) rfl rfl rfl ?_) | refine L_nil ?_) | refine G_seq ?_ | refine G_region ?_ | refine G_skip ?_ | refine G_block ?_ | refine G_end ?_ | refine G_true rfl ?_ | refine G_false rfl ?_)); exact k_.out) : G := h ⟨k⟩
theorem r136 {G G' A : Prop} (ag : A) (k : G') (h : Hid G' → A → G := by intro k_ ag_; (first | (refine cD_guard ?_; refine D_unwanted rfl rfl ?_) | (refine cD_move ?_; refine D_val0 (fun _ _ => R_move) rfl rfl ?_) | (refine cD_load ?_; refine D_val0 (fun w he => R_loadH (ag_ w he) rfl (by assumption) (by rfl)) rfl rfl ?_) | (refine cD_fieldAddr ?_; refine D_val0 (fun _ _ => R_fa rfl) rfl rfl ?_) | (refine cD_assign ?_; refine D_val0 (fun _ _ => R_assign) rfl rfl ?_) | (refine cD_extract ?_; refine D_val0 (fun _ _ => R_extract rfl rfl) rfl rfl ?_) | (refine cD_call ?_; refine D_val0 (fun _ _ => R_len rfl) rfl rfl ?_) | (refine cD_pick ?_; first | refine D_val0 (fun _ _ => R_pickT rfl) rfl rfl ?_ | refine D_val0 (fun _ _ => R_pickF rfl) rfl rfl ?_) | (refine cD_eql ?_; first | refine D_val0 (fun _ _ => R_eqPN rfl rfl) rfl rfl ?_ | refine D_val0 (fun _ _ => R_eqI rfl rfl) rfl rfl ?_ | refine D_val0 (fun _ _ => R_eqB rfl rfl) rfl rfl ?_ | refine D_val0 (fun _ _ => R_eqIfN rfl rfl) rfl rfl ?_ | refine D_val0 (fun _ _ => R_eqIfNN rfl) rfl rfl ?_)); exact k_.out) : G := h ⟨k⟩ ag

theorem place_gen {n k : Int} (w : World) (h0 : 0 < k) (h1 : k ≤ 1000000) : Calls Tryz.prog 13 #[.int .i64 n, .int .i64 k] w (Ret fun v w' => ∃ m, v = .int .i64 m ∧ 0 ≤ m ∧ m < k ∧ w' = w) := by
  have g1 : -k < n.tmod k := Int.lt_tmod_of_pos n h0
  have g2 : n.tmod k < k := Int.tmod_lt_of_pos n h0
  have hw : Value.int .i64 (IntKind.i64.wrap (n.tmod k + k)) = .int .i64 (n.tmod k + k) := by rw [wrap_i64 (by omega) (by omega)]
  have g3 : 0 ≤ (n.tmod k + k).tmod k := Int.tmod_nonneg k (by omega)
  have g4 : (n.tmod k + k).tmod k < k := Int.tmod_lt_of_pos _ h0
  have hk : k ≠ 0 := by omega
  (refine calls_enter Tryz.func13 Tryz.ntmps13 rfl rfl ?_)
  (repeat (first | (refine cL ?_; first | (refine cL_add ?_; refine L_valE (R_addI rfl rfl) hw rfl rfl rfl ?_) | (refine cL_rem ?_; refine L_val (R_remI rfl rfl hk) rfl rfl rfl ?_)) | refine r108 ?_))
  (refine G_retF rfl ?_)
  exact ⟨_, rfl, _, rfl, g3, g4, rfl⟩

/-- an inferred type argument, as a law reads it -/
theorem InfSl.at {H : Hp} {L : List (Option Ty)} {v : Value} {i : Nat} {o : Option Ty} (h : InfSl H L v) (ho : L[i]? = some o) : ∃ g c cs, v = .slice (some ⟨g, 0, none⟩) L.length c ∧ H g = some (Ob cs 35) ∧
    (match o with | none => ∀ (j : Nat) (u : Value), lget zInf j = some u → lget cs (i * 7 + j) = some u | some t => ∃ tc, DTy H t tc ∧ ∀ (j : Nat) (u : Value), lget (Value.bool true :: tc) j = some u → lget cs (i * 7 + j) = some u) := by
  obtain ⟨q, c, cs, rfl, hrow, he⟩ := h
  obtain ⟨c1, h1, h2, h3⟩ := hrow.get ho
  rcases he with rfl | ⟨g, r, rfl, hg⟩
  · simp at ho
  · refine ⟨g, c, cs ++ r, rfl, hg, ?_⟩
    cases o with
    | none =>
      simp only [InfOne] at h1
      subst h1
      exact fun j u hj => h3 j u r hj
    | some t =>
      obtain ⟨tc, rfl, h4⟩ := h1
      exact ⟨tc, h4, fun j u hj => h3 j u r hj⟩

theorem hcells_at {H : Hp} {g i : Nat} {cs tc : List Value} {T : Nat} (hg : H g = some (Ob cs T)) (h : ∀ (j : Nat) (u : Value), lget (Value.bool true :: tc) j = some u → lget cs (i + j) = some u) : HCells H g (i + 1) tc := by
  intro j v hj
  have h1 := h (j + 1) v (by rw [lget_eq] at hj ⊢; simpa using hj)
  refine ⟨_, _, _, hg, ?_⟩
  rw [lget_eq] at h1
  rw [show i + 1 + j = i + (j + 1) by omega]
  simpa using h1

theorem works_any {H : Hp} (w : World) (hA : Agree H w) (hP : Props H) : Calls Tryz.prog 12 #[] w (Ret (Qt (.bool true) w)) := by
  (refine calls_enter Tryz.func12 Tryz.ntmps12 rfl rfl ?_)
  (repeat (first | (refine cL ?_; first | (refine cL_guard ?_; refine L_unwanted rfl rfl rfl ?_) | (refine cL_build ?_; first | refine L_val (R_build (cs := tyCells 2 0 0 false (.slice none 0 0) ⟨#[]⟩) rfl) rfl rfl rfl ?_ | refine L_val (R_build (cs := tyCells 0 1 0 false (.slice none 0 0) ⟨#[]⟩) rfl) rfl rfl rfl ?_)) | refine r134 ?_))
  refine L_allocS rfl rfl fun b1 w1 hn1 => ?_
  refine L_allocS rfl rfl fun b2 w2 hn2 => ?_
  have f1 := hn1.fresh
  have f2 := hn2.fresh
  have z1 := hn1.size
  have h12 := hn2.ext.heap (fun x => x) hn1.here
  refine L_storeA (vs := tyCells 2 0 0 false (.slice none 0 0) ⟨#[]⟩) rfl h12 rfl rfl rfl rfl rfl rfl fun w3 h3 e3 s3 => ?_
  have h23 := e3.heap (by omega) hn2.here
  refine L_storeA (vs := tyCells 0 1 0 false (.slice none 0 0) ⟨#[]⟩) rfl h23 rfl rfl rfl rfl rfl rfl fun w4 h4 e4 s4 => ?_
  have h34 := e4.heap (show b1 ≠ b2 by omega) h3
  have x4 : Ext No w w4 := ((hn1.ext.trans hn2.ext).trans_new e3 fun j hj hm => by omega).trans_new e4 fun j hj hm => by omega
  obtain ⟨H5, g5, -, hb1⟩ := (Grow.quiet hA x4).add h34 (by omega)
  obtain ⟨H6, g6, le6, hb2⟩ := g5.add h4 (by omega)
  have hb1 := le6 _ _ hb1
  have hA6 := g6.ag
  have hP6 := hP.mono g6.le
  have hd1 : DTy H6 (.mk 2 0 0 false ⟨#[]⟩ []) (tyCells 2 0 0 false (.slice none 0 0) ⟨#[]⟩) := DTy.mk (by decide) (by decide) (by decide) (by decide) (.inl rfl)
  have hd2 : DTy H6 (.mk 0 1 0 false ⟨#[]⟩ []) (tyCells 0 1 0 false (.slice none 0 0) ⟨#[]⟩) := DTy.mk (by decide) (by decide) (by decide) (by decide) (.inl rfl)
  have hdd : DDl H6 [] none := fun i d hd => by simp at hd
  have hv : ValidD [] 1 [] := ⟨by decide, by decide, by decide, fun i d hd => by simp at hd, fun t ht => by simp at ht⟩
  have hs1 : shapedB [] 1 0 (.mk 2 0 0 false ⟨#[]⟩ []) = true := by simp [shapedB, shapedLB, headB, head2, head4, head6, head8, elemsL, limitL]
  have hs2 : shapedB [] 1 0 (.mk 0 1 0 false ⟨#[]⟩ []) = true := by simp [shapedB, shapedLB, headB, head2, head4, head6, head8, elemsL, limitL]
  have hok : okT (.mk 0 1 0 false ⟨#[]⟩ []) := by simp only [okT, okTL]; exact ⟨by decide, fun _ => by decide, by decide, trivial⟩
  have hun := implUnify_any (ds := []) (p := none) (dcap := 0) (params := 1) (m := 0) (Φ := InfersΦ 0 (.mk 0 1 0 false ⟨#[]⟩ [])) w4 hA6 hP6 hdd hd1 hd2 hv hs1 hs2 (.inl rfl) fun E H' hle hE hP' hpl hdl =>
    (tells_param (p := 0) (.inl rfl) hE (by omega) hok (by decide) (substT_closed _ hs2) (substT_closed _ hs1)).1
  (repeat (first | (refine cL ?_; first | (refine cL_guard ?_; refine L_unwanted rfl rfl rfl ?_) | (refine cL_load ?_; first | refine L_val (R_loadAB rfl rfl (hA6 _ _ hb1)) rfl rfl rfl ?_ | refine L_val (R_loadAB rfl rfl (hA6 _ _ hb2)) rfl rfl rfl ?_)) | refine r134 ?_))
  refine L_callR hun rfl rfl fun v w7 ⟨vo, r, L', H7, hv7, g7, hsl, hll, hr, t', hget, hid⟩ => ?_
  subst hv7
  subst hr
  obtain ⟨g, c, cs, rfl, hg, tc, htd, hcs⟩ := hsl.at hget
  have hl1 : L'.length = 1 := by omega
  rw [hl1]
  have hb2' := g7.le _ _ hb2
  have hA7 := g7.ag
  have hcb : lget cs 0 = some (.bool true) := hcs 0 _ rfl
  have hcl := hcells_at (i := 0) hg (fun j u hj => by have := hcs j u hj; simpa using this)
  obtain ⟨q, cq, htc, -⟩ := htd.cells
  have htd2 := htd
  rw [htc] at htd2
  subst htc
  have hAg : ∀ w', Ext No w7 w' → Agree H7 w' := fun _ he => hA7.ext0 he
  have hsi := fun w' (he : Ext No w7 w') => hid ▸ specIdent_any t' (.mk 0 1 0 false ⟨#[]⟩ []) _ _ H7 w' (hAg w' he) htd2 (DTy.mono g7.le _ _ hd2)
  (refine r135 ?_)
  (refine G_draw No (0 :: 1 :: 2 :: 3 :: 4 :: 5 :: 6 :: 7 :: 8 :: 9 :: 10 :: 11 :: 12 :: 13 :: 14 :: 15 :: 16 :: 17 :: 18 :: 19 :: 20 :: []) [] follows (by kernel_rfl) rfl ?_)
  (repeat (first | (refine cD_guard ?_; refine D_unwanted rfl rfl ?_) | (refine cD_load ?_; first | refine D_val0 (fun w he => R_loadH (hAg w he) rfl hg hcb) rfl rfl ?_ | refine D_val0 (fun w he => R_loadA (vs := tyCells t'.k t'.n t'.c t'.b (.slice q t'.es.length cq) t'.nm) rfl rfl fun j v hj => (hAg w he).hcell (hcl j v hj)) rfl rfl ?_ | refine D_val0 (fun w he => R_loadAB rfl rfl ((hAg w he) _ _ hb2')) rfl rfl ?_) | (refine cD_call ?_; refine D_callQ (fun w he => hsi w he) rfl ?_) | (refine cD_eql ?_; refine D_valE (fun _ _ => R_eqI rfl rfl) (v' := .bool true) rfl rfl rfl ?_) | (refine cD_indexAddr ?_; refine D_valE (fun _ _ => R_ia rfl rfl (by decide) (by decide)) (show _ = Value.pointer (some ⟨g, 0, none⟩) from rfl) rfl rfl ?_) | refine r136 hAg ?_))
  refine D_nil fun w8 he8 => ?_
  (refine r135 ?_)
  (refine G_retF rfl ?_)
  exact ⟨_, rfl, rfl, g6.ext.trans (g7.ext.trans he8)⟩
end Go.Proofs.YtjilnjifegeceaaGreatDoor

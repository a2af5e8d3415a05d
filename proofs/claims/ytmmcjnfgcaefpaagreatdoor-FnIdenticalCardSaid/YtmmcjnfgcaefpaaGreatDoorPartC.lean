/-
  A part of the proof that laws.FnIdentical returns true at every input: the walk's own rules and the contracts of functions, in build order.
  Its conditions are those of the statement: see the last text.
-/
import Derived.Test.YtmmcjnfgcaefpaaGreatDoorPartB

/-
  What the verifier's own functions say of types as data. Plain Lean.
-/
namespace Go.Proofs.YtmmcjnfgcaefpaaGreatDoor

def elemsL (k : Int) : Int :=
  if k = 0 ∨ k = 2 ∨ k = 3 then 0 else if k = 7 then 2 else if k = 1 ∨ k = 9 ∨ k = 10 then -1 else 1

def limitL (nd : Nat) (k params own : Int) : Int :=
  if k = 0 then 17 else if k = 1 then nd else if k = 2 then params else if k = 3 then own else if k = 6 then -1 else if k = 8 then 3 else -2

def nmAt (es : List Ty) (i : Nat) : ByteArray := (es[i]?.map Ty.nm).getD ⟨#[]⟩

/-- one capital letter, as the verifier tests it -/
def letterB (s : ByteArray) : Bool :=
  ((s.size : Int) == 1) && (!(Op.bytesLess s.toList (⟨#[65]⟩ : ByteArray).toList) && (Op.bytesLess s.toList (⟨#[90]⟩ : ByteArray).toList || s.toList == (⟨#[90]⟩ : ByteArray).toList))

def nameB (es : List Ty) (i : Nat) : Bool := (List.range i).all (fun j => !beqB (nmAt es j) (nmAt es i)) && letterB (nmAt es i)

def namesB (es : List Ty) : Bool := (List.range es.length).all (nameB es)

/-! what is asked of one type's own parts, test for test -/
def head2 (k len : Int) : Bool := decide (k < 0) || (decide (k > 10) || (decide (elemsL k ≥ 0) && (len != elemsL k)))
def head4 (lim n : Int) : Bool := (decide (lim ≥ -1) && decide (n < 0)) || (decide (lim ≥ 0) && decide (n ≥ lim))
def head6 (ds : List (Int × Ty)) (k n len : Int) : Bool := (k == 1) && (len != (ds[n.toNat]?.map (·.1)).getD 0)
def head8 (k c : Int) (b : Bool) (es : List Ty) : Bool :=
  (k == 10) && (decide (c < 0) || (decide (c > es.length) || (b && ((c == 0) || ((es[(c - 1).toNat]?.map Ty.k).getD 0 != 5)))))
def headB (ds : List (Int × Ty)) (k n c : Int) (b : Bool) (es : List Ty) (params own : Int) : Bool :=
  !head2 k es.length && (!head4 (limitL ds.length k params own) n && (!head6 ds k n es.length && !head8 k c b es))

mutual
def shapedB (ds : List (Int × Ty)) (params own : Int) : Ty → Bool
  | .mk k n c b _ es => headB ds k n c b es params own && (shapedLB ds params own es && (!(k == 9) || namesB es))
def shapedLB (ds : List (Int × Ty)) (params own : Int) : List Ty → Bool
  | [] => true
  | e :: es => shapedB ds params own e && shapedLB ds params own es
end

mutual
def sizeW : Ty → Int
  | .mk _ _ _ _ _ es => sizeWL 1 es
def sizeWL (n : Int) : List Ty → Int
  | [] => n
  | e :: es => sizeWL (IntKind.i64.wrap (n + sizeW e)) es
end

def shAt (ds : List (Int × Ty)) (params own : Int) (es : List Ty) (i : Nat) : Bool := match es[i]? with | some e => shapedB ds params own e | none => true

theorem shapedLB_eq (ds : List (Int × Ty)) (params own : Int) : ∀ es : List Ty, shapedLB ds params own es = (List.range es.length).all (shAt ds params own es)
  | [] => rfl
  | e :: es => by
    rw [List.length_cons, List.range_succ_eq_map, List.all_cons, List.all_map, shapedLB, shapedLB_eq ds params own es]
    rfl

/-- part i of a type is in order -/
def partB (ds : List (Int × Ty)) (params own k : Int) (es : List Ty) (i : Nat) : Bool := shAt ds params own es i && (!(k == 9) || nameB es i)

theorem all_or (c : Bool) (p q : Nat → Bool) : ∀ l : List Nat, (l.all p && (c || l.all q)) = l.all fun i => p i && (c || q i)
  | [] => by cases c <;> rfl
  | a :: l => by
    simp only [List.all_cons]
    rw [← all_or c p q l]
    cases p a <;> cases q a <;> cases c <;> cases l.all p <;> cases l.all q <;> rfl

theorem shapedB_eq (ds : List (Int × Ty)) (params own : Int) (t : Ty) : shapedB ds params own t = (headB ds t.k t.n t.c t.b t.es params own && (List.range t.es.length).all (partB ds params own t.k t.es)) := by
  cases t with
  | mk k n c b nm es =>
    simp only [shapedB, Ty.k, Ty.n, Ty.c, Ty.b, Ty.es, shapedLB_eq, namesB]
    rw [all_or]
    rfl
end Go.Proofs.YtmmcjnfgcaefpaaGreatDoor

/-
  The verifier's 'alike' and 'Identical' on the input's types.
-/
namespace Go.Proofs.YtmmcjnfgcaefpaaGreatDoor
set_option maxRecDepth 100000
set_option maxHeartbeats 4000000
attribute [local irreducible] Calls execOp

def alikeT (x y : Ty) : Bool := alikeP x.k x.n x.c x.b x.es y.k y.n y.c y.b y.es

theorem namesEq_eq : ∀ {es es' : List Ty}, es.length = es'.length → namesEq es es' = (List.range es.length).all fun i => beqB ((es[i]?.map Ty.nm).getD ⟨#[]⟩) ((es'[i]?.map Ty.nm).getD ⟨#[]⟩)
  | [], [], _ => rfl
  | e :: es, e' :: es', h => by
    rw [List.length_cons, List.range_succ_eq_map, List.all_cons, List.all_map, namesEq, namesEq_eq (by simpa using h)]
    rfl
  | [], _ :: _, h => by simp at h
  | _ :: _, [], h => by simp at h

section
variable {H : Hp} {x y : Ty} {cs cs' : List Value} (w : World) (hA : Agree H w) (hx : DTy H x cs) (hy : DTy H y cs')
include hA hx hy

theorem alike_any : Calls Tryz.prog 14 #[.agg cs.toArray, .agg cs'.toArray] w (Ret (Qt (.bool (alikeT x y)) w)) := by
  obtain ⟨p, cap, rfl, -, -, -, hbd, hes⟩ := hx.cells
  obtain ⟨p', cap', rfl, -, -, -, hbd', hes'⟩ := hy.cells
  (refine calls_enter Tryz.func14 Tryz.ntmps14 rfl rfl ?_)
  (repeat (first | (refine cL ?_; first | (refine cL_guard ?_; refine L_unwanted rfl rfl rfl ?_) | (refine cL_move ?_; refine L_val R_move rfl rfl rfl ?_) | (refine cL_load ?_; first | refine L_val (R_loadB rfl (by assumption) (by rfl)) rfl rfl rfl ?_ | refine L_val (R_loadH (by assumption) rfl (by assumption) (by rfl)) rfl rfl rfl ?_) | (refine cL_fieldAddr ?_; refine L_val (R_fa rfl) rfl rfl rfl ?_) | (refine cL_assign ?_; refine L_val R_assign rfl rfl rfl ?_) | (refine cL_call ?_; refine L_val (R_len rfl) rfl rfl rfl ?_) | (refine cL_pick ?_; first | refine L_val (R_pickT rfl) rfl rfl rfl ?_ | refine L_val (R_pickF rfl) rfl rfl rfl ?_) | (refine cL_eql ?_; first | refine L_val (R_eqPN rfl rfl) rfl rfl rfl ?_ | refine L_val (R_eqI rfl rfl) rfl rfl rfl ?_ | refine L_val (R_eqB rfl rfl) rfl rfl rfl ?_ | refine L_val (R_eqIfN rfl rfl) rfl rfl rfl ?_ | refine L_val (R_eqIfNN rfl) rfl rfl rfl ?_) | (refine cL_neq ?_; first | refine L_val (R_nePN rfl rfl) rfl rfl rfl ?_ | refine L_val (R_neI rfl rfl) rfl rfl rfl ?_ | refine L_val (R_neB rfl rfl) rfl rfl rfl ?_ | refine L_val (R_neIfN rfl rfl) rfl rfl rfl ?_ | refine L_val (R_neIfNN rfl) rfl rfl rfl ?_) | (refine cL_lss ?_; refine L_val (R_ltI rfl rfl) rfl rfl rfl ?_) | (refine cL_add ?_; refine L_val (R_addI rfl rfl) rfl rfl rfl ?_) | refine L_nil ?_) | refine G_seq ?_ | refine G_region ?_ | refine G_skip ?_ | refine G_block ?_ | refine G_end ?_ | refine G_true rfl ?_ | refine G_false rfl ?_))
  refine L_box rfl rfl rfl fun b2 w1 hn1 => ?_
  refine L_box rfl rfl rfl fun b3 w2 hn2 => ?_
  obtain ⟨H1, g1, hb2⟩ := Grow.ofNew hA hn1
  obtain ⟨H2, g2, hb3⟩ := Grow.ofNew g1.ag hn2
  have hb2 := g2.le _ _ hb2
  have hA2 := g2.ag
  have hex : Ext No w w2 := hn1.ext.trans hn2.ext
  have hle := Hp.le_trans g1.le g2.le
  cases ek : (x.k != y.k) with
  | true =>
    have hv : alikeT x y = false := by simp at ek; simp [alikeT, alikeP, ek]
    (repeat (first | (refine cL ?_; first | (refine cL_guard ?_; refine L_unwanted rfl rfl rfl ?_) | (refine cL_move ?_; refine L_val R_move rfl rfl rfl ?_) | (refine cL_load ?_; first | refine L_val (R_loadB rfl (by assumption) (by rfl)) rfl rfl rfl ?_ | refine L_val (R_loadH (by assumption) rfl (by assumption) (by rfl)) rfl rfl rfl ?_) | (refine cL_fieldAddr ?_; refine L_val (R_fa rfl) rfl rfl rfl ?_) | (refine cL_assign ?_; refine L_val R_assign rfl rfl rfl ?_) | (refine cL_call ?_; refine L_val (R_len rfl) rfl rfl rfl ?_) | (refine cL_pick ?_; first | refine L_val (R_pickT rfl) rfl rfl rfl ?_ | refine L_val (R_pickF rfl) rfl rfl rfl ?_) | (refine cL_eql ?_; first | refine L_val (R_eqPN rfl rfl) rfl rfl rfl ?_ | refine L_val (R_eqI rfl rfl) rfl rfl rfl ?_ | refine L_val (R_eqB rfl rfl) rfl rfl rfl ?_ | refine L_val (R_eqIfN rfl rfl) rfl rfl rfl ?_ | refine L_val (R_eqIfNN rfl) rfl rfl rfl ?_) | (refine cL_neq ?_; first | refine L_valB (R_neI rfl rfl) ek rfl rfl rfl ?_ | refine L_val (R_nePN rfl rfl) rfl rfl rfl ?_ | refine L_val (R_neI rfl rfl) rfl rfl rfl ?_ | refine L_val (R_neB rfl rfl) rfl rfl rfl ?_ | refine L_val (R_neIfN rfl rfl) rfl rfl rfl ?_ | refine L_val (R_neIfNN rfl) rfl rfl rfl ?_) | (refine cL_lss ?_; refine L_val (R_ltI rfl rfl) rfl rfl rfl ?_) | (refine cL_add ?_; refine L_val (R_addI rfl rfl) rfl rfl rfl ?_) | refine L_nil ?_) | refine G_seq ?_ | refine G_region ?_ | refine G_skip ?_ | refine G_block ?_ | refine G_end ?_ | refine G_true rfl ?_ | refine G_false rfl ?_))
    (refine G_retF rfl ?_)
    exact ⟨_, rfl, by rw [hv]; rfl, hex⟩
  | false =>
    have hk : x.k = y.k := by simpa using ek
    cases el : ((x.es.length : Int) != (y.es.length : Int)) with
    | true =>
      have hl : x.es.length ≠ y.es.length := by
        simp at el
        omega
      have hv : alikeT x y = false := by simp [alikeT, alikeP, hl]
      (repeat (first | (refine cL ?_; first | (refine cL_guard ?_; refine L_unwanted rfl rfl rfl ?_) | (refine cL_move ?_; refine L_val R_move rfl rfl rfl ?_) | (refine cL_load ?_; first | refine L_val (R_loadB rfl (by assumption) (by rfl)) rfl rfl rfl ?_ | refine L_val (R_loadH (by assumption) rfl (by assumption) (by rfl)) rfl rfl rfl ?_) | (refine cL_fieldAddr ?_; refine L_val (R_fa rfl) rfl rfl rfl ?_) | (refine cL_assign ?_; refine L_val R_assign rfl rfl rfl ?_) | (refine cL_call ?_; refine L_val (R_len rfl) rfl rfl rfl ?_) | (refine cL_pick ?_; first | refine L_val (R_pickT rfl) rfl rfl rfl ?_ | refine L_val (R_pickF rfl) rfl rfl rfl ?_) | (refine cL_eql ?_; first | refine L_val (R_eqPN rfl rfl) rfl rfl rfl ?_ | refine L_val (R_eqI rfl rfl) rfl rfl rfl ?_ | refine L_val (R_eqB rfl rfl) rfl rfl rfl ?_ | refine L_val (R_eqIfN rfl rfl) rfl rfl rfl ?_ | refine L_val (R_eqIfNN rfl) rfl rfl rfl ?_) | (refine cL_neq ?_; first | refine L_valB (R_neI rfl rfl) ek rfl rfl rfl ?_ | refine L_valB (R_neI rfl rfl) el rfl rfl rfl ?_ | refine L_val (R_nePN rfl rfl) rfl rfl rfl ?_ | refine L_val (R_neI rfl rfl) rfl rfl rfl ?_ | refine L_val (R_neB rfl rfl) rfl rfl rfl ?_ | refine L_val (R_neIfN rfl rfl) rfl rfl rfl ?_ | refine L_val (R_neIfNN rfl) rfl rfl rfl ?_) | (refine cL_lss ?_; refine L_val (R_ltI rfl rfl) rfl rfl rfl ?_) | (refine cL_add ?_; refine L_val (R_addI rfl rfl) rfl rfl rfl ?_) | refine L_nil ?_) | refine G_seq ?_ | refine G_region ?_ | refine G_skip ?_ | refine G_block ?_ | refine G_end ?_ | refine G_true rfl ?_ | refine G_false rfl ?_))
      (refine G_retF rfl ?_)
      exact ⟨_, rfl, by rw [hv]; rfl, hex⟩
    | false =>
      have hl : x.es.length = y.es.length := by
        simp at el
        omega
      cases e9 : (x.k == 9) with
      | true =>
        have hk9 : x.k = 9 := by simpa using e9
        have hv : alikeT x y = (List.range x.es.length).all fun i => beqB ((x.es[i]?.map Ty.nm).getD ⟨#[]⟩) ((y.es[i]?.map Ty.nm).getD ⟨#[]⟩) := by
          rw [← namesEq_eq hl]
          simp [alikeT, alikeP, hl, ← hk, hk9]
        rw [hv]
        (repeat (first | (refine cL ?_; first | (refine cL_guard ?_; refine L_unwanted rfl rfl rfl ?_) | (refine cL_move ?_; refine L_val R_move rfl rfl rfl ?_) | (refine cL_load ?_; first | refine L_val (R_loadB rfl (by assumption) (by rfl)) rfl rfl rfl ?_ | refine L_val (R_loadH (by assumption) rfl (by assumption) (by rfl)) rfl rfl rfl ?_) | (refine cL_fieldAddr ?_; refine L_val (R_fa rfl) rfl rfl rfl ?_) | (refine cL_assign ?_; refine L_val R_assign rfl rfl rfl ?_) | (refine cL_call ?_; refine L_val (R_len rfl) rfl rfl rfl ?_) | (refine cL_pick ?_; first | refine L_val (R_pickT rfl) rfl rfl rfl ?_ | refine L_val (R_pickF rfl) rfl rfl rfl ?_) | (refine cL_eql ?_; first | refine L_valB (R_eqI rfl rfl) e9 rfl rfl rfl ?_ | refine L_val (R_eqPN rfl rfl) rfl rfl rfl ?_ | refine L_val (R_eqI rfl rfl) rfl rfl rfl ?_ | refine L_val (R_eqB rfl rfl) rfl rfl rfl ?_ | refine L_val (R_eqIfN rfl rfl) rfl rfl rfl ?_ | refine L_val (R_eqIfNN rfl) rfl rfl rfl ?_) | (refine cL_neq ?_; first | refine L_valB (R_neI rfl rfl) ek rfl rfl rfl ?_ | refine L_valB (R_neI rfl rfl) el rfl rfl rfl ?_ | refine L_val (R_nePN rfl rfl) rfl rfl rfl ?_ | refine L_val (R_neI rfl rfl) rfl rfl rfl ?_ | refine L_val (R_neB rfl rfl) rfl rfl rfl ?_ | refine L_val (R_neIfN rfl rfl) rfl rfl rfl ?_ | refine L_val (R_neIfNN rfl) rfl rfl rfl ?_) | (refine cL_lss ?_; refine L_val (R_ltI rfl rfl) rfl rfl rfl ?_) | (refine cL_add ?_; refine L_val (R_addI rfl rfl) rfl rfl rfl ?_) | refine L_nil ?_) | refine G_seq ?_ | refine G_region ?_ | refine G_skip ?_ | refine G_block ?_ | refine G_end ?_ | refine G_true rfl ?_ | refine G_false rfl ?_))
        refine G_loop (CountI 28 27 x.es.length [(3, ptr b3), (26, .slice p x.es.length cap)] w2 fun i => ∀ j, j < i → beqB ((x.es[j]?.map Ty.nm).getD ⟨#[]⟩) ((y.es[j]?.map Ty.nm).getD ⟨#[]⟩) = true) (fun f _ _ => countM 28 27 f)
          ⟨rfl, Ext.refl _ _, _, 0, with_self ⟨rfl, rfl, rfl, rfl, trivial⟩, Nat.zero_le _, fun j hj => absurd hj (Nat.not_lt_zero j)⟩ ?_
        rintro f ds wr ⟨rfl, hext, f0, i, rfl, hi, hJ⟩
        have hAr := hA2.ext0 hext
        by_cases h : i < x.es.length
        · have hb : decide ((i : Int) < (x.es.length : Int)) = true := decide_eq_true (by omega)
          obtain ⟨e, he⟩ : ∃ v, x.es[i]? = some v := ⟨_, List.getElem?_eq_getElem h⟩
          obtain ⟨e', he'⟩ : ∃ v', y.es[i]? = some v' := ⟨_, List.getElem?_eq_getElem (by omega)⟩
          obtain ⟨bk, off, ec, rfl, hec, hed⟩ := (hes.mono hle).get he
          obtain ⟨bk', off', ec', rfl, hec', hed'⟩ := (hes'.mono hle).get he'
          obtain ⟨q, qcap, rfl, -, -, -, -, -⟩ := hed.cells
          obtain ⟨q', qcap', rfl, -, -, -, -, -⟩ := hed'.cells
          (repeat (first | (refine cL ?_; first | (refine cL_guard ?_; refine L_unwanted rfl rfl rfl ?_) | (refine cL_move ?_; refine L_val R_move rfl rfl rfl ?_) | (refine cL_load ?_; first | refine L_val (R_loadA rfl rfl fun j v hj => hAr.hcell (hec j v hj)) rfl rfl rfl ?_ | refine L_val (R_loadB rfl (by assumption) (by rfl)) rfl rfl rfl ?_ | refine L_val (R_loadH (by assumption) rfl (by assumption) (by rfl)) rfl rfl rfl ?_) | (refine cL_fieldAddr ?_; refine L_val (R_fa rfl) rfl rfl rfl ?_) | (refine cL_assign ?_; refine L_val R_assign rfl rfl rfl ?_) | (refine cL_call ?_; refine L_val (R_len rfl) rfl rfl rfl ?_) | (refine cL_pick ?_; first | refine L_val (R_pickT rfl) rfl rfl rfl ?_ | refine L_val (R_pickF rfl) rfl rfl rfl ?_) | (refine cL_eql ?_; first | refine L_val (R_eqPN rfl rfl) rfl rfl rfl ?_ | refine L_val (R_eqI rfl rfl) rfl rfl rfl ?_ | refine L_val (R_eqB rfl rfl) rfl rfl rfl ?_ | refine L_val (R_eqIfN rfl rfl) rfl rfl rfl ?_ | refine L_val (R_eqIfNN rfl) rfl rfl rfl ?_) | (refine cL_neq ?_; first | refine L_val (R_nePN rfl rfl) rfl rfl rfl ?_ | refine L_val (R_neI rfl rfl) rfl rfl rfl ?_ | refine L_val (R_neB rfl rfl) rfl rfl rfl ?_ | refine L_val (R_neIfN rfl rfl) rfl rfl rfl ?_ | refine L_val (R_neIfNN rfl) rfl rfl rfl ?_) | (refine cL_lss ?_; first | refine L_valB (R_ltI rfl rfl) hb rfl rfl rfl ?_ | refine L_val (R_ltI rfl rfl) rfl rfl rfl ?_) | (refine cL_indexAddr ?_; refine L_valE (R_ia rfl rfl (by omega) (by omega)) (ia6 _ _ _) rfl rfl rfl ?_) | (refine cL_add ?_; refine L_val (R_addI rfl rfl) rfl rfl rfl ?_) | refine L_nil ?_) | refine G_seq ?_ | refine G_region ?_ | refine G_skip ?_ | refine G_block ?_ | refine G_end ?_ | refine G_true rfl ?_ | refine G_false rfl ?_))
          refine L_allocS rfl rfl fun b6 w3 hn3 => ?_
          (repeat (first | (refine cL ?_; first | (refine cL_guard ?_; refine L_unwanted rfl rfl rfl ?_) | (refine cL_move ?_; refine L_val R_move rfl rfl rfl ?_) | (refine cL_load ?_; first | refine L_val (R_loadB rfl (by assumption) (by rfl)) rfl rfl rfl ?_ | refine L_val (R_loadH (by assumption) rfl (by assumption) (by rfl)) rfl rfl rfl ?_) | (refine cL_fieldAddr ?_; refine L_val (R_fa rfl) rfl rfl rfl ?_) | (refine cL_assign ?_; refine L_val R_assign rfl rfl rfl ?_) | (refine cL_call ?_; refine L_val (R_len rfl) rfl rfl rfl ?_) | (refine cL_pick ?_; first | refine L_val (R_pickT rfl) rfl rfl rfl ?_ | refine L_val (R_pickF rfl) rfl rfl rfl ?_) | (refine cL_eql ?_; first | refine L_val (R_eqPN rfl rfl) rfl rfl rfl ?_ | refine L_val (R_eqI rfl rfl) rfl rfl rfl ?_ | refine L_val (R_eqB rfl rfl) rfl rfl rfl ?_ | refine L_val (R_eqIfN rfl rfl) rfl rfl rfl ?_ | refine L_val (R_eqIfNN rfl) rfl rfl rfl ?_) | (refine cL_neq ?_; first | refine L_val (R_nePN rfl rfl) rfl rfl rfl ?_ | refine L_val (R_neI rfl rfl) rfl rfl rfl ?_ | refine L_val (R_neB rfl rfl) rfl rfl rfl ?_ | refine L_val (R_neIfN rfl rfl) rfl rfl rfl ?_ | refine L_val (R_neIfNN rfl) rfl rfl rfl ?_) | (refine cL_lss ?_; refine L_val (R_ltI rfl rfl) rfl rfl rfl ?_) | (refine cL_add ?_; refine L_val (R_addI rfl rfl) rfl rfl rfl ?_) | refine L_nil ?_) | refine G_seq ?_ | refine G_region ?_ | refine G_skip ?_ | refine G_block ?_ | refine G_end ?_ | refine G_true rfl ?_ | refine G_false rfl ?_))
          refine L_storeA rfl hn3.here rfl rfl rfl rfl rfl rfl fun w4 h4 e4 s4 => ?_
          obtain ⟨H4, g4, hb6⟩ := Grow.ofNew hAr (hn3.store h4 e4 s4)
          have hb3' := g4.le _ _ hb3
          have hAg : ∀ w', Ext No w4 w' → Agree _ w' := fun _ he => g4.ag.ext0 he
          have hec2 := hec'.mono g4.le
          have hnm : (!(e.nm.toList == e'.nm.toList)) = !(beqB ((x.es[i]?.map Ty.nm).getD ⟨#[]⟩) ((y.es[i]?.map Ty.nm).getD ⟨#[]⟩)) := by rw [he, he']; rfl
          (repeat (first | (refine cL ?_; first | (refine cL_guard ?_; refine L_unwanted rfl rfl rfl ?_) | (refine cL_move ?_; refine L_val R_move rfl rfl rfl ?_) | (refine cL_load ?_; first | refine L_val (R_loadB rfl (by assumption) (by rfl)) rfl rfl rfl ?_ | refine L_val (R_loadH (by assumption) rfl (by assumption) (by rfl)) rfl rfl rfl ?_) | (refine cL_fieldAddr ?_; refine L_val (R_fa rfl) rfl rfl rfl ?_) | (refine cL_assign ?_; refine L_val R_assign rfl rfl rfl ?_) | (refine cL_call ?_; refine L_val (R_len rfl) rfl rfl rfl ?_) | (refine cL_pick ?_; first | refine L_val (R_pickT rfl) rfl rfl rfl ?_ | refine L_val (R_pickF rfl) rfl rfl rfl ?_) | (refine cL_eql ?_; first | refine L_val (R_eqPN rfl rfl) rfl rfl rfl ?_ | refine L_val (R_eqI rfl rfl) rfl rfl rfl ?_ | refine L_val (R_eqB rfl rfl) rfl rfl rfl ?_ | refine L_val (R_eqIfN rfl rfl) rfl rfl rfl ?_ | refine L_val (R_eqIfNN rfl) rfl rfl rfl ?_) | (refine cL_neq ?_; first | refine L_val (R_nePN rfl rfl) rfl rfl rfl ?_ | refine L_val (R_neI rfl rfl) rfl rfl rfl ?_ | refine L_val (R_neB rfl rfl) rfl rfl rfl ?_ | refine L_val (R_neIfN rfl rfl) rfl rfl rfl ?_ | refine L_val (R_neIfNN rfl) rfl rfl rfl ?_) | (refine cL_lss ?_; refine L_val (R_ltI rfl rfl) rfl rfl rfl ?_) | (refine cL_add ?_; refine L_val (R_addI rfl rfl) rfl rfl rfl ?_) | refine L_nil ?_) | refine G_seq ?_ | refine G_region ?_ | refine G_skip ?_ | refine G_block ?_ | refine G_end ?_ | refine G_true rfl ?_ | refine G_false rfl ?_))
          (refine G_draw No (0 :: 1 :: 2 :: 3 :: 4 :: 5 :: 6 :: 7 :: 8 :: []) [] follows (by kernel_rfl) rfl ?_)
          cases hbn : beqB ((x.es[i]?.map Ty.nm).getD ⟨#[]⟩) ((y.es[i]?.map Ty.nm).getD ⟨#[]⟩) with
          | false =>
            rw [hbn] at hnm
            (repeat (first | (refine cD_guard ?_; refine D_unwanted rfl rfl ?_) | (refine cD_move ?_; refine D_val0 (fun _ _ => R_move) rfl rfl ?_) | (refine cD_load ?_; first | refine D_val0 (fun w he => R_load rfl ((hAg w he).hcell (hec2 5 _ rfl))) rfl rfl ?_ | refine D_val0 (fun w he => R_loadH (hAg w he) rfl (by assumption) (by rfl)) rfl rfl ?_) | (refine cD_fieldAddr ?_; refine D_val0 (fun _ _ => R_fa rfl) rfl rfl ?_) | (refine cD_assign ?_; refine D_val0 (fun _ _ => R_assign) rfl rfl ?_) | (refine cD_call ?_; refine D_val0 (fun _ _ => R_len rfl) rfl rfl ?_) | (refine cD_pick ?_; first | refine D_val0 (fun _ _ => R_pickT rfl) rfl rfl ?_ | refine D_val0 (fun _ _ => R_pickF rfl) rfl rfl ?_) | (refine cD_eql ?_; first | refine D_val0 (fun _ _ => R_eqPN rfl rfl) rfl rfl ?_ | refine D_val0 (fun _ _ => R_eqI rfl rfl) rfl rfl ?_ | refine D_val0 (fun _ _ => R_eqB rfl rfl) rfl rfl ?_ | refine D_val0 (fun _ _ => R_eqIfN rfl rfl) rfl rfl ?_ | refine D_val0 (fun _ _ => R_eqIfNN rfl) rfl rfl ?_) | (refine cD_neq ?_; first | refine D_valB (fun _ _ => R_neS rfl rfl) hnm rfl rfl ?_ | refine D_val0 (fun _ _ => R_nePN rfl rfl) rfl rfl ?_ | refine D_val0 (fun _ _ => R_neI rfl rfl) rfl rfl ?_ | refine D_val0 (fun _ _ => R_neB rfl rfl) rfl rfl ?_ | refine D_val0 (fun _ _ => R_neIfN rfl rfl) rfl rfl ?_ | refine D_val0 (fun _ _ => R_neIfNN rfl) rfl rfl ?_) | (refine cD_lss ?_; refine D_val0 (fun _ _ => R_ltI rfl rfl) rfl rfl ?_) | (refine cD_indexAddr ?_; refine D_valE (fun _ _ => R_ia rfl rfl (by omega) (by omega)) (ia6 _ _ _) rfl rfl ?_) | (refine cD_add ?_; refine D_val0 (fun _ _ => R_addI rfl rfl) rfl rfl ?_)))
            refine D_nil fun w5 hw5 => ?_
            (repeat (first | (refine cL ?_; first | (refine cL_guard ?_; refine L_unwanted rfl rfl rfl ?_) | (refine cL_move ?_; refine L_val R_move rfl rfl rfl ?_) | (refine cL_load ?_; first | refine L_val (R_loadB rfl (by assumption) (by rfl)) rfl rfl rfl ?_ | refine L_val (R_loadH (by assumption) rfl (by assumption) (by rfl)) rfl rfl rfl ?_) | (refine cL_fieldAddr ?_; refine L_val (R_fa rfl) rfl rfl rfl ?_) | (refine cL_assign ?_; refine L_val R_assign rfl rfl rfl ?_) | (refine cL_call ?_; refine L_val (R_len rfl) rfl rfl rfl ?_) | (refine cL_pick ?_; first | refine L_val (R_pickT rfl) rfl rfl rfl ?_ | refine L_val (R_pickF rfl) rfl rfl rfl ?_) | (refine cL_eql ?_; first | refine L_val (R_eqPN rfl rfl) rfl rfl rfl ?_ | refine L_val (R_eqI rfl rfl) rfl rfl rfl ?_ | refine L_val (R_eqB rfl rfl) rfl rfl rfl ?_ | refine L_val (R_eqIfN rfl rfl) rfl rfl rfl ?_ | refine L_val (R_eqIfNN rfl) rfl rfl rfl ?_) | (refine cL_neq ?_; first | refine L_val (R_nePN rfl rfl) rfl rfl rfl ?_ | refine L_val (R_neI rfl rfl) rfl rfl rfl ?_ | refine L_val (R_neB rfl rfl) rfl rfl rfl ?_ | refine L_val (R_neIfN rfl rfl) rfl rfl rfl ?_ | refine L_val (R_neIfNN rfl) rfl rfl rfl ?_) | (refine cL_lss ?_; refine L_val (R_ltI rfl rfl) rfl rfl rfl ?_) | (refine cL_add ?_; refine L_val (R_addI rfl rfl) rfl rfl rfl ?_) | refine L_nil ?_) | refine G_seq ?_ | refine G_region ?_ | refine G_skip ?_ | refine G_block ?_ | refine G_end ?_ | refine G_true rfl ?_ | refine G_false rfl ?_))
            (refine G_retF rfl ?_)
            exact ⟨_, rfl, congrArg Value.bool (allR_false h hbn).symm, hex.trans (hext.trans (g4.ext.trans hw5))⟩
          | true =>
            rw [hbn] at hnm
            (repeat (first | (refine cD_guard ?_; refine D_unwanted rfl rfl ?_) | (refine cD_move ?_; refine D_val0 (fun _ _ => R_move) rfl rfl ?_) | (refine cD_load ?_; first | refine D_val0 (fun w he => R_load rfl ((hAg w he).hcell (hec2 5 _ rfl))) rfl rfl ?_ | refine D_val0 (fun w he => R_loadH (hAg w he) rfl (by assumption) (by rfl)) rfl rfl ?_) | (refine cD_fieldAddr ?_; refine D_val0 (fun _ _ => R_fa rfl) rfl rfl ?_) | (refine cD_assign ?_; refine D_val0 (fun _ _ => R_assign) rfl rfl ?_) | (refine cD_call ?_; refine D_val0 (fun _ _ => R_len rfl) rfl rfl ?_) | (refine cD_pick ?_; first | refine D_val0 (fun _ _ => R_pickT rfl) rfl rfl ?_ | refine D_val0 (fun _ _ => R_pickF rfl) rfl rfl ?_) | (refine cD_eql ?_; first | refine D_val0 (fun _ _ => R_eqPN rfl rfl) rfl rfl ?_ | refine D_val0 (fun _ _ => R_eqI rfl rfl) rfl rfl ?_ | refine D_val0 (fun _ _ => R_eqB rfl rfl) rfl rfl ?_ | refine D_val0 (fun _ _ => R_eqIfN rfl rfl) rfl rfl ?_ | refine D_val0 (fun _ _ => R_eqIfNN rfl) rfl rfl ?_) | (refine cD_neq ?_; first | refine D_valB (fun _ _ => R_neS rfl rfl) hnm rfl rfl ?_ | refine D_val0 (fun _ _ => R_nePN rfl rfl) rfl rfl ?_ | refine D_val0 (fun _ _ => R_neI rfl rfl) rfl rfl ?_ | refine D_val0 (fun _ _ => R_neB rfl rfl) rfl rfl ?_ | refine D_val0 (fun _ _ => R_neIfN rfl rfl) rfl rfl ?_ | refine D_val0 (fun _ _ => R_neIfNN rfl) rfl rfl ?_) | (refine cD_lss ?_; refine D_val0 (fun _ _ => R_ltI rfl rfl) rfl rfl ?_) | (refine cD_indexAddr ?_; refine D_valE (fun _ _ => R_ia rfl rfl (by omega) (by omega)) (ia6 _ _ _) rfl rfl ?_) | (refine cD_add ?_; refine D_val0 (fun _ _ => R_addI rfl rfl) rfl rfl ?_)))
            refine D_nil fun w5 hw5 => ?_
            (repeat (first | (refine cL ?_; first | (refine cL_guard ?_; refine L_unwanted rfl rfl rfl ?_) | (refine cL_move ?_; refine L_val R_move rfl rfl rfl ?_) | (refine cL_load ?_; first | refine L_val (R_loadB rfl (by assumption) (by rfl)) rfl rfl rfl ?_ | refine L_val (R_loadH (by assumption) rfl (by assumption) (by rfl)) rfl rfl rfl ?_) | (refine cL_fieldAddr ?_; refine L_val (R_fa rfl) rfl rfl rfl ?_) | (refine cL_assign ?_; refine L_val R_assign rfl rfl rfl ?_) | (refine cL_call ?_; refine L_val (R_len rfl) rfl rfl rfl ?_) | (refine cL_pick ?_; first | refine L_val (R_pickT rfl) rfl rfl rfl ?_ | refine L_val (R_pickF rfl) rfl rfl rfl ?_) | (refine cL_eql ?_; first | refine L_val (R_eqPN rfl rfl) rfl rfl rfl ?_ | refine L_val (R_eqI rfl rfl) rfl rfl rfl ?_ | refine L_val (R_eqB rfl rfl) rfl rfl rfl ?_ | refine L_val (R_eqIfN rfl rfl) rfl rfl rfl ?_ | refine L_val (R_eqIfNN rfl) rfl rfl rfl ?_) | (refine cL_neq ?_; first | refine L_val (R_nePN rfl rfl) rfl rfl rfl ?_ | refine L_val (R_neI rfl rfl) rfl rfl rfl ?_ | refine L_val (R_neB rfl rfl) rfl rfl rfl ?_ | refine L_val (R_neIfN rfl rfl) rfl rfl rfl ?_ | refine L_val (R_neIfNN rfl) rfl rfl rfl ?_) | (refine cL_lss ?_; refine L_val (R_ltI rfl rfl) rfl rfl rfl ?_) | (refine cL_add ?_; first | refine L_valE (R_addI rfl rfl) (succ_i64 h (by omega)) rfl rfl rfl ?_ | refine L_val (R_addI rfl rfl) rfl rfl rfl ?_) | refine L_nil ?_) | refine G_seq ?_ | refine G_region ?_ | refine G_skip ?_ | refine G_block ?_ | refine G_end ?_ | refine G_true rfl ?_ | refine G_false rfl ?_))
            refine G_inv ⟨⟨rfl, hext.trans (g4.ext.trans hw5), _, i + 1, with_self ⟨rfl, rfl, rfl, rfl, trivial⟩, h, fun j hj => ?_⟩, ?_⟩
            · rcases Nat.lt_succ_iff_lt_or_eq.1 hj with hj | rfl
              · exact hJ j hj
              · exact hbn
            · show ((x.es.length : Int) - ((i + 1 : Nat) : Int)).toNat < ((x.es.length : Int) - (i : Int)).toNat
              omega
        · have hb : decide ((i : Int) < (x.es.length : Int)) = false := decide_eq_false (by omega)
          (repeat (first | (refine cL ?_; first | (refine cL_guard ?_; refine L_unwanted rfl rfl rfl ?_) | (refine cL_move ?_; refine L_val R_move rfl rfl rfl ?_) | (refine cL_load ?_; first | refine L_val (R_loadB rfl (by assumption) (by rfl)) rfl rfl rfl ?_ | refine L_val (R_loadH (by assumption) rfl (by assumption) (by rfl)) rfl rfl rfl ?_) | (refine cL_fieldAddr ?_; refine L_val (R_fa rfl) rfl rfl rfl ?_) | (refine cL_assign ?_; refine L_val R_assign rfl rfl rfl ?_) | (refine cL_call ?_; refine L_val (R_len rfl) rfl rfl rfl ?_) | (refine cL_pick ?_; first | refine L_val (R_pickT rfl) rfl rfl rfl ?_ | refine L_val (R_pickF rfl) rfl rfl rfl ?_) | (refine cL_eql ?_; first | refine L_val (R_eqPN rfl rfl) rfl rfl rfl ?_ | refine L_val (R_eqI rfl rfl) rfl rfl rfl ?_ | refine L_val (R_eqB rfl rfl) rfl rfl rfl ?_ | refine L_val (R_eqIfN rfl rfl) rfl rfl rfl ?_ | refine L_val (R_eqIfNN rfl) rfl rfl rfl ?_) | (refine cL_neq ?_; first | refine L_val (R_nePN rfl rfl) rfl rfl rfl ?_ | refine L_val (R_neI rfl rfl) rfl rfl rfl ?_ | refine L_val (R_neB rfl rfl) rfl rfl rfl ?_ | refine L_val (R_neIfN rfl rfl) rfl rfl rfl ?_ | refine L_val (R_neIfNN rfl) rfl rfl rfl ?_) | (refine cL_lss ?_; first | refine L_valB (R_ltI rfl rfl) hb rfl rfl rfl ?_ | refine L_val (R_ltI rfl rfl) rfl rfl rfl ?_) | (refine cL_add ?_; refine L_val (R_addI rfl rfl) rfl rfl rfl ?_) | refine L_nil ?_) | refine G_exit rfl ?_ | refine G_seq ?_ | refine G_region ?_ | refine G_skip ?_ | refine G_block ?_ | refine G_end ?_ | refine G_true rfl ?_ | refine G_false rfl ?_))
          (refine G_retF rfl ?_)
          exact ⟨_, rfl, congrArg Value.bool (allR_true fun j hj => hJ j (by omega)).symm, hex.trans hext⟩
      | false =>
        have hk9 : x.k ≠ 9 := by simpa using e9
        cases e10 : (x.k == 10) with
        | true =>
          have hk10 : x.k = 10 := by simpa using e10
          have hv : alikeT x y = (x.c == y.c && x.b == y.b) := by simp [alikeT, alikeP, hl, ← hk, hk10]
          rw [hv]
          cases ec : (x.c == y.c) with
          | true =>
            (repeat (first | (refine cL ?_; first | (refine cL_guard ?_; refine L_unwanted rfl rfl rfl ?_) | (refine cL_move ?_; refine L_val R_move rfl rfl rfl ?_) | (refine cL_load ?_; first | refine L_val (R_loadB rfl (by assumption) (by rfl)) rfl rfl rfl ?_ | refine L_val (R_loadH (by assumption) rfl (by assumption) (by rfl)) rfl rfl rfl ?_) | (refine cL_fieldAddr ?_; refine L_val (R_fa rfl) rfl rfl rfl ?_) | (refine cL_assign ?_; refine L_val R_assign rfl rfl rfl ?_) | (refine cL_call ?_; refine L_val (R_len rfl) rfl rfl rfl ?_) | (refine cL_pick ?_; first | refine L_val (R_pickT rfl) rfl rfl rfl ?_ | refine L_val (R_pickF rfl) rfl rfl rfl ?_) | (refine cL_eql ?_; first | refine L_valB (R_eqI rfl rfl) e9 rfl rfl rfl ?_ | refine L_valB (R_eqI rfl rfl) e10 rfl rfl rfl ?_ | refine L_valB (R_eqI rfl rfl) ec rfl rfl rfl ?_ | refine L_val (R_eqPN rfl rfl) rfl rfl rfl ?_ | refine L_val (R_eqI rfl rfl) rfl rfl rfl ?_ | refine L_val (R_eqB rfl rfl) rfl rfl rfl ?_ | refine L_val (R_eqIfN rfl rfl) rfl rfl rfl ?_ | refine L_val (R_eqIfNN rfl) rfl rfl rfl ?_) | (refine cL_neq ?_; first | refine L_valB (R_neI rfl rfl) ek rfl rfl rfl ?_ | refine L_valB (R_neI rfl rfl) el rfl rfl rfl ?_ | refine L_val (R_nePN rfl rfl) rfl rfl rfl ?_ | refine L_val (R_neI rfl rfl) rfl rfl rfl ?_ | refine L_val (R_neB rfl rfl) rfl rfl rfl ?_ | refine L_val (R_neIfN rfl rfl) rfl rfl rfl ?_ | refine L_val (R_neIfNN rfl) rfl rfl rfl ?_) | (refine cL_lss ?_; refine L_val (R_ltI rfl rfl) rfl rfl rfl ?_) | (refine cL_add ?_; refine L_val (R_addI rfl rfl) rfl rfl rfl ?_) | refine L_nil ?_) | refine G_seq ?_ | refine G_region ?_ | refine G_skip ?_ | refine G_block ?_ | refine G_end ?_ | refine G_true rfl ?_ | refine G_false rfl ?_))
            (refine G_retF rfl ?_)
            exact ⟨_, rfl, rfl, hex⟩
          | false =>
            (repeat (first | (refine cL ?_; first | (refine cL_guard ?_; refine L_unwanted rfl rfl rfl ?_) | (refine cL_move ?_; refine L_val R_move rfl rfl rfl ?_) | (refine cL_load ?_; first | refine L_val (R_loadB rfl (by assumption) (by rfl)) rfl rfl rfl ?_ | refine L_val (R_loadH (by assumption) rfl (by assumption) (by rfl)) rfl rfl rfl ?_) | (refine cL_fieldAddr ?_; refine L_val (R_fa rfl) rfl rfl rfl ?_) | (refine cL_assign ?_; refine L_val R_assign rfl rfl rfl ?_) | (refine cL_call ?_; refine L_val (R_len rfl) rfl rfl rfl ?_) | (refine cL_pick ?_; first | refine L_val (R_pickT rfl) rfl rfl rfl ?_ | refine L_val (R_pickF rfl) rfl rfl rfl ?_) | (refine cL_eql ?_; first | refine L_valB (R_eqI rfl rfl) e9 rfl rfl rfl ?_ | refine L_valB (R_eqI rfl rfl) e10 rfl rfl rfl ?_ | refine L_valB (R_eqI rfl rfl) ec rfl rfl rfl ?_ | refine L_val (R_eqPN rfl rfl) rfl rfl rfl ?_ | refine L_val (R_eqI rfl rfl) rfl rfl rfl ?_ | refine L_val (R_eqB rfl rfl) rfl rfl rfl ?_ | refine L_val (R_eqIfN rfl rfl) rfl rfl rfl ?_ | refine L_val (R_eqIfNN rfl) rfl rfl rfl ?_) | (refine cL_neq ?_; first | refine L_valB (R_neI rfl rfl) ek rfl rfl rfl ?_ | refine L_valB (R_neI rfl rfl) el rfl rfl rfl ?_ | refine L_val (R_nePN rfl rfl) rfl rfl rfl ?_ | refine L_val (R_neI rfl rfl) rfl rfl rfl ?_ | refine L_val (R_neB rfl rfl) rfl rfl rfl ?_ | refine L_val (R_neIfN rfl rfl) rfl rfl rfl ?_ | refine L_val (R_neIfNN rfl) rfl rfl rfl ?_) | (refine cL_lss ?_; refine L_val (R_ltI rfl rfl) rfl rfl rfl ?_) | (refine cL_add ?_; refine L_val (R_addI rfl rfl) rfl rfl rfl ?_) | refine L_nil ?_) | refine G_seq ?_ | refine G_region ?_ | refine G_skip ?_ | refine G_block ?_ | refine G_end ?_ | refine G_true rfl ?_ | refine G_false rfl ?_))
            (refine G_retF rfl ?_)
            exact ⟨_, rfl, rfl, hex⟩
        | false =>
          have hk10 : x.k ≠ 10 := by simpa using e10
          cases e4 : (x.k == 4) with
          | true =>
            have hk4 : x.k = 4 := by simpa using e4
            have hv : alikeT x y = true := by simp [alikeT, alikeP, hl, ← hk, hk4]
            rw [hv]
            (repeat (first | (refine cL ?_; first | (refine cL_guard ?_; refine L_unwanted rfl rfl rfl ?_) | (refine cL_move ?_; refine L_val R_move rfl rfl rfl ?_) | (refine cL_load ?_; first | refine L_val (R_loadB rfl (by assumption) (by rfl)) rfl rfl rfl ?_ | refine L_val (R_loadH (by assumption) rfl (by assumption) (by rfl)) rfl rfl rfl ?_) | (refine cL_fieldAddr ?_; refine L_val (R_fa rfl) rfl rfl rfl ?_) | (refine cL_assign ?_; refine L_val R_assign rfl rfl rfl ?_) | (refine cL_call ?_; refine L_val (R_len rfl) rfl rfl rfl ?_) | (refine cL_pick ?_; first | refine L_val (R_pickT rfl) rfl rfl rfl ?_ | refine L_val (R_pickF rfl) rfl rfl rfl ?_) | (refine cL_eql ?_; first | refine L_valB (R_eqI rfl rfl) e9 rfl rfl rfl ?_ | refine L_valB (R_eqI rfl rfl) e10 rfl rfl rfl ?_ | refine L_valB (R_eqI rfl rfl) e4 rfl rfl rfl ?_ | refine L_val (R_eqPN rfl rfl) rfl rfl rfl ?_ | refine L_val (R_eqI rfl rfl) rfl rfl rfl ?_ | refine L_val (R_eqB rfl rfl) rfl rfl rfl ?_ | refine L_val (R_eqIfN rfl rfl) rfl rfl rfl ?_ | refine L_val (R_eqIfNN rfl) rfl rfl rfl ?_) | (refine cL_neq ?_; first | refine L_valB (R_neI rfl rfl) ek rfl rfl rfl ?_ | refine L_valB (R_neI rfl rfl) el rfl rfl rfl ?_ | refine L_val (R_nePN rfl rfl) rfl rfl rfl ?_ | refine L_val (R_neI rfl rfl) rfl rfl rfl ?_ | refine L_val (R_neB rfl rfl) rfl rfl rfl ?_ | refine L_val (R_neIfN rfl rfl) rfl rfl rfl ?_ | refine L_val (R_neIfNN rfl) rfl rfl rfl ?_) | (refine cL_lss ?_; refine L_val (R_ltI rfl rfl) rfl rfl rfl ?_) | (refine cL_add ?_; refine L_val (R_addI rfl rfl) rfl rfl rfl ?_) | refine L_nil ?_) | refine G_seq ?_ | refine G_region ?_ | refine G_skip ?_ | refine G_block ?_ | refine G_end ?_ | refine G_true rfl ?_ | refine G_false rfl ?_))
            (refine G_retF rfl ?_)
            exact ⟨_, rfl, rfl, hex⟩
          | false =>
            have hk4 : x.k ≠ 4 := by simpa using e4
            cases e5 : (x.k == 5) with
            | true =>
              have hk5 : x.k = 5 := by simpa using e5
              have hv : alikeT x y = true := by simp [alikeT, alikeP, hl, ← hk, hk5]
              rw [hv]
              (repeat (first | (refine cL ?_; first | (refine cL_guard ?_; refine L_unwanted rfl rfl rfl ?_) | (refine cL_move ?_; refine L_val R_move rfl rfl rfl ?_) | (refine cL_load ?_; first | refine L_val (R_loadB rfl (by assumption) (by rfl)) rfl rfl rfl ?_ | refine L_val (R_loadH (by assumption) rfl (by assumption) (by rfl)) rfl rfl rfl ?_) | (refine cL_fieldAddr ?_; refine L_val (R_fa rfl) rfl rfl rfl ?_) | (refine cL_assign ?_; refine L_val R_assign rfl rfl rfl ?_) | (refine cL_call ?_; refine L_val (R_len rfl) rfl rfl rfl ?_) | (refine cL_pick ?_; first | refine L_val (R_pickT rfl) rfl rfl rfl ?_ | refine L_val (R_pickF rfl) rfl rfl rfl ?_) | (refine cL_eql ?_; first | refine L_valB (R_eqI rfl rfl) e9 rfl rfl rfl ?_ | refine L_valB (R_eqI rfl rfl) e10 rfl rfl rfl ?_ | refine L_valB (R_eqI rfl rfl) e4 rfl rfl rfl ?_ | refine L_valB (R_eqI rfl rfl) e5 rfl rfl rfl ?_ | refine L_val (R_eqPN rfl rfl) rfl rfl rfl ?_ | refine L_val (R_eqI rfl rfl) rfl rfl rfl ?_ | refine L_val (R_eqB rfl rfl) rfl rfl rfl ?_ | refine L_val (R_eqIfN rfl rfl) rfl rfl rfl ?_ | refine L_val (R_eqIfNN rfl) rfl rfl rfl ?_) | (refine cL_neq ?_; first | refine L_valB (R_neI rfl rfl) ek rfl rfl rfl ?_ | refine L_valB (R_neI rfl rfl) el rfl rfl rfl ?_ | refine L_val (R_nePN rfl rfl) rfl rfl rfl ?_ | refine L_val (R_neI rfl rfl) rfl rfl rfl ?_ | refine L_val (R_neB rfl rfl) rfl rfl rfl ?_ | refine L_val (R_neIfN rfl rfl) rfl rfl rfl ?_ | refine L_val (R_neIfNN rfl) rfl rfl rfl ?_) | (refine cL_lss ?_; refine L_val (R_ltI rfl rfl) rfl rfl rfl ?_) | (refine cL_add ?_; refine L_val (R_addI rfl rfl) rfl rfl rfl ?_) | refine L_nil ?_) | refine G_seq ?_ | refine G_region ?_ | refine G_skip ?_ | refine G_block ?_ | refine G_end ?_ | refine G_true rfl ?_ | refine G_false rfl ?_))
              (refine G_retF rfl ?_)
              exact ⟨_, rfl, rfl, hex⟩
            | false =>
              have hk5 : x.k ≠ 5 := by simpa using e5
              cases e7 : (x.k == 7) with
              | true =>
                have hk7 : x.k = 7 := by simpa using e7
                have hv : alikeT x y = true := by simp [alikeT, alikeP, hl, ← hk, hk7]
                rw [hv]
                (repeat (first | (refine cL ?_; first | (refine cL_guard ?_; refine L_unwanted rfl rfl rfl ?_) | (refine cL_move ?_; refine L_val R_move rfl rfl rfl ?_) | (refine cL_load ?_; first | refine L_val (R_loadB rfl (by assumption) (by rfl)) rfl rfl rfl ?_ | refine L_val (R_loadH (by assumption) rfl (by assumption) (by rfl)) rfl rfl rfl ?_) | (refine cL_fieldAddr ?_; refine L_val (R_fa rfl) rfl rfl rfl ?_) | (refine cL_assign ?_; refine L_val R_assign rfl rfl rfl ?_) | (refine cL_call ?_; refine L_val (R_len rfl) rfl rfl rfl ?_) | (refine cL_pick ?_; first | refine L_val (R_pickT rfl) rfl rfl rfl ?_ | refine L_val (R_pickF rfl) rfl rfl rfl ?_) | (refine cL_eql ?_; first | refine L_valB (R_eqI rfl rfl) e9 rfl rfl rfl ?_ | refine L_valB (R_eqI rfl rfl) e10 rfl rfl rfl ?_ | refine L_valB (R_eqI rfl rfl) e4 rfl rfl rfl ?_ | refine L_valB (R_eqI rfl rfl) e5 rfl rfl rfl ?_ | refine L_valB (R_eqI rfl rfl) e7 rfl rfl rfl ?_ | refine L_val (R_eqPN rfl rfl) rfl rfl rfl ?_ | refine L_val (R_eqI rfl rfl) rfl rfl rfl ?_ | refine L_val (R_eqB rfl rfl) rfl rfl rfl ?_ | refine L_val (R_eqIfN rfl rfl) rfl rfl rfl ?_ | refine L_val (R_eqIfNN rfl) rfl rfl rfl ?_) | (refine cL_neq ?_; first | refine L_valB (R_neI rfl rfl) ek rfl rfl rfl ?_ | refine L_valB (R_neI rfl rfl) el rfl rfl rfl ?_ | refine L_val (R_nePN rfl rfl) rfl rfl rfl ?_ | refine L_val (R_neI rfl rfl) rfl rfl rfl ?_ | refine L_val (R_neB rfl rfl) rfl rfl rfl ?_ | refine L_val (R_neIfN rfl rfl) rfl rfl rfl ?_ | refine L_val (R_neIfNN rfl) rfl rfl rfl ?_) | (refine cL_lss ?_; refine L_val (R_ltI rfl rfl) rfl rfl rfl ?_) | (refine cL_add ?_; refine L_val (R_addI rfl rfl) rfl rfl rfl ?_) | refine L_nil ?_) | refine G_seq ?_ | refine G_region ?_ | refine G_skip ?_ | refine G_block ?_ | refine G_end ?_ | refine G_true rfl ?_ | refine G_false rfl ?_))
                (refine G_retF rfl ?_)
                exact ⟨_, rfl, rfl, hex⟩
              | false =>
                have hk7 : x.k ≠ 7 := by simpa using e7
                have hv : alikeT x y = (x.n == y.n) := by simp [alikeT, alikeP, hl, hk] at hk9 hk10 hk4 hk5 hk7 ⊢; simp [hk9, hk10, hk4, hk5, hk7]
                rw [hv]
                (repeat (first | (refine cL ?_; first | (refine cL_guard ?_; refine L_unwanted rfl rfl rfl ?_) | (refine cL_move ?_; refine L_val R_move rfl rfl rfl ?_) | (refine cL_load ?_; first | refine L_val (R_loadB rfl (by assumption) (by rfl)) rfl rfl rfl ?_ | refine L_val (R_loadH (by assumption) rfl (by assumption) (by rfl)) rfl rfl rfl ?_) | (refine cL_fieldAddr ?_; refine L_val (R_fa rfl) rfl rfl rfl ?_) | (refine cL_assign ?_; refine L_val R_assign rfl rfl rfl ?_) | (refine cL_call ?_; refine L_val (R_len rfl) rfl rfl rfl ?_) | (refine cL_pick ?_; first | refine L_val (R_pickT rfl) rfl rfl rfl ?_ | refine L_val (R_pickF rfl) rfl rfl rfl ?_) | (refine cL_eql ?_; first | refine L_valB (R_eqI rfl rfl) e9 rfl rfl rfl ?_ | refine L_valB (R_eqI rfl rfl) e10 rfl rfl rfl ?_ | refine L_valB (R_eqI rfl rfl) e4 rfl rfl rfl ?_ | refine L_valB (R_eqI rfl rfl) e5 rfl rfl rfl ?_ | refine L_valB (R_eqI rfl rfl) e7 rfl rfl rfl ?_ | refine L_val (R_eqPN rfl rfl) rfl rfl rfl ?_ | refine L_val (R_eqI rfl rfl) rfl rfl rfl ?_ | refine L_val (R_eqB rfl rfl) rfl rfl rfl ?_ | refine L_val (R_eqIfN rfl rfl) rfl rfl rfl ?_ | refine L_val (R_eqIfNN rfl) rfl rfl rfl ?_) | (refine cL_neq ?_; first | refine L_valB (R_neI rfl rfl) ek rfl rfl rfl ?_ | refine L_valB (R_neI rfl rfl) el rfl rfl rfl ?_ | refine L_val (R_nePN rfl rfl) rfl rfl rfl ?_ | refine L_val (R_neI rfl rfl) rfl rfl rfl ?_ | refine L_val (R_neB rfl rfl) rfl rfl rfl ?_ | refine L_val (R_neIfN rfl rfl) rfl rfl rfl ?_ | refine L_val (R_neIfNN rfl) rfl rfl rfl ?_) | (refine cL_lss ?_; refine L_val (R_ltI rfl rfl) rfl rfl rfl ?_) | (refine cL_add ?_; refine L_val (R_addI rfl rfl) rfl rfl rfl ?_) | refine L_nil ?_) | refine G_seq ?_ | refine G_region ?_ | refine G_skip ?_ | refine G_block ?_ | refine G_end ?_ | refine G_true rfl ?_ | refine G_false rfl ?_))
                (refine G_retF rfl ?_)
                exact ⟨_, rfl, rfl, hex⟩
end
end Go.Proofs.YtmmcjnfgcaefpaaGreatDoor

/-
  The verifier's 'Identical' on the input's types.
-/
namespace Go.Proofs.YtmmcjnfgcaefpaaGreatDoor
set_option maxRecDepth 100000
set_option maxHeartbeats 4000000
attribute [local irreducible] Calls execOp

theorem ident_eq (x y : Ty) : ident x y = (alikeT x y && identL x.es y.es) := by
  cases x
  cases y
  rfl
theorem alikeT_len {x y : Ty} (h : alikeT x y = true) : x.es.length = y.es.length := by
  simp only [alikeT, alikeP, Bool.and_eq_true, beq_iff_eq] at h
  exact h.1.2

theorem specIdent_any : ∀ (x y : Ty) (cs cs' : List Value) (H : Hp) (w : World), Agree H w → DTy H x cs → DTy H y cs' → Calls Tryz.prog 7 #[.agg cs.toArray, .agg cs'.toArray] w (Ret (Qt (.bool (ident x y)) w)) := by
  refine Ty.ind fun k0 n0 c0 b0 nm0 es0 ih => ?_
  generalize hxx : Ty.mk k0 n0 c0 b0 nm0 es0 = x
  have hese : x.es = es0 := by rw [← hxx]; rfl
  rw [← hese] at ih
  clear hese hxx
  intro y cs cs' H w hA hx hy
  obtain ⟨p, cap, rfl, -, -, -, hbd, hes⟩ := hx.cells
  obtain ⟨p', cap', rfl, -, -, -, hbd', hes'⟩ := hy.cells
  (refine calls_enter Tryz.func7 Tryz.ntmps7 rfl rfl ?_)
  (repeat (first | (refine cL ?_; first | (refine cL_move ?_; refine L_val R_move rfl rfl rfl ?_) | (refine cL_load ?_; first | refine L_val (R_loadB rfl (by assumption) (by rfl)) rfl rfl rfl ?_ | refine L_val (R_loadH (by assumption) rfl (by assumption) (by rfl)) rfl rfl rfl ?_) | (refine cL_fieldAddr ?_; refine L_val (R_fa rfl) rfl rfl rfl ?_) | (refine cL_assign ?_; refine L_val R_assign rfl rfl rfl ?_) | (refine cL_call ?_; refine L_val (R_len rfl) rfl rfl rfl ?_) | (refine cL_lss ?_; refine L_val (R_ltI rfl rfl) rfl rfl rfl ?_) | (refine cL_not ?_; refine L_val (R_not rfl) rfl rfl rfl ?_) | (refine cL_add ?_; refine L_val (R_addI rfl rfl) rfl rfl rfl ?_) | refine L_nil ?_) | refine G_seq ?_ | refine G_region ?_ | refine G_skip ?_ | refine G_block ?_ | refine G_end ?_ | refine G_true rfl ?_ | refine G_false rfl ?_))
  refine L_box rfl rfl rfl fun b2 w1 hn1 => ?_
  refine L_box rfl rfl rfl fun b3 w2 hn2 => ?_
  obtain ⟨H1, g1, hb2⟩ := Grow.ofNew hA hn1
  obtain ⟨H2, g2, hb3⟩ := Grow.ofNew g1.ag hn2
  have hb2 := g2.le _ _ hb2
  have hA2 := g2.ag
  have hex : Ext No w w2 := hn1.ext.trans hn2.ext
  have hle := Hp.le_trans g1.le g2.le
  have hx2 := DTy.mono hle _ _ hx
  have hy2 := DTy.mono hle _ _ hy
  (repeat (first | (refine cL ?_; first | (refine cL_move ?_; refine L_val R_move rfl rfl rfl ?_) | (refine cL_load ?_; first | refine L_val (R_loadAB rfl rfl (hA2 _ _ hb2)) rfl rfl rfl ?_ | refine L_val (R_loadAB rfl rfl (hA2 _ _ hb3)) rfl rfl rfl ?_ | refine L_val (R_loadB rfl (by assumption) (by rfl)) rfl rfl rfl ?_ | refine L_val (R_loadH (by assumption) rfl (by assumption) (by rfl)) rfl rfl rfl ?_) | (refine cL_fieldAddr ?_; refine L_val (R_fa rfl) rfl rfl rfl ?_) | (refine cL_assign ?_; refine L_val R_assign rfl rfl rfl ?_) | (refine cL_call ?_; refine L_val (R_len rfl) rfl rfl rfl ?_) | (refine cL_lss ?_; refine L_val (R_ltI rfl rfl) rfl rfl rfl ?_) | (refine cL_not ?_; refine L_val (R_not rfl) rfl rfl rfl ?_) | (refine cL_add ?_; refine L_val (R_addI rfl rfl) rfl rfl rfl ?_) | refine L_nil ?_) | refine G_seq ?_ | refine G_region ?_ | refine G_skip ?_ | refine G_block ?_ | refine G_end ?_ | refine G_true rfl ?_ | refine G_false rfl ?_))
  have hal := alike_any w2 hA2 hx2 hy2
  rw [ident_eq]
  cases eal : alikeT x y with
  | false =>
    rw [eal] at hal
    refine L_callQ hal rfl rfl fun w3 hw3 => ?_
    (repeat (first | (refine cL ?_; first | (refine cL_move ?_; refine L_val R_move rfl rfl rfl ?_) | (refine cL_load ?_; first | refine L_val (R_loadB rfl (by assumption) (by rfl)) rfl rfl rfl ?_ | refine L_val (R_loadH (by assumption) rfl (by assumption) (by rfl)) rfl rfl rfl ?_) | (refine cL_fieldAddr ?_; refine L_val (R_fa rfl) rfl rfl rfl ?_) | (refine cL_assign ?_; refine L_val R_assign rfl rfl rfl ?_) | (refine cL_call ?_; refine L_val (R_len rfl) rfl rfl rfl ?_) | (refine cL_lss ?_; refine L_val (R_ltI rfl rfl) rfl rfl rfl ?_) | (refine cL_not ?_; refine L_val (R_not rfl) rfl rfl rfl ?_) | (refine cL_add ?_; refine L_val (R_addI rfl rfl) rfl rfl rfl ?_) | refine L_nil ?_) | refine G_seq ?_ | refine G_region ?_ | refine G_skip ?_ | refine G_block ?_ | refine G_end ?_ | refine G_true rfl ?_ | refine G_false rfl ?_))
    (refine G_retF rfl ?_)
    exact ⟨_, rfl, rfl, hex.trans hw3⟩
  | true =>
    rw [eal] at hal
    have hl := alikeT_len eal
    rw [Bool.true_and, identL_eq hl]
    refine L_callQ hal rfl rfl fun w3 hw3 => ?_
    have hA3 := hA2.ext0 hw3
    (repeat (first | (refine cL ?_; first | (refine cL_move ?_; refine L_val R_move rfl rfl rfl ?_) | (refine cL_load ?_; first | refine L_val (R_loadB rfl (by assumption) (by rfl)) rfl rfl rfl ?_ | refine L_val (R_loadH (by assumption) rfl (by assumption) (by rfl)) rfl rfl rfl ?_) | (refine cL_fieldAddr ?_; refine L_val (R_fa rfl) rfl rfl rfl ?_) | (refine cL_assign ?_; refine L_val R_assign rfl rfl rfl ?_) | (refine cL_call ?_; refine L_val (R_len rfl) rfl rfl rfl ?_) | (refine cL_lss ?_; refine L_val (R_ltI rfl rfl) rfl rfl rfl ?_) | (refine cL_not ?_; refine L_val (R_not rfl) rfl rfl rfl ?_) | (refine cL_add ?_; refine L_val (R_addI rfl rfl) rfl rfl rfl ?_) | refine L_nil ?_) | refine G_seq ?_ | refine G_region ?_ | refine G_skip ?_ | refine G_block ?_ | refine G_end ?_ | refine G_true rfl ?_ | refine G_false rfl ?_))
    refine G_loop (CountI 14 13 x.es.length [(3, ptr b3), (12, .slice p x.es.length cap)] w3 fun i => ∀ j, j < i → identR x.es y.es j = true) (fun f _ _ => countM 14 13 f)
      ⟨rfl, Ext.refl _ _, _, 0, with_self ⟨rfl, rfl, rfl, rfl, trivial⟩, Nat.zero_le _, fun j hj => absurd hj (Nat.not_lt_zero j)⟩ ?_
    rintro f ds wr ⟨rfl, hext, f0, i, rfl, hi, hJ⟩
    have hAr := hA3.ext0 hext
    by_cases h : i < x.es.length
    · have hb : decide ((i : Int) < (x.es.length : Int)) = true := decide_eq_true (by omega)
      obtain ⟨e, he⟩ : ∃ v, x.es[i]? = some v := ⟨_, List.getElem?_eq_getElem h⟩
      obtain ⟨e', he'⟩ : ∃ v', y.es[i]? = some v' := ⟨_, List.getElem?_eq_getElem (by omega)⟩
      obtain ⟨bk, off, ec, rfl, hec, hed⟩ := (hes.mono hle).get he
      obtain ⟨bk', off', ec', rfl, hec', hed'⟩ := (hes'.mono hle).get he'
      obtain ⟨q, qcap, rfl, -, -, -, -, -⟩ := hed.cells
      obtain ⟨q', qcap', rfl, -, -, -, -, -⟩ := hed'.cells
      (repeat (first | (refine cL ?_; first | (refine cL_move ?_; refine L_val R_move rfl rfl rfl ?_) | (refine cL_load ?_; first | refine L_val (R_loadA rfl rfl fun j v hj => hAr.hcell (hec j v hj)) rfl rfl rfl ?_ | refine L_val (R_loadB rfl (by assumption) (by rfl)) rfl rfl rfl ?_ | refine L_val (R_loadH (by assumption) rfl (by assumption) (by rfl)) rfl rfl rfl ?_) | (refine cL_fieldAddr ?_; refine L_val (R_fa rfl) rfl rfl rfl ?_) | (refine cL_assign ?_; refine L_val R_assign rfl rfl rfl ?_) | (refine cL_call ?_; refine L_val (R_len rfl) rfl rfl rfl ?_) | (refine cL_lss ?_; first | refine L_valB (R_ltI rfl rfl) hb rfl rfl rfl ?_ | refine L_val (R_ltI rfl rfl) rfl rfl rfl ?_) | (refine cL_indexAddr ?_; refine L_valE (R_ia rfl rfl (by omega) (by omega)) (ia6 _ _ _) rfl rfl rfl ?_) | (refine cL_not ?_; refine L_val (R_not rfl) rfl rfl rfl ?_) | (refine cL_add ?_; refine L_val (R_addI rfl rfl) rfl rfl rfl ?_) | refine L_nil ?_) | refine G_seq ?_ | refine G_region ?_ | refine G_skip ?_ | refine G_block ?_ | refine G_end ?_ | refine G_true rfl ?_ | refine G_false rfl ?_))
      refine L_allocS rfl rfl fun b6 w4 hn4 => ?_
      (repeat (first | (refine cL ?_; first | (refine cL_move ?_; refine L_val R_move rfl rfl rfl ?_) | (refine cL_load ?_; first | refine L_val (R_loadB rfl (by assumption) (by rfl)) rfl rfl rfl ?_ | refine L_val (R_loadH (by assumption) rfl (by assumption) (by rfl)) rfl rfl rfl ?_) | (refine cL_fieldAddr ?_; refine L_val (R_fa rfl) rfl rfl rfl ?_) | (refine cL_assign ?_; refine L_val R_assign rfl rfl rfl ?_) | (refine cL_call ?_; refine L_val (R_len rfl) rfl rfl rfl ?_) | (refine cL_lss ?_; refine L_val (R_ltI rfl rfl) rfl rfl rfl ?_) | (refine cL_not ?_; refine L_val (R_not rfl) rfl rfl rfl ?_) | (refine cL_add ?_; refine L_val (R_addI rfl rfl) rfl rfl rfl ?_) | refine L_nil ?_) | refine G_seq ?_ | refine G_region ?_ | refine G_skip ?_ | refine G_block ?_ | refine G_end ?_ | refine G_true rfl ?_ | refine G_false rfl ?_))
      refine L_storeA rfl hn4.here rfl rfl rfl rfl rfl rfl fun w5 h5 e5 s5 => ?_
      obtain ⟨H5, g5, hb6⟩ := Grow.ofNew hAr (hn4.store h5 e5 s5)
      have hb3' := g5.le _ _ hb3
      have hAg : ∀ w', Ext No w5 w' → Agree _ w' := fun _ he => g5.ag.ext0 he
      have hec2 := hec'.mono g5.le
      have hr : ident e e' = identR x.es y.es i := by simp [identR, he, he']
      have hih := fun w' hA' => hr ▸ ih e (List.mem_of_getElem? he) e' _ _ H5 w' hA' (DTy.mono g5.le _ _ hed) (DTy.mono g5.le _ _ hed')
      (repeat (first | (refine cL ?_; first | (refine cL_move ?_; refine L_val R_move rfl rfl rfl ?_) | (refine cL_load ?_; first | refine L_val (R_loadB rfl (by assumption) (by rfl)) rfl rfl rfl ?_ | refine L_val (R_loadH (by assumption) rfl (by assumption) (by rfl)) rfl rfl rfl ?_) | (refine cL_fieldAddr ?_; refine L_val (R_fa rfl) rfl rfl rfl ?_) | (refine cL_assign ?_; refine L_val R_assign rfl rfl rfl ?_) | (refine cL_call ?_; refine L_val (R_len rfl) rfl rfl rfl ?_) | (refine cL_lss ?_; refine L_val (R_ltI rfl rfl) rfl rfl rfl ?_) | (refine cL_not ?_; refine L_val (R_not rfl) rfl rfl rfl ?_) | (refine cL_add ?_; refine L_val (R_addI rfl rfl) rfl rfl rfl ?_) | refine L_nil ?_) | refine G_seq ?_ | refine G_region ?_ | refine G_skip ?_ | refine G_block ?_ | refine G_end ?_ | refine G_true rfl ?_ | refine G_false rfl ?_))
      (refine G_draw No (0 :: 1 :: 2 :: 3 :: 4 :: 5 :: 6 :: 7 :: []) [] follows (by kernel_rfl) rfl ?_)
      cases hbn : identR x.es y.es i with
      | false =>
        rw [hbn] at hih
        (repeat (first | (refine cD_move ?_; refine D_val0 (fun _ _ => R_move) rfl rfl ?_) | (refine cD_load ?_; first | refine D_val0 (fun w he => R_loadA rfl rfl fun j v hj => (hAg w he).hcell (hec2 j v hj)) rfl rfl ?_ | refine D_val0 (fun w he => R_loadAB rfl rfl ((hAg w he) _ _ hb6)) rfl rfl ?_ | refine D_val0 (fun w he => R_loadH (hAg w he) rfl (by assumption) (by rfl)) rfl rfl ?_) | (refine cD_fieldAddr ?_; refine D_val0 (fun _ _ => R_fa rfl) rfl rfl ?_) | (refine cD_assign ?_; refine D_val0 (fun _ _ => R_assign) rfl rfl ?_) | (refine cD_call ?_; first | refine D_callQ (fun w he => hih w (hAg w he)) rfl ?_ | refine D_val0 (fun _ _ => R_len rfl) rfl rfl ?_) | (refine cD_lss ?_; refine D_val0 (fun _ _ => R_ltI rfl rfl) rfl rfl ?_) | (refine cD_indexAddr ?_; refine D_valE (fun _ _ => R_ia rfl rfl (by omega) (by omega)) (ia6 _ _ _) rfl rfl ?_) | (refine cD_not ?_; refine D_val0 (fun _ _ => R_not rfl) rfl rfl ?_) | (refine cD_add ?_; refine D_val0 (fun _ _ => R_addI rfl rfl) rfl rfl ?_)))
        refine D_nil fun w6 hw6 => ?_
        (repeat (first | (refine cL ?_; first | (refine cL_move ?_; refine L_val R_move rfl rfl rfl ?_) | (refine cL_load ?_; first | refine L_val (R_loadB rfl (by assumption) (by rfl)) rfl rfl rfl ?_ | refine L_val (R_loadH (by assumption) rfl (by assumption) (by rfl)) rfl rfl rfl ?_) | (refine cL_fieldAddr ?_; refine L_val (R_fa rfl) rfl rfl rfl ?_) | (refine cL_assign ?_; refine L_val R_assign rfl rfl rfl ?_) | (refine cL_call ?_; refine L_val (R_len rfl) rfl rfl rfl ?_) | (refine cL_lss ?_; refine L_val (R_ltI rfl rfl) rfl rfl rfl ?_) | (refine cL_not ?_; refine L_val (R_not rfl) rfl rfl rfl ?_) | (refine cL_add ?_; refine L_val (R_addI rfl rfl) rfl rfl rfl ?_) | refine L_nil ?_) | refine G_seq ?_ | refine G_region ?_ | refine G_skip ?_ | refine G_block ?_ | refine G_end ?_ | refine G_true rfl ?_ | refine G_false rfl ?_))
        (refine G_retF rfl ?_)
        exact ⟨_, rfl, congrArg Value.bool (allR_false h hbn).symm, hex.trans (hw3.trans (hext.trans (g5.ext.trans hw6)))⟩
      | true =>
        rw [hbn] at hih
        (repeat (first | (refine cD_move ?_; refine D_val0 (fun _ _ => R_move) rfl rfl ?_) | (refine cD_load ?_; first | refine D_val0 (fun w he => R_loadA rfl rfl fun j v hj => (hAg w he).hcell (hec2 j v hj)) rfl rfl ?_ | refine D_val0 (fun w he => R_loadAB rfl rfl ((hAg w he) _ _ hb6)) rfl rfl ?_ | refine D_val0 (fun w he => R_loadH (hAg w he) rfl (by assumption) (by rfl)) rfl rfl ?_) | (refine cD_fieldAddr ?_; refine D_val0 (fun _ _ => R_fa rfl) rfl rfl ?_) | (refine cD_assign ?_; refine D_val0 (fun _ _ => R_assign) rfl rfl ?_) | (refine cD_call ?_; first | refine D_callQ (fun w he => hih w (hAg w he)) rfl ?_ | refine D_val0 (fun _ _ => R_len rfl) rfl rfl ?_) | (refine cD_lss ?_; refine D_val0 (fun _ _ => R_ltI rfl rfl) rfl rfl ?_) | (refine cD_indexAddr ?_; refine D_valE (fun _ _ => R_ia rfl rfl (by omega) (by omega)) (ia6 _ _ _) rfl rfl ?_) | (refine cD_not ?_; refine D_val0 (fun _ _ => R_not rfl) rfl rfl ?_) | (refine cD_add ?_; refine D_val0 (fun _ _ => R_addI rfl rfl) rfl rfl ?_)))
        refine D_nil fun w6 hw6 => ?_
        (repeat (first | (refine cL ?_; first | (refine cL_move ?_; refine L_val R_move rfl rfl rfl ?_) | (refine cL_load ?_; first | refine L_val (R_loadB rfl (by assumption) (by rfl)) rfl rfl rfl ?_ | refine L_val (R_loadH (by assumption) rfl (by assumption) (by rfl)) rfl rfl rfl ?_) | (refine cL_fieldAddr ?_; refine L_val (R_fa rfl) rfl rfl rfl ?_) | (refine cL_assign ?_; refine L_val R_assign rfl rfl rfl ?_) | (refine cL_call ?_; refine L_val (R_len rfl) rfl rfl rfl ?_) | (refine cL_lss ?_; refine L_val (R_ltI rfl rfl) rfl rfl rfl ?_) | (refine cL_not ?_; refine L_val (R_not rfl) rfl rfl rfl ?_) | (refine cL_add ?_; first | refine L_valE (R_addI rfl rfl) (succ_i64 h (by omega)) rfl rfl rfl ?_ | refine L_val (R_addI rfl rfl) rfl rfl rfl ?_) | refine L_nil ?_) | refine G_seq ?_ | refine G_region ?_ | refine G_skip ?_ | refine G_block ?_ | refine G_end ?_ | refine G_true rfl ?_ | refine G_false rfl ?_))
        refine G_inv ⟨⟨rfl, hext.trans (g5.ext.trans hw6), _, i + 1, with_self ⟨rfl, rfl, rfl, rfl, trivial⟩, h, fun j hj => ?_⟩, ?_⟩
        · rcases Nat.lt_succ_iff_lt_or_eq.1 hj with hj | rfl
          · exact hJ j hj
          · exact hbn
        · show ((x.es.length : Int) - ((i + 1 : Nat) : Int)).toNat < ((x.es.length : Int) - (i : Int)).toNat
          omega
    · have hb : decide ((i : Int) < (x.es.length : Int)) = false := decide_eq_false (by omega)
      (repeat (first | (refine cL ?_; first | (refine cL_move ?_; refine L_val R_move rfl rfl rfl ?_) | (refine cL_load ?_; first | refine L_val (R_loadB rfl (by assumption) (by rfl)) rfl rfl rfl ?_ | refine L_val (R_loadH (by assumption) rfl (by assumption) (by rfl)) rfl rfl rfl ?_) | (refine cL_fieldAddr ?_; refine L_val (R_fa rfl) rfl rfl rfl ?_) | (refine cL_assign ?_; refine L_val R_assign rfl rfl rfl ?_) | (refine cL_call ?_; refine L_val (R_len rfl) rfl rfl rfl ?_) | (refine cL_lss ?_; first | refine L_valB (R_ltI rfl rfl) hb rfl rfl rfl ?_ | refine L_val (R_ltI rfl rfl) rfl rfl rfl ?_) | (refine cL_not ?_; refine L_val (R_not rfl) rfl rfl rfl ?_) | (refine cL_add ?_; refine L_val (R_addI rfl rfl) rfl rfl rfl ?_) | refine L_nil ?_) | refine G_exit rfl ?_ | refine G_seq ?_ | refine G_region ?_ | refine G_skip ?_ | refine G_block ?_ | refine G_end ?_ | refine G_true rfl ?_ | refine G_false rfl ?_))
      (refine G_retF rfl ?_)
      exact ⟨_, rfl, congrArg Value.bool (allR_true fun j hj => hJ j (by omega)).symm, hex.trans (hw3.trans hext)⟩
end Go.Proofs.YtmmcjnfgcaefpaaGreatDoor

/-
  The verifier's small functions on the input's types.
-/
namespace Go.Proofs.YtmmcjnfgcaefpaaGreatDoor
set_option maxRecDepth 100000
set_option maxHeartbeats 4000000
attribute [local irreducible] Calls execOp

theorem elems_any (k : Int) (w : World) : Calls Tryz.prog 15 #[.int .i64 k] w (Ret (Is (.int .i64 (elemsL k)) w)) := by
  cases e0 : (k == 0) with
  | true =>
    have hk : k = 0 := by simpa using e0
    subst hk
    (refine calls_enter Tryz.func15 Tryz.ntmps15 rfl rfl ?_)
    (repeat (first | (refine cL ?_; first | (refine cL_move ?_; refine L_val R_move rfl rfl rfl ?_) | (refine cL_assign ?_; refine L_val R_assign rfl rfl rfl ?_) | (refine cL_eql ?_; first | refine L_val (R_eqPN rfl rfl) rfl rfl rfl ?_ | refine L_val (R_eqI rfl rfl) rfl rfl rfl ?_ | refine L_val (R_eqB rfl rfl) rfl rfl rfl ?_ | refine L_val (R_eqIfN rfl rfl) rfl rfl rfl ?_ | refine L_val (R_eqIfNN rfl) rfl rfl rfl ?_) | refine L_nil ?_) | refine G_seq ?_ | refine G_region ?_ | refine G_skip ?_ | refine G_block ?_ | refine G_end ?_ | refine G_true rfl ?_ | refine G_false rfl ?_))
    (refine G_retF rfl ?_)
    exact ⟨_, rfl, rfl, rfl⟩
  | false =>
  cases e2 : (k == 2) with
  | true =>
    have hk : k = 2 := by simpa using e2
    subst hk
    (refine calls_enter Tryz.func15 Tryz.ntmps15 rfl rfl ?_)
    (repeat (first | (refine cL ?_; first | (refine cL_move ?_; refine L_val R_move rfl rfl rfl ?_) | (refine cL_assign ?_; refine L_val R_assign rfl rfl rfl ?_) | (refine cL_eql ?_; first | refine L_val (R_eqPN rfl rfl) rfl rfl rfl ?_ | refine L_val (R_eqI rfl rfl) rfl rfl rfl ?_ | refine L_val (R_eqB rfl rfl) rfl rfl rfl ?_ | refine L_val (R_eqIfN rfl rfl) rfl rfl rfl ?_ | refine L_val (R_eqIfNN rfl) rfl rfl rfl ?_) | refine L_nil ?_) | refine G_seq ?_ | refine G_region ?_ | refine G_skip ?_ | refine G_block ?_ | refine G_end ?_ | refine G_true rfl ?_ | refine G_false rfl ?_))
    (refine G_retF rfl ?_)
    exact ⟨_, rfl, rfl, rfl⟩
  | false =>
  cases e3 : (k == 3) with
  | true =>
    have hk : k = 3 := by simpa using e3
    subst hk
    (refine calls_enter Tryz.func15 Tryz.ntmps15 rfl rfl ?_)
    (repeat (first | (refine cL ?_; first | (refine cL_move ?_; refine L_val R_move rfl rfl rfl ?_) | (refine cL_assign ?_; refine L_val R_assign rfl rfl rfl ?_) | (refine cL_eql ?_; first | refine L_val (R_eqPN rfl rfl) rfl rfl rfl ?_ | refine L_val (R_eqI rfl rfl) rfl rfl rfl ?_ | refine L_val (R_eqB rfl rfl) rfl rfl rfl ?_ | refine L_val (R_eqIfN rfl rfl) rfl rfl rfl ?_ | refine L_val (R_eqIfNN rfl) rfl rfl rfl ?_) | refine L_nil ?_) | refine G_seq ?_ | refine G_region ?_ | refine G_skip ?_ | refine G_block ?_ | refine G_end ?_ | refine G_true rfl ?_ | refine G_false rfl ?_))
    (refine G_retF rfl ?_)
    exact ⟨_, rfl, rfl, rfl⟩
  | false =>
  cases e7 : (k == 7) with
  | true =>
    have hk : k = 7 := by simpa using e7
    subst hk
    (refine calls_enter Tryz.func15 Tryz.ntmps15 rfl rfl ?_)
    (repeat (first | (refine cL ?_; first | (refine cL_move ?_; refine L_val R_move rfl rfl rfl ?_) | (refine cL_assign ?_; refine L_val R_assign rfl rfl rfl ?_) | (refine cL_eql ?_; first | refine L_val (R_eqPN rfl rfl) rfl rfl rfl ?_ | refine L_val (R_eqI rfl rfl) rfl rfl rfl ?_ | refine L_val (R_eqB rfl rfl) rfl rfl rfl ?_ | refine L_val (R_eqIfN rfl rfl) rfl rfl rfl ?_ | refine L_val (R_eqIfNN rfl) rfl rfl rfl ?_) | refine L_nil ?_) | refine G_seq ?_ | refine G_region ?_ | refine G_skip ?_ | refine G_block ?_ | refine G_end ?_ | refine G_true rfl ?_ | refine G_false rfl ?_))
    (refine G_retF rfl ?_)
    exact ⟨_, rfl, rfl, rfl⟩
  | false =>
  cases e1 : (k == 1) with
  | true =>
    have hk : k = 1 := by simpa using e1
    subst hk
    (refine calls_enter Tryz.func15 Tryz.ntmps15 rfl rfl ?_)
    (repeat (first | (refine cL ?_; first | (refine cL_move ?_; refine L_val R_move rfl rfl rfl ?_) | (refine cL_assign ?_; refine L_val R_assign rfl rfl rfl ?_) | (refine cL_eql ?_; first | refine L_val (R_eqPN rfl rfl) rfl rfl rfl ?_ | refine L_val (R_eqI rfl rfl) rfl rfl rfl ?_ | refine L_val (R_eqB rfl rfl) rfl rfl rfl ?_ | refine L_val (R_eqIfN rfl rfl) rfl rfl rfl ?_ | refine L_val (R_eqIfNN rfl) rfl rfl rfl ?_) | refine L_nil ?_) | refine G_seq ?_ | refine G_region ?_ | refine G_skip ?_ | refine G_block ?_ | refine G_end ?_ | refine G_true rfl ?_ | refine G_false rfl ?_))
    (refine G_retF rfl ?_)
    exact ⟨_, rfl, rfl, rfl⟩
  | false =>
  cases e9 : (k == 9) with
  | true =>
    have hk : k = 9 := by simpa using e9
    subst hk
    (refine calls_enter Tryz.func15 Tryz.ntmps15 rfl rfl ?_)
    (repeat (first | (refine cL ?_; first | (refine cL_move ?_; refine L_val R_move rfl rfl rfl ?_) | (refine cL_assign ?_; refine L_val R_assign rfl rfl rfl ?_) | (refine cL_eql ?_; first | refine L_val (R_eqPN rfl rfl) rfl rfl rfl ?_ | refine L_val (R_eqI rfl rfl) rfl rfl rfl ?_ | refine L_val (R_eqB rfl rfl) rfl rfl rfl ?_ | refine L_val (R_eqIfN rfl rfl) rfl rfl rfl ?_ | refine L_val (R_eqIfNN rfl) rfl rfl rfl ?_) | refine L_nil ?_) | refine G_seq ?_ | refine G_region ?_ | refine G_skip ?_ | refine G_block ?_ | refine G_end ?_ | refine G_true rfl ?_ | refine G_false rfl ?_))
    (refine G_retF rfl ?_)
    exact ⟨_, rfl, rfl, rfl⟩
  | false =>
  cases e10 : (k == 10) with
  | true =>
    have hk : k = 10 := by simpa using e10
    subst hk
    (refine calls_enter Tryz.func15 Tryz.ntmps15 rfl rfl ?_)
    (repeat (first | (refine cL ?_; first | (refine cL_move ?_; refine L_val R_move rfl rfl rfl ?_) | (refine cL_assign ?_; refine L_val R_assign rfl rfl rfl ?_) | (refine cL_eql ?_; first | refine L_val (R_eqPN rfl rfl) rfl rfl rfl ?_ | refine L_val (R_eqI rfl rfl) rfl rfl rfl ?_ | refine L_val (R_eqB rfl rfl) rfl rfl rfl ?_ | refine L_val (R_eqIfN rfl rfl) rfl rfl rfl ?_ | refine L_val (R_eqIfNN rfl) rfl rfl rfl ?_) | refine L_nil ?_) | refine G_seq ?_ | refine G_region ?_ | refine G_skip ?_ | refine G_block ?_ | refine G_end ?_ | refine G_true rfl ?_ | refine G_false rfl ?_))
    (refine G_retF rfl ?_)
    exact ⟨_, rfl, rfl, rfl⟩
  | false =>
    have hv : elemsL k = 1 := by simp at e0 e2 e3 e7 e1 e9 e10; simp [elemsL, *]
    rw [hv]
    (refine calls_enter Tryz.func15 Tryz.ntmps15 rfl rfl ?_)
    (repeat (first | (refine cL ?_; first | (refine cL_move ?_; refine L_val R_move rfl rfl rfl ?_) | (refine cL_assign ?_; refine L_val R_assign rfl rfl rfl ?_) | (refine cL_eql ?_; first | refine L_valB (R_eqI rfl rfl) e0 rfl rfl rfl ?_ | refine L_valB (R_eqI rfl rfl) e2 rfl rfl rfl ?_ | refine L_valB (R_eqI rfl rfl) e3 rfl rfl rfl ?_ | refine L_valB (R_eqI rfl rfl) e7 rfl rfl rfl ?_ | refine L_valB (R_eqI rfl rfl) e1 rfl rfl rfl ?_ | refine L_valB (R_eqI rfl rfl) e9 rfl rfl rfl ?_ | refine L_valB (R_eqI rfl rfl) e10 rfl rfl rfl ?_ | refine L_val (R_eqPN rfl rfl) rfl rfl rfl ?_ | refine L_val (R_eqI rfl rfl) rfl rfl rfl ?_ | refine L_val (R_eqB rfl rfl) rfl rfl rfl ?_ | refine L_val (R_eqIfN rfl rfl) rfl rfl rfl ?_ | refine L_val (R_eqIfNN rfl) rfl rfl rfl ?_) | refine L_nil ?_) | refine G_seq ?_ | refine G_region ?_ | refine G_skip ?_ | refine G_block ?_ | refine G_end ?_ | refine G_true rfl ?_ | refine G_false rfl ?_))
    (refine G_retF rfl ?_)
    exact ⟨_, rfl, rfl, rfl⟩

theorem limit_any (p : Option Addr) (nd cap : Nat) (k params own : Int) (w : World) : Calls Tryz.prog 16 #[.slice p nd cap, .int .i64 k, .int .i64 params, .int .i64 own] w (Ret (Is (.int .i64 (limitL nd k params own)) w)) := by
  cases e0 : (k == 0) with
  | true =>
    have hk : k = 0 := by simpa using e0
    subst hk
    (refine calls_enter Tryz.func16 Tryz.ntmps16 rfl rfl ?_)
    (repeat (first | (refine cL ?_; first | (refine cL_move ?_; refine L_val R_move rfl rfl rfl ?_) | (refine cL_assign ?_; refine L_val R_assign rfl rfl rfl ?_) | (refine cL_call ?_; refine L_val (R_len rfl) rfl rfl rfl ?_) | (refine cL_eql ?_; first | refine L_val (R_eqPN rfl rfl) rfl rfl rfl ?_ | refine L_val (R_eqI rfl rfl) rfl rfl rfl ?_ | refine L_val (R_eqB rfl rfl) rfl rfl rfl ?_ | refine L_val (R_eqIfN rfl rfl) rfl rfl rfl ?_ | refine L_val (R_eqIfNN rfl) rfl rfl rfl ?_) | refine L_nil ?_) | refine G_seq ?_ | refine G_region ?_ | refine G_skip ?_ | refine G_block ?_ | refine G_end ?_ | refine G_true rfl ?_ | refine G_false rfl ?_))
    (refine G_retF rfl ?_)
    exact ⟨_, rfl, rfl, rfl⟩
  | false =>
  cases e1 : (k == 1) with
  | true =>
    have hk : k = 1 := by simpa using e1
    subst hk
    (refine calls_enter Tryz.func16 Tryz.ntmps16 rfl rfl ?_)
    (repeat (first | (refine cL ?_; first | (refine cL_move ?_; refine L_val R_move rfl rfl rfl ?_) | (refine cL_assign ?_; refine L_val R_assign rfl rfl rfl ?_) | (refine cL_call ?_; refine L_val (R_len rfl) rfl rfl rfl ?_) | (refine cL_eql ?_; first | refine L_val (R_eqPN rfl rfl) rfl rfl rfl ?_ | refine L_val (R_eqI rfl rfl) rfl rfl rfl ?_ | refine L_val (R_eqB rfl rfl) rfl rfl rfl ?_ | refine L_val (R_eqIfN rfl rfl) rfl rfl rfl ?_ | refine L_val (R_eqIfNN rfl) rfl rfl rfl ?_) | refine L_nil ?_) | refine G_seq ?_ | refine G_region ?_ | refine G_skip ?_ | refine G_block ?_ | refine G_end ?_ | refine G_true rfl ?_ | refine G_false rfl ?_))
    (refine G_retF rfl ?_)
    exact ⟨_, rfl, rfl, rfl⟩
  | false =>
  cases e2 : (k == 2) with
  | true =>
    have hk : k = 2 := by simpa using e2
    subst hk
    (refine calls_enter Tryz.func16 Tryz.ntmps16 rfl rfl ?_)
    (repeat (first | (refine cL ?_; first | (refine cL_move ?_; refine L_val R_move rfl rfl rfl ?_) | (refine cL_assign ?_; refine L_val R_assign rfl rfl rfl ?_) | (refine cL_call ?_; refine L_val (R_len rfl) rfl rfl rfl ?_) | (refine cL_eql ?_; first | refine L_val (R_eqPN rfl rfl) rfl rfl rfl ?_ | refine L_val (R_eqI rfl rfl) rfl rfl rfl ?_ | refine L_val (R_eqB rfl rfl) rfl rfl rfl ?_ | refine L_val (R_eqIfN rfl rfl) rfl rfl rfl ?_ | refine L_val (R_eqIfNN rfl) rfl rfl rfl ?_) | refine L_nil ?_) | refine G_seq ?_ | refine G_region ?_ | refine G_skip ?_ | refine G_block ?_ | refine G_end ?_ | refine G_true rfl ?_ | refine G_false rfl ?_))
    (refine G_retF rfl ?_)
    exact ⟨_, rfl, rfl, rfl⟩
  | false =>
  cases e3 : (k == 3) with
  | true =>
    have hk : k = 3 := by simpa using e3
    subst hk
    (refine calls_enter Tryz.func16 Tryz.ntmps16 rfl rfl ?_)
    (repeat (first | (refine cL ?_; first | (refine cL_move ?_; refine L_val R_move rfl rfl rfl ?_) | (refine cL_assign ?_; refine L_val R_assign rfl rfl rfl ?_) | (refine cL_call ?_; refine L_val (R_len rfl) rfl rfl rfl ?_) | (refine cL_eql ?_; first | refine L_val (R_eqPN rfl rfl) rfl rfl rfl ?_ | refine L_val (R_eqI rfl rfl) rfl rfl rfl ?_ | refine L_val (R_eqB rfl rfl) rfl rfl rfl ?_ | refine L_val (R_eqIfN rfl rfl) rfl rfl rfl ?_ | refine L_val (R_eqIfNN rfl) rfl rfl rfl ?_) | refine L_nil ?_) | refine G_seq ?_ | refine G_region ?_ | refine G_skip ?_ | refine G_block ?_ | refine G_end ?_ | refine G_true rfl ?_ | refine G_false rfl ?_))
    (refine G_retF rfl ?_)
    exact ⟨_, rfl, rfl, rfl⟩
  | false =>
  cases e6 : (k == 6) with
  | true =>
    have hk : k = 6 := by simpa using e6
    subst hk
    (refine calls_enter Tryz.func16 Tryz.ntmps16 rfl rfl ?_)
    (repeat (first | (refine cL ?_; first | (refine cL_move ?_; refine L_val R_move rfl rfl rfl ?_) | (refine cL_assign ?_; refine L_val R_assign rfl rfl rfl ?_) | (refine cL_call ?_; refine L_val (R_len rfl) rfl rfl rfl ?_) | (refine cL_eql ?_; first | refine L_val (R_eqPN rfl rfl) rfl rfl rfl ?_ | refine L_val (R_eqI rfl rfl) rfl rfl rfl ?_ | refine L_val (R_eqB rfl rfl) rfl rfl rfl ?_ | refine L_val (R_eqIfN rfl rfl) rfl rfl rfl ?_ | refine L_val (R_eqIfNN rfl) rfl rfl rfl ?_) | refine L_nil ?_) | refine G_seq ?_ | refine G_region ?_ | refine G_skip ?_ | refine G_block ?_ | refine G_end ?_ | refine G_true rfl ?_ | refine G_false rfl ?_))
    (refine G_retF rfl ?_)
    exact ⟨_, rfl, rfl, rfl⟩
  | false =>
  cases e8 : (k == 8) with
  | true =>
    have hk : k = 8 := by simpa using e8
    subst hk
    (refine calls_enter Tryz.func16 Tryz.ntmps16 rfl rfl ?_)
    (repeat (first | (refine cL ?_; first | (refine cL_move ?_; refine L_val R_move rfl rfl rfl ?_) | (refine cL_assign ?_; refine L_val R_assign rfl rfl rfl ?_) | (refine cL_call ?_; refine L_val (R_len rfl) rfl rfl rfl ?_) | (refine cL_eql ?_; first | refine L_val (R_eqPN rfl rfl) rfl rfl rfl ?_ | refine L_val (R_eqI rfl rfl) rfl rfl rfl ?_ | refine L_val (R_eqB rfl rfl) rfl rfl rfl ?_ | refine L_val (R_eqIfN rfl rfl) rfl rfl rfl ?_ | refine L_val (R_eqIfNN rfl) rfl rfl rfl ?_) | refine L_nil ?_) | refine G_seq ?_ | refine G_region ?_ | refine G_skip ?_ | refine G_block ?_ | refine G_end ?_ | refine G_true rfl ?_ | refine G_false rfl ?_))
    (refine G_retF rfl ?_)
    exact ⟨_, rfl, rfl, rfl⟩
  | false =>
    have hv : limitL nd k params own = -2 := by simp at e0 e1 e2 e3 e6 e8; simp [limitL, *]
    rw [hv]
    (refine calls_enter Tryz.func16 Tryz.ntmps16 rfl rfl ?_)
    (repeat (first | (refine cL ?_; first | (refine cL_move ?_; refine L_val R_move rfl rfl rfl ?_) | (refine cL_assign ?_; refine L_val R_assign rfl rfl rfl ?_) | (refine cL_call ?_; refine L_val (R_len rfl) rfl rfl rfl ?_) | (refine cL_eql ?_; first | refine L_valB (R_eqI rfl rfl) e0 rfl rfl rfl ?_ | refine L_valB (R_eqI rfl rfl) e1 rfl rfl rfl ?_ | refine L_valB (R_eqI rfl rfl) e2 rfl rfl rfl ?_ | refine L_valB (R_eqI rfl rfl) e3 rfl rfl rfl ?_ | refine L_valB (R_eqI rfl rfl) e6 rfl rfl rfl ?_ | refine L_valB (R_eqI rfl rfl) e8 rfl rfl rfl ?_ | refine L_val (R_eqPN rfl rfl) rfl rfl rfl ?_ | refine L_val (R_eqI rfl rfl) rfl rfl rfl ?_ | refine L_val (R_eqB rfl rfl) rfl rfl rfl ?_ | refine L_val (R_eqIfN rfl rfl) rfl rfl rfl ?_ | refine L_val (R_eqIfNN rfl) rfl rfl rfl ?_) | refine L_nil ?_) | refine G_seq ?_ | refine G_region ?_ | refine G_skip ?_ | refine G_block ?_ | refine G_end ?_ | refine G_true rfl ?_ | refine G_false rfl ?_))
    (refine G_retF rfl ?_)
    exact ⟨_, rfl, rfl, rfl⟩
end Go.Proofs.YtmmcjnfgcaefpaaGreatDoor

/-
  The verifier's 'fieldName' and 'shaped' on the input's types.
-/
namespace Go.Proofs.YtmmcjnfgcaefpaaGreatDoor
set_option maxRecDepth 100000
set_option maxHeartbeats 4000000
attribute [local irreducible] Calls execOp

theorem nmAt_eq {es : List Ty} {i : Nat} {e : Ty} (h : es[i]? = some e) : nmAt es i = e.nm := by simp [nmAt, h]

theorem fieldName_any {H : Hp} {es : List Ty} {p : Option Addr} {cap i : Nat} (w : World) (hA : Agree H w) (hes : DSl H es p) (hi : i < es.length) (hcap : es.length ≤ cap) (hbd : es.length < 9223372036854775808) :
    Calls Tryz.prog 17 #[.slice p es.length cap, .int .i64 (i : Int)] w (Ret (Qt (.bool (nameB es i)) w)) := by
  obtain ⟨e, he⟩ : ∃ v, es[i]? = some v := ⟨_, List.getElem?_eq_getElem hi⟩
  obtain ⟨bk, off, ec, rfl, hec, hed⟩ := hes.get he
  obtain ⟨q, qcap, rfl, -, -, -, -, -⟩ := hed.cells
  (refine calls_enter Tryz.func17 Tryz.ntmps17 rfl rfl ?_)
  (repeat (first | (refine cL ?_; first | (refine cL_guard ?_; refine L_unwanted rfl rfl rfl ?_) | (refine cL_move ?_; refine L_val R_move rfl rfl rfl ?_) | (refine cL_load ?_; first | refine L_val (R_loadB rfl (by assumption) (by rfl)) rfl rfl rfl ?_ | refine L_val (R_loadH (by assumption) rfl (by assumption) (by rfl)) rfl rfl rfl ?_) | (refine cL_fieldAddr ?_; refine L_val (R_fa rfl) rfl rfl rfl ?_) | (refine cL_assign ?_; refine L_val R_assign rfl rfl rfl ?_) | (refine cL_call ?_; refine L_val (R_len rfl) rfl rfl rfl ?_) | (refine cL_pick ?_; first | refine L_val (R_pickT rfl) rfl rfl rfl ?_ | refine L_val (R_pickF rfl) rfl rfl rfl ?_) | (refine cL_eql ?_; first | refine L_val (R_eqPN rfl rfl) rfl rfl rfl ?_ | refine L_val (R_eqI rfl rfl) rfl rfl rfl ?_ | refine L_val (R_eqB rfl rfl) rfl rfl rfl ?_ | refine L_val (R_eqIfN rfl rfl) rfl rfl rfl ?_ | refine L_val (R_eqIfNN rfl) rfl rfl rfl ?_) | (refine cL_lss ?_; refine L_val (R_ltI rfl rfl) rfl rfl rfl ?_) | (refine cL_add ?_; refine L_val (R_addI rfl rfl) rfl rfl rfl ?_) | (refine cL_leq ?_; refine L_val (R_leI rfl rfl) rfl rfl rfl ?_) | (refine cL_geq ?_; refine L_val (R_geI rfl rfl) rfl rfl rfl ?_) | (refine cL_slice ?_; refine L_valE (v' := .slice (some ⟨bk, off, none⟩) i cap) (R_sliceH rfl rfl (by omega) (by omega)) rfl rfl rfl rfl ?_) | refine L_nil ?_) | refine G_seq ?_ | refine G_region ?_ | refine G_skip ?_ | refine G_block ?_ | refine G_end ?_ | refine G_true rfl ?_ | refine G_false rfl ?_))
  refine G_loop (CountI 11 10 i [(0, .slice (some ⟨bk, off, none⟩) es.length cap), (1, .int .i64 (i : Int)), (9, .slice (some ⟨bk, off, none⟩) i cap)] w fun j => ∀ l, l < j → (!beqB (nmAt es l) (nmAt es i)) = true) (fun f _ _ => countM 11 10 f)
    ⟨rfl, Ext.refl _ _, _, 0, with_self ⟨rfl, rfl, rfl, rfl, rfl, trivial⟩, Nat.zero_le _, fun j hj => absurd hj (Nat.not_lt_zero j)⟩ ?_
  rintro f ds wr ⟨rfl, hext, f0, j, rfl, hj, hJ⟩
  have hAr := hA.ext0 hext
  by_cases h : j < i
  · have hb : decide ((j : Int) < (i : Int)) = true := decide_eq_true (by omega)
    obtain ⟨e', he'⟩ : ∃ v', es[j]? = some v' := ⟨_, List.getElem?_eq_getElem (by omega)⟩
    obtain ⟨bk', off', ec', hp', hec', hed'⟩ := hes.get he'
    simp only [Option.some.injEq, Addr.mk.injEq, and_true] at hp'
    obtain ⟨h1, h2⟩ := hp'
    subst h1
    subst h2
    obtain ⟨q', qcap', rfl, -, -, -, -, -⟩ := hed'.cells
    (repeat (first | (refine cL ?_; first | (refine cL_guard ?_; refine L_unwanted rfl rfl rfl ?_) | (refine cL_move ?_; refine L_val R_move rfl rfl rfl ?_) | (refine cL_load ?_; first | refine L_val (R_loadA rfl rfl fun j v hj => hAr.hcell (hec' j v hj)) rfl rfl rfl ?_ | refine L_val (R_loadB rfl (by assumption) (by rfl)) rfl rfl rfl ?_ | refine L_val (R_loadH (by assumption) rfl (by assumption) (by rfl)) rfl rfl rfl ?_) | (refine cL_fieldAddr ?_; refine L_val (R_fa rfl) rfl rfl rfl ?_) | (refine cL_assign ?_; refine L_val R_assign rfl rfl rfl ?_) | (refine cL_call ?_; refine L_val (R_len rfl) rfl rfl rfl ?_) | (refine cL_pick ?_; first | refine L_val (R_pickT rfl) rfl rfl rfl ?_ | refine L_val (R_pickF rfl) rfl rfl rfl ?_) | (refine cL_eql ?_; first | refine L_val (R_eqPN rfl rfl) rfl rfl rfl ?_ | refine L_val (R_eqI rfl rfl) rfl rfl rfl ?_ | refine L_val (R_eqB rfl rfl) rfl rfl rfl ?_ | refine L_val (R_eqIfN rfl rfl) rfl rfl rfl ?_ | refine L_val (R_eqIfNN rfl) rfl rfl rfl ?_) | (refine cL_lss ?_; first | refine L_valB (R_ltI rfl rfl) hb rfl rfl rfl ?_ | refine L_val (R_ltI rfl rfl) rfl rfl rfl ?_) | (refine cL_indexAddr ?_; refine L_valE (R_ia rfl rfl (by omega) (by omega)) (ia6 _ _ _) rfl rfl rfl ?_) | (refine cL_add ?_; refine L_val (R_addI rfl rfl) rfl rfl rfl ?_) | (refine cL_leq ?_; refine L_val (R_leI rfl rfl) rfl rfl rfl ?_) | (refine cL_geq ?_; refine L_val (R_geI rfl rfl) rfl rfl rfl ?_) | refine L_nil ?_) | refine G_seq ?_ | refine G_region ?_ | refine G_skip ?_ | refine G_block ?_ | refine G_end ?_ | refine G_true rfl ?_ | refine G_false rfl ?_))
    refine L_allocS rfl rfl fun b6 w3 hn3 => ?_
    (repeat (first | (refine cL ?_; first | (refine cL_guard ?_; refine L_unwanted rfl rfl rfl ?_) | (refine cL_move ?_; refine L_val R_move rfl rfl rfl ?_) | (refine cL_load ?_; first | refine L_val (R_loadB rfl (by assumption) (by rfl)) rfl rfl rfl ?_ | refine L_val (R_loadH (by assumption) rfl (by assumption) (by rfl)) rfl rfl rfl ?_) | (refine cL_fieldAddr ?_; refine L_val (R_fa rfl) rfl rfl rfl ?_) | (refine cL_assign ?_; refine L_val R_assign rfl rfl rfl ?_) | (refine cL_call ?_; refine L_val (R_len rfl) rfl rfl rfl ?_) | (refine cL_pick ?_; first | refine L_val (R_pickT rfl) rfl rfl rfl ?_ | refine L_val (R_pickF rfl) rfl rfl rfl ?_) | (refine cL_eql ?_; first | refine L_val (R_eqPN rfl rfl) rfl rfl rfl ?_ | refine L_val (R_eqI rfl rfl) rfl rfl rfl ?_ | refine L_val (R_eqB rfl rfl) rfl rfl rfl ?_ | refine L_val (R_eqIfN rfl rfl) rfl rfl rfl ?_ | refine L_val (R_eqIfNN rfl) rfl rfl rfl ?_) | (refine cL_lss ?_; refine L_val (R_ltI rfl rfl) rfl rfl rfl ?_) | (refine cL_add ?_; refine L_val (R_addI rfl rfl) rfl rfl rfl ?_) | (refine cL_leq ?_; refine L_val (R_leI rfl rfl) rfl rfl rfl ?_) | (refine cL_geq ?_; refine L_val (R_geI rfl rfl) rfl rfl rfl ?_) | refine L_nil ?_) | refine G_seq ?_ | refine G_region ?_ | refine G_skip ?_ | refine G_block ?_ | refine G_end ?_ | refine G_true rfl ?_ | refine G_false rfl ?_))
    refine L_storeA rfl hn3.here rfl rfl rfl rfl rfl rfl fun w4 h4 e4 s4 => ?_
    obtain ⟨H4, g4, hb6⟩ := Grow.ofNew hAr (hn3.store h4 e4 s4)
    have hAg : ∀ w', Ext No w4 w' → Agree _ w' := fun _ he => g4.ag.ext0 he
    have hec2 := hec.mono g4.le
    have hnm : (e'.nm.toList == e.nm.toList) = beqB (nmAt es j) (nmAt es i) := by rw [nmAt_eq he, nmAt_eq he']; rfl
    (repeat (first | (refine cL ?_; first | (refine cL_guard ?_; refine L_unwanted rfl rfl rfl ?_) | (refine cL_move ?_; refine L_val R_move rfl rfl rfl ?_) | (refine cL_load ?_; first | refine L_val (R_loadB rfl (by assumption) (by rfl)) rfl rfl rfl ?_ | refine L_val (R_loadH (by assumption) rfl (by assumption) (by rfl)) rfl rfl rfl ?_) | (refine cL_fieldAddr ?_; refine L_val (R_fa rfl) rfl rfl rfl ?_) | (refine cL_assign ?_; refine L_val R_assign rfl rfl rfl ?_) | (refine cL_call ?_; refine L_val (R_len rfl) rfl rfl rfl ?_) | (refine cL_pick ?_; first | refine L_val (R_pickT rfl) rfl rfl rfl ?_ | refine L_val (R_pickF rfl) rfl rfl rfl ?_) | (refine cL_eql ?_; first | refine L_val (R_eqPN rfl rfl) rfl rfl rfl ?_ | refine L_val (R_eqI rfl rfl) rfl rfl rfl ?_ | refine L_val (R_eqB rfl rfl) rfl rfl rfl ?_ | refine L_val (R_eqIfN rfl rfl) rfl rfl rfl ?_ | refine L_val (R_eqIfNN rfl) rfl rfl rfl ?_) | (refine cL_lss ?_; refine L_val (R_ltI rfl rfl) rfl rfl rfl ?_) | (refine cL_add ?_; refine L_val (R_addI rfl rfl) rfl rfl rfl ?_) | (refine cL_leq ?_; refine L_val (R_leI rfl rfl) rfl rfl rfl ?_) | (refine cL_geq ?_; refine L_val (R_geI rfl rfl) rfl rfl rfl ?_) | refine L_nil ?_) | refine G_seq ?_ | refine G_region ?_ | refine G_skip ?_ | refine G_block ?_ | refine G_end ?_ | refine G_true rfl ?_ | refine G_false rfl ?_))
    (refine G_draw No (0 :: 1 :: 2 :: 3 :: 4 :: 5 :: 6 :: 7 :: []) [] follows (by kernel_rfl) rfl ?_)
    cases hbn : beqB (nmAt es j) (nmAt es i) with
    | true =>
      rw [hbn] at hnm
      (repeat (first | (refine cD_guard ?_; refine D_unwanted rfl rfl ?_) | (refine cD_move ?_; refine D_val0 (fun _ _ => R_move) rfl rfl ?_) | (refine cD_load ?_; first | refine D_val0 (fun w he => R_load rfl ((hAg w he).hcell (hec2 5 _ rfl))) rfl rfl ?_ | refine D_val0 (fun w he => R_loadH (hAg w he) rfl (by assumption) (by rfl)) rfl rfl ?_) | (refine cD_fieldAddr ?_; refine D_val0 (fun _ _ => R_fa rfl) rfl rfl ?_) | (refine cD_assign ?_; refine D_val0 (fun _ _ => R_assign) rfl rfl ?_) | (refine cD_call ?_; refine D_val0 (fun _ _ => R_len rfl) rfl rfl ?_) | (refine cD_pick ?_; first | refine D_val0 (fun _ _ => R_pickT rfl) rfl rfl ?_ | refine D_val0 (fun _ _ => R_pickF rfl) rfl rfl ?_) | (refine cD_eql ?_; first | refine D_valB (fun _ _ => R_eqS rfl rfl) hnm rfl rfl ?_ | refine D_val0 (fun _ _ => R_eqPN rfl rfl) rfl rfl ?_ | refine D_val0 (fun _ _ => R_eqI rfl rfl) rfl rfl ?_ | refine D_val0 (fun _ _ => R_eqB rfl rfl) rfl rfl ?_ | refine D_val0 (fun _ _ => R_eqIfN rfl rfl) rfl rfl ?_ | refine D_val0 (fun _ _ => R_eqIfNN rfl) rfl rfl ?_) | (refine cD_lss ?_; refine D_val0 (fun _ _ => R_ltI rfl rfl) rfl rfl ?_) | (refine cD_indexAddr ?_; refine D_valE (fun _ _ => R_ia rfl rfl (by omega) (by omega)) (ia6 _ _ _) rfl rfl ?_) | (refine cD_add ?_; refine D_val0 (fun _ _ => R_addI rfl rfl) rfl rfl ?_) | (refine cD_leq ?_; refine D_val0 (fun _ _ => R_leI rfl rfl) rfl rfl ?_) | (refine cD_geq ?_; refine D_val0 (fun _ _ => R_geI rfl rfl) rfl rfl ?_)))
      refine D_nil fun w5 hw5 => ?_
      (repeat (first | (refine cL ?_; first | (refine cL_guard ?_; refine L_unwanted rfl rfl rfl ?_) | (refine cL_move ?_; refine L_val R_move rfl rfl rfl ?_) | (refine cL_load ?_; first | refine L_val (R_loadB rfl (by assumption) (by rfl)) rfl rfl rfl ?_ | refine L_val (R_loadH (by assumption) rfl (by assumption) (by rfl)) rfl rfl rfl ?_) | (refine cL_fieldAddr ?_; refine L_val (R_fa rfl) rfl rfl rfl ?_) | (refine cL_assign ?_; refine L_val R_assign rfl rfl rfl ?_) | (refine cL_call ?_; refine L_val (R_len rfl) rfl rfl rfl ?_) | (refine cL_pick ?_; first | refine L_val (R_pickT rfl) rfl rfl rfl ?_ | refine L_val (R_pickF rfl) rfl rfl rfl ?_) | (refine cL_eql ?_; first | refine L_val (R_eqPN rfl rfl) rfl rfl rfl ?_ | refine L_val (R_eqI rfl rfl) rfl rfl rfl ?_ | refine L_val (R_eqB rfl rfl) rfl rfl rfl ?_ | refine L_val (R_eqIfN rfl rfl) rfl rfl rfl ?_ | refine L_val (R_eqIfNN rfl) rfl rfl rfl ?_) | (refine cL_lss ?_; refine L_val (R_ltI rfl rfl) rfl rfl rfl ?_) | (refine cL_add ?_; refine L_val (R_addI rfl rfl) rfl rfl rfl ?_) | (refine cL_leq ?_; refine L_val (R_leI rfl rfl) rfl rfl rfl ?_) | (refine cL_geq ?_; refine L_val (R_geI rfl rfl) rfl rfl rfl ?_) | refine L_nil ?_) | refine G_seq ?_ | refine G_region ?_ | refine G_skip ?_ | refine G_block ?_ | refine G_end ?_ | refine G_true rfl ?_ | refine G_false rfl ?_))
      (refine G_retF rfl ?_)
      refine ⟨_, rfl, ?_, hext.trans (g4.ext.trans hw5)⟩
      have hv : nameB es i = false := by
        unfold nameB
        rw [allR_false (i := j) h (by rw [hbn]; rfl)]
        rfl
      rw [hv]
      rfl
    | false =>
      rw [hbn] at hnm
      (repeat (first | (refine cD_guard ?_; refine D_unwanted rfl rfl ?_) | (refine cD_move ?_; refine D_val0 (fun _ _ => R_move) rfl rfl ?_) | (refine cD_load ?_; first | refine D_val0 (fun w he => R_load rfl ((hAg w he).hcell (hec2 5 _ rfl))) rfl rfl ?_ | refine D_val0 (fun w he => R_loadH (hAg w he) rfl (by assumption) (by rfl)) rfl rfl ?_) | (refine cD_fieldAddr ?_; refine D_val0 (fun _ _ => R_fa rfl) rfl rfl ?_) | (refine cD_assign ?_; refine D_val0 (fun _ _ => R_assign) rfl rfl ?_) | (refine cD_call ?_; refine D_val0 (fun _ _ => R_len rfl) rfl rfl ?_) | (refine cD_pick ?_; first | refine D_val0 (fun _ _ => R_pickT rfl) rfl rfl ?_ | refine D_val0 (fun _ _ => R_pickF rfl) rfl rfl ?_) | (refine cD_eql ?_; first | refine D_valB (fun _ _ => R_eqS rfl rfl) hnm rfl rfl ?_ | refine D_val0 (fun _ _ => R_eqPN rfl rfl) rfl rfl ?_ | refine D_val0 (fun _ _ => R_eqI rfl rfl) rfl rfl ?_ | refine D_val0 (fun _ _ => R_eqB rfl rfl) rfl rfl ?_ | refine D_val0 (fun _ _ => R_eqIfN rfl rfl) rfl rfl ?_ | refine D_val0 (fun _ _ => R_eqIfNN rfl) rfl rfl ?_) | (refine cD_lss ?_; refine D_val0 (fun _ _ => R_ltI rfl rfl) rfl rfl ?_) | (refine cD_indexAddr ?_; refine D_valE (fun _ _ => R_ia rfl rfl (by omega) (by omega)) (ia6 _ _ _) rfl rfl ?_) | (refine cD_add ?_; refine D_val0 (fun _ _ => R_addI rfl rfl) rfl rfl ?_) | (refine cD_leq ?_; refine D_val0 (fun _ _ => R_leI rfl rfl) rfl rfl ?_) | (refine cD_geq ?_; refine D_val0 (fun _ _ => R_geI rfl rfl) rfl rfl ?_)))
      refine D_nil fun w5 hw5 => ?_
      (repeat (first | (refine cL ?_; first | (refine cL_guard ?_; refine L_unwanted rfl rfl rfl ?_) | (refine cL_move ?_; refine L_val R_move rfl rfl rfl ?_) | (refine cL_load ?_; first | refine L_val (R_loadB rfl (by assumption) (by rfl)) rfl rfl rfl ?_ | refine L_val (R_loadH (by assumption) rfl (by assumption) (by rfl)) rfl rfl rfl ?_) | (refine cL_fieldAddr ?_; refine L_val (R_fa rfl) rfl rfl rfl ?_) | (refine cL_assign ?_; refine L_val R_assign rfl rfl rfl ?_) | (refine cL_call ?_; refine L_val (R_len rfl) rfl rfl rfl ?_) | (refine cL_pick ?_; first | refine L_val (R_pickT rfl) rfl rfl rfl ?_ | refine L_val (R_pickF rfl) rfl rfl rfl ?_) | (refine cL_eql ?_; first | refine L_val (R_eqPN rfl rfl) rfl rfl rfl ?_ | refine L_val (R_eqI rfl rfl) rfl rfl rfl ?_ | refine L_val (R_eqB rfl rfl) rfl rfl rfl ?_ | refine L_val (R_eqIfN rfl rfl) rfl rfl rfl ?_ | refine L_val (R_eqIfNN rfl) rfl rfl rfl ?_) | (refine cL_lss ?_; refine L_val (R_ltI rfl rfl) rfl rfl rfl ?_) | (refine cL_add ?_; first | refine L_valE (R_addI rfl rfl) (succ_i64 h (by omega)) rfl rfl rfl ?_ | refine L_val (R_addI rfl rfl) rfl rfl rfl ?_) | (refine cL_leq ?_; refine L_val (R_leI rfl rfl) rfl rfl rfl ?_) | (refine cL_geq ?_; refine L_val (R_geI rfl rfl) rfl rfl rfl ?_) | refine L_nil ?_) | refine G_seq ?_ | refine G_region ?_ | refine G_skip ?_ | refine G_block ?_ | refine G_end ?_ | refine G_true rfl ?_ | refine G_false rfl ?_))
      refine G_inv ⟨⟨rfl, hext.trans (g4.ext.trans hw5), _, j + 1, with_self ⟨rfl, rfl, rfl, rfl, rfl, trivial⟩, h, fun l hl => ?_⟩, ?_⟩
      · rcases Nat.lt_succ_iff_lt_or_eq.1 hl with hl | rfl
        · exact hJ l hl
        · rw [hbn]; rfl
      · show ((i : Int) - ((j + 1 : Nat) : Int)).toNat < ((i : Int) - (j : Int)).toNat
        omega
  · have hb : decide ((j : Int) < (i : Int)) = false := decide_eq_false (by omega)
    have hall : (List.range i).all (fun j => !beqB (nmAt es j) (nmAt es i)) = true := allR_true fun l hl => hJ l (by omega)
    have hv : nameB es i = letterB e.nm := by unfold nameB; rw [hall, nmAt_eq he]; rfl
    rw [hv]
    unfold letterB
    cases c1 : ((e.nm.size : Int) == 1) with
    | false =>
      (repeat (first | (refine cL ?_; first | (refine cL_guard ?_; refine L_unwanted rfl rfl rfl ?_) | (refine cL_move ?_; refine L_val R_move rfl rfl rfl ?_) | (refine cL_load ?_; first | refine L_val (R_load rfl (hAr.hcell (hec 5 _ rfl))) rfl rfl rfl ?_ | refine L_val (R_loadB rfl (by assumption) (by rfl)) rfl rfl rfl ?_ | refine L_val (R_loadH (by assumption) rfl (by assumption) (by rfl)) rfl rfl rfl ?_) | (refine cL_fieldAddr ?_; refine L_val (R_fa rfl) rfl rfl rfl ?_) | (refine cL_assign ?_; refine L_val R_assign rfl rfl rfl ?_) | (refine cL_call ?_; first | refine L_val (R_lenS rfl) rfl rfl rfl ?_ | refine L_val (R_len rfl) rfl rfl rfl ?_) | (refine cL_pick ?_; first | refine L_val (R_pickT rfl) rfl rfl rfl ?_ | refine L_val (R_pickF rfl) rfl rfl rfl ?_) | (refine cL_eql ?_; first | refine L_valB (R_eqI rfl rfl) c1 rfl rfl rfl ?_ | refine L_val (R_eqPN rfl rfl) rfl rfl rfl ?_ | refine L_val (R_eqI rfl rfl) rfl rfl rfl ?_ | refine L_val (R_eqB rfl rfl) rfl rfl rfl ?_ | refine L_val (R_eqIfN rfl rfl) rfl rfl rfl ?_ | refine L_val (R_eqIfNN rfl) rfl rfl rfl ?_) | (refine cL_lss ?_; first | refine L_valB (R_ltI rfl rfl) hb rfl rfl rfl ?_ | refine L_val (R_ltI rfl rfl) rfl rfl rfl ?_) | (refine cL_indexAddr ?_; refine L_valE (R_ia rfl rfl (by omega) (by omega)) (ia6 _ _ _) rfl rfl rfl ?_) | (refine cL_add ?_; refine L_val (R_addI rfl rfl) rfl rfl rfl ?_) | (refine cL_leq ?_; refine L_val (R_leI rfl rfl) rfl rfl rfl ?_) | (refine cL_geq ?_; refine L_val (R_geI rfl rfl) rfl rfl rfl ?_) | refine L_nil ?_) | refine G_exit rfl ?_ | refine G_seq ?_ | refine G_region ?_ | refine G_skip ?_ | refine G_block ?_ | refine G_end ?_ | refine G_true rfl ?_ | refine G_false rfl ?_))
      (refine G_retF rfl ?_)
      exact ⟨_, rfl, rfl, hext⟩
    | true =>
      cases c2 : (!(Op.bytesLess e.nm.toList (⟨#[65]⟩ : ByteArray).toList)) with
      | false =>
        (repeat (first | (refine cL ?_; first | (refine cL_guard ?_; refine L_unwanted rfl rfl rfl ?_) | (refine cL_move ?_; refine L_val R_move rfl rfl rfl ?_) | (refine cL_load ?_; first | refine L_val (R_load rfl (hAr.hcell (hec 5 _ rfl))) rfl rfl rfl ?_ | refine L_val (R_loadB rfl (by assumption) (by rfl)) rfl rfl rfl ?_ | refine L_val (R_loadH (by assumption) rfl (by assumption) (by rfl)) rfl rfl rfl ?_) | (refine cL_fieldAddr ?_; refine L_val (R_fa rfl) rfl rfl rfl ?_) | (refine cL_assign ?_; refine L_val R_assign rfl rfl rfl ?_) | (refine cL_call ?_; first | refine L_val (R_lenS rfl) rfl rfl rfl ?_ | refine L_val (R_len rfl) rfl rfl rfl ?_) | (refine cL_pick ?_; first | refine L_val (R_pickT rfl) rfl rfl rfl ?_ | refine L_val (R_pickF rfl) rfl rfl rfl ?_) | (refine cL_eql ?_; first | refine L_valB (R_eqI rfl rfl) c1 rfl rfl rfl ?_ | refine L_val (R_eqPN rfl rfl) rfl rfl rfl ?_ | refine L_val (R_eqI rfl rfl) rfl rfl rfl ?_ | refine L_val (R_eqB rfl rfl) rfl rfl rfl ?_ | refine L_val (R_eqIfN rfl rfl) rfl rfl rfl ?_ | refine L_val (R_eqIfNN rfl) rfl rfl rfl ?_) | (refine cL_lss ?_; first | refine L_valB (R_ltI rfl rfl) hb rfl rfl rfl ?_ | refine L_val (R_ltI rfl rfl) rfl rfl rfl ?_) | (refine cL_indexAddr ?_; refine L_valE (R_ia rfl rfl (by omega) (by omega)) (ia6 _ _ _) rfl rfl rfl ?_) | (refine cL_add ?_; refine L_val (R_addI rfl rfl) rfl rfl rfl ?_) | (refine cL_leq ?_; refine L_val (R_leI rfl rfl) rfl rfl rfl ?_) | (refine cL_geq ?_; first | refine L_valB (R_geS rfl rfl) c2 rfl rfl rfl ?_ | refine L_val (R_geI rfl rfl) rfl rfl rfl ?_) | refine L_nil ?_) | refine G_exit rfl ?_ | refine G_seq ?_ | refine G_region ?_ | refine G_skip ?_ | refine G_block ?_ | refine G_end ?_ | refine G_true rfl ?_ | refine G_false rfl ?_))
        (refine G_retF rfl ?_)
        exact ⟨_, rfl, rfl, hext⟩
      | true =>
        (repeat (first | (refine cL ?_; first | (refine cL_guard ?_; refine L_unwanted rfl rfl rfl ?_) | (refine cL_move ?_; refine L_val R_move rfl rfl rfl ?_) | (refine cL_load ?_; first | refine L_val (R_load rfl (hAr.hcell (hec 5 _ rfl))) rfl rfl rfl ?_ | refine L_val (R_loadB rfl (by assumption) (by rfl)) rfl rfl rfl ?_ | refine L_val (R_loadH (by assumption) rfl (by assumption) (by rfl)) rfl rfl rfl ?_) | (refine cL_fieldAddr ?_; refine L_val (R_fa rfl) rfl rfl rfl ?_) | (refine cL_assign ?_; refine L_val R_assign rfl rfl rfl ?_) | (refine cL_call ?_; first | refine L_val (R_lenS rfl) rfl rfl rfl ?_ | refine L_val (R_len rfl) rfl rfl rfl ?_) | (refine cL_pick ?_; first | refine L_val (R_pickT rfl) rfl rfl rfl ?_ | refine L_val (R_pickF rfl) rfl rfl rfl ?_) | (refine cL_eql ?_; first | refine L_valB (R_eqI rfl rfl) c1 rfl rfl rfl ?_ | refine L_val (R_eqPN rfl rfl) rfl rfl rfl ?_ | refine L_val (R_eqI rfl rfl) rfl rfl rfl ?_ | refine L_val (R_eqB rfl rfl) rfl rfl rfl ?_ | refine L_val (R_eqIfN rfl rfl) rfl rfl rfl ?_ | refine L_val (R_eqIfNN rfl) rfl rfl rfl ?_) | (refine cL_lss ?_; first | refine L_valB (R_ltI rfl rfl) hb rfl rfl rfl ?_ | refine L_val (R_ltI rfl rfl) rfl rfl rfl ?_) | (refine cL_indexAddr ?_; refine L_valE (R_ia rfl rfl (by omega) (by omega)) (ia6 _ _ _) rfl rfl rfl ?_) | (refine cL_add ?_; refine L_val (R_addI rfl rfl) rfl rfl rfl ?_) | (refine cL_leq ?_; first | refine L_val (R_leS rfl rfl) rfl rfl rfl ?_ | refine L_val (R_leI rfl rfl) rfl rfl rfl ?_) | (refine cL_geq ?_; first | refine L_valB (R_geS rfl rfl) c2 rfl rfl rfl ?_ | refine L_val (R_geI rfl rfl) rfl rfl rfl ?_) | refine L_nil ?_) | refine G_exit rfl ?_ | refine G_seq ?_ | refine G_region ?_ | refine G_skip ?_ | refine G_block ?_ | refine G_end ?_ | refine G_true rfl ?_ | refine G_false rfl ?_))
        (refine G_retF rfl ?_)
        exact ⟨_, rfl, rfl, hext⟩
end Go.Proofs.YtmmcjnfgcaefpaaGreatDoor

/-
  The verifier's 'shaped' on the input's types.
-/
namespace Go.Proofs.YtmmcjnfgcaefpaaGreatDoor
set_option maxRecDepth 100000
set_option maxHeartbeats 4000000
attribute [local irreducible] Calls execOp

theorem headB_false2 {ds : List (Int × Ty)} {k n c : Int} {b : Bool} {es : List Ty} {params own : Int} (h : head2 k es.length = true) : headB ds k n c b es params own = false := by simp [headB, h]
theorem headB_false4 {ds : List (Int × Ty)} {k n c : Int} {b : Bool} {es : List Ty} {params own : Int} (h : head4 (limitL ds.length k params own) n = true) : headB ds k n c b es params own = false := by simp [headB, h]
theorem headB_false6 {ds : List (Int × Ty)} {k n c : Int} {b : Bool} {es : List Ty} {params own : Int} (h : head6 ds k n es.length = true) : headB ds k n c b es params own = false := by simp [headB, h]
theorem headB_false8 {ds : List (Int × Ty)} {k n c : Int} {b : Bool} {es : List Ty} {params own : Int} (h : head8 k c b es = true) : headB ds k n c b es params own = false := by simp [headB, h]
theorem headB_true {ds : List (Int × Ty)} {k n c : Int} {b : Bool} {es : List Ty} {params own : Int} (h2 : head2 k es.length = false) (h4 : head4 (limitL ds.length k params own) n = false) (h6 : head6 ds k n es.length = false) (h8 : head8 k c b es = false) : headB ds k n c b es params own = true := by simp [headB, h2, h4, h6, h8]

theorem shaped_any : ∀ (t : Ty) (cs : List Value) (ds : List (Int × Ty)) (p : Option Addr) (dcap : Nat) (params own : Int) (H : Hp) (w : World), Agree H w → DTy H t cs → DDl H ds p → ds.length < 9223372036854775808 →
    Calls Tryz.prog 8 #[.slice p ds.length dcap, .agg cs.toArray, .int .i64 params, .int .i64 own] w (Ret (Qt (.bool (shapedB ds params own t)) w)) := by
  refine Ty.ind fun k0 n0 c0 b0 nm0 es0 ih => ?_
  generalize hxx : Ty.mk k0 n0 c0 b0 nm0 es0 = x
  have hese : x.es = es0 := by rw [← hxx]; rfl
  rw [← hese] at ih
  clear hese hxx
  intro cs ds p dcap params own H w hA hx hd hdl
  obtain ⟨p', cap, rfl, -, -, -, hbd, hes⟩ := hx.cells
  rw [shapedB_eq]
  (refine calls_enter Tryz.func8 Tryz.ntmps8 rfl rfl ?_)
  (repeat (first | (refine cL ?_; first | (refine cL_guard ?_; refine L_unwanted rfl rfl rfl ?_) | (refine cL_move ?_; refine L_val R_move rfl rfl rfl ?_) | (refine cL_load ?_; first | refine L_val (R_loadB rfl (by assumption) (by rfl)) rfl rfl rfl ?_ | refine L_val (R_loadH (by assumption) rfl (by assumption) (by rfl)) rfl rfl rfl ?_) | (refine cL_fieldAddr ?_; refine L_val (R_fa rfl) rfl rfl rfl ?_) | (refine cL_assign ?_; refine L_val R_assign rfl rfl rfl ?_) | (refine cL_call ?_; refine L_val (R_len rfl) rfl rfl rfl ?_) | (refine cL_pick ?_; first | refine L_val (R_pickT rfl) rfl rfl rfl ?_ | refine L_val (R_pickF rfl) rfl rfl rfl ?_) | (refine cL_eql ?_; first | refine L_val (R_eqPN rfl rfl) rfl rfl rfl ?_ | refine L_val (R_eqI rfl rfl) rfl rfl rfl ?_ | refine L_val (R_eqB rfl rfl) rfl rfl rfl ?_ | refine L_val (R_eqIfN rfl rfl) rfl rfl rfl ?_ | refine L_val (R_eqIfNN rfl) rfl rfl rfl ?_) | (refine cL_neq ?_; first | refine L_val (R_nePN rfl rfl) rfl rfl rfl ?_ | refine L_val (R_neI rfl rfl) rfl rfl rfl ?_ | refine L_val (R_neB rfl rfl) rfl rfl rfl ?_ | refine L_val (R_neIfN rfl rfl) rfl rfl rfl ?_ | refine L_val (R_neIfNN rfl) rfl rfl rfl ?_) | (refine cL_lss ?_; refine L_val (R_ltI rfl rfl) rfl rfl rfl ?_) | (refine cL_not ?_; refine L_val (R_not rfl) rfl rfl rfl ?_) | (refine cL_add ?_; refine L_val (R_addI rfl rfl) rfl rfl rfl ?_) | (refine cL_sub ?_; refine L_val (R_subI rfl rfl) rfl rfl rfl ?_) | (refine cL_gtr ?_; refine L_val (R_gtI rfl rfl) rfl rfl rfl ?_) | (refine cL_geq ?_; refine L_val (R_geI rfl rfl) rfl rfl rfl ?_) | refine L_nil ?_) | refine G_seq ?_ | refine G_region ?_ | refine G_skip ?_ | refine G_block ?_ | refine G_end ?_ | refine G_true rfl ?_ | refine G_false rfl ?_))
  refine L_box rfl rfl rfl fun b5 w1 hn1 => ?_
  obtain ⟨H1, g1, hb5⟩ := Grow.ofNew hA hn1
  have hA1 := g1.ag
  have hes1 := hes.mono g1.le
  have hd1 := hd.mono g1.le
  (repeat (first | (refine cL ?_; first | (refine cL_guard ?_; refine L_unwanted rfl rfl rfl ?_) | (refine cL_move ?_; refine L_val R_move rfl rfl rfl ?_) | (refine cL_load ?_; first | refine L_val (R_loadB rfl (by assumption) (by rfl)) rfl rfl rfl ?_ | refine L_val (R_loadH (by assumption) rfl (by assumption) (by rfl)) rfl rfl rfl ?_) | (refine cL_fieldAddr ?_; refine L_val (R_fa rfl) rfl rfl rfl ?_) | (refine cL_assign ?_; refine L_val R_assign rfl rfl rfl ?_) | (refine cL_call ?_; refine L_val (R_len rfl) rfl rfl rfl ?_) | (refine cL_pick ?_; first | refine L_val (R_pickT rfl) rfl rfl rfl ?_ | refine L_val (R_pickF rfl) rfl rfl rfl ?_) | (refine cL_eql ?_; first | refine L_val (R_eqPN rfl rfl) rfl rfl rfl ?_ | refine L_val (R_eqI rfl rfl) rfl rfl rfl ?_ | refine L_val (R_eqB rfl rfl) rfl rfl rfl ?_ | refine L_val (R_eqIfN rfl rfl) rfl rfl rfl ?_ | refine L_val (R_eqIfNN rfl) rfl rfl rfl ?_) | (refine cL_neq ?_; first | refine L_val (R_nePN rfl rfl) rfl rfl rfl ?_ | refine L_val (R_neI rfl rfl) rfl rfl rfl ?_ | refine L_val (R_neB rfl rfl) rfl rfl rfl ?_ | refine L_val (R_neIfN rfl rfl) rfl rfl rfl ?_ | refine L_val (R_neIfNN rfl) rfl rfl rfl ?_) | (refine cL_lss ?_; refine L_val (R_ltI rfl rfl) rfl rfl rfl ?_) | (refine cL_not ?_; refine L_val (R_not rfl) rfl rfl rfl ?_) | (refine cL_add ?_; refine L_val (R_addI rfl rfl) rfl rfl rfl ?_) | (refine cL_sub ?_; refine L_val (R_subI rfl rfl) rfl rfl rfl ?_) | (refine cL_gtr ?_; refine L_val (R_gtI rfl rfl) rfl rfl rfl ?_) | (refine cL_geq ?_; refine L_val (R_geI rfl rfl) rfl rfl rfl ?_) | refine L_nil ?_) | refine G_seq ?_ | refine G_region ?_ | refine G_skip ?_ | refine G_block ?_ | refine G_end ?_ | refine G_true rfl ?_ | refine G_false rfl ?_))
  (refine G_draw No (0 :: 1 :: 2 :: 3 :: 4 :: 5 :: 6 :: 7 :: 8 :: 9 :: 10 :: []) [] follows (by kernel_rfl) rfl ?_)
  have hAg1 : ∀ w', Ext No w1 w' → Agree H1 w' := fun _ he => hA1.ext0 he
  (repeat (first | (refine cD_guard ?_; refine D_unwanted rfl rfl ?_) | (refine cD_move ?_; refine D_val0 (fun _ _ => R_move) rfl rfl ?_) | (refine cD_load ?_; refine D_val0 (fun w he => R_loadH (hAg1 w he) rfl (by assumption) (by rfl)) rfl rfl ?_) | (refine cD_fieldAddr ?_; refine D_val0 (fun _ _ => R_fa rfl) rfl rfl ?_) | (refine cD_assign ?_; refine D_val0 (fun _ _ => R_assign) rfl rfl ?_) | (refine cD_call ?_; first | refine D_callQ (fun w he => Is.qt (elems_any x.k w)) rfl ?_ | refine D_callQ (fun w he => Is.qt (limit_any p ds.length dcap x.k params own w)) rfl ?_ | refine D_val0 (fun _ _ => R_len rfl) rfl rfl ?_) | (refine cD_pick ?_; first | refine D_val0 (fun _ _ => R_pickT rfl) rfl rfl ?_ | refine D_val0 (fun _ _ => R_pickF rfl) rfl rfl ?_) | (refine cD_eql ?_; first | refine D_val0 (fun _ _ => R_eqPN rfl rfl) rfl rfl ?_ | refine D_val0 (fun _ _ => R_eqI rfl rfl) rfl rfl ?_ | refine D_val0 (fun _ _ => R_eqB rfl rfl) rfl rfl ?_ | refine D_val0 (fun _ _ => R_eqIfN rfl rfl) rfl rfl ?_ | refine D_val0 (fun _ _ => R_eqIfNN rfl) rfl rfl ?_) | (refine cD_neq ?_; first | refine D_val0 (fun _ _ => R_nePN rfl rfl) rfl rfl ?_ | refine D_val0 (fun _ _ => R_neI rfl rfl) rfl rfl ?_ | refine D_val0 (fun _ _ => R_neB rfl rfl) rfl rfl ?_ | refine D_val0 (fun _ _ => R_neIfN rfl rfl) rfl rfl ?_ | refine D_val0 (fun _ _ => R_neIfNN rfl) rfl rfl ?_) | (refine cD_lss ?_; refine D_val0 (fun _ _ => R_ltI rfl rfl) rfl rfl ?_) | (refine cD_not ?_; refine D_val0 (fun _ _ => R_not rfl) rfl rfl ?_) | (refine cD_add ?_; refine D_val0 (fun _ _ => R_addI rfl rfl) rfl rfl ?_) | (refine cD_sub ?_; refine D_val0 (fun _ _ => R_subI rfl rfl) rfl rfl ?_) | (refine cD_gtr ?_; refine D_val0 (fun _ _ => R_gtI rfl rfl) rfl rfl ?_) | (refine cD_geq ?_; refine D_val0 (fun _ _ => R_geI rfl rfl) rfl rfl ?_)))
  refine D_nil fun w2 hw2 => ?_
  have hA2 := hA1.ext0 hw2
  have hex2 : Ext No w w2 := hn1.ext.trans hw2
  clear hA1 hAg1
  refine G_seq ?_
  refine G_block ?_
  refine G_seq ?_
  refine G_cut1 (fun f ds0 w0 => ds0 = [] ∧ Ext No w2 w0 ∧ ∃ f0, f = with_ [(0, .slice p ds.length dcap), (2, .int .i64 params), (3, .int .i64 own), (5, ptr b5), (9, .int .i64 (elemsL x.k)), (10, .int .i64 (limitL ds.length x.k params own)), (22, .bool (head2 x.k x.es.length))] f0) ?_ ?_
  · have hhead : ∀ bb, head2 x.k x.es.length = bb → bb = head2 x.k x.es.length := fun _ h => h.symm
    cases c1 : decide (x.k < 0) with
    | true =>
      (repeat (first | (refine cL ?_; first | (refine cL_guard ?_; refine L_unwanted rfl rfl rfl ?_) | (refine cL_move ?_; refine L_val R_move rfl rfl rfl ?_) | (refine cL_load ?_; first | refine L_val (R_loadB rfl (by assumption) (by rfl)) rfl rfl rfl ?_ | refine L_val (R_loadH (by assumption) rfl (by assumption) (by rfl)) rfl rfl rfl ?_) | (refine cL_fieldAddr ?_; refine L_val (R_fa rfl) rfl rfl rfl ?_) | (refine cL_assign ?_; refine L_val R_assign rfl rfl rfl ?_) | (refine cL_call ?_; refine L_val (R_len rfl) rfl rfl rfl ?_) | (refine cL_pick ?_; first | refine L_val (R_pickT rfl) rfl rfl rfl ?_ | refine L_val (R_pickF rfl) rfl rfl rfl ?_) | (refine cL_eql ?_; first | refine L_val (R_eqPN rfl rfl) rfl rfl rfl ?_ | refine L_val (R_eqI rfl rfl) rfl rfl rfl ?_ | refine L_val (R_eqB rfl rfl) rfl rfl rfl ?_ | refine L_val (R_eqIfN rfl rfl) rfl rfl rfl ?_ | refine L_val (R_eqIfNN rfl) rfl rfl rfl ?_) | (refine cL_neq ?_; first | refine L_val (R_nePN rfl rfl) rfl rfl rfl ?_ | refine L_val (R_neI rfl rfl) rfl rfl rfl ?_ | refine L_val (R_neB rfl rfl) rfl rfl rfl ?_ | refine L_val (R_neIfN rfl rfl) rfl rfl rfl ?_ | refine L_val (R_neIfNN rfl) rfl rfl rfl ?_) | (refine cL_lss ?_; first | refine L_valB (R_ltI rfl rfl) c1 rfl rfl rfl ?_ | refine L_val (R_ltI rfl rfl) rfl rfl rfl ?_) | (refine cL_not ?_; refine L_val (R_not rfl) rfl rfl rfl ?_) | (refine cL_add ?_; refine L_val (R_addI rfl rfl) rfl rfl rfl ?_) | (refine cL_sub ?_; refine L_val (R_subI rfl rfl) rfl rfl rfl ?_) | (refine cL_gtr ?_; refine L_val (R_gtI rfl rfl) rfl rfl rfl ?_) | (refine cL_geq ?_; refine L_val (R_geI rfl rfl) rfl rfl rfl ?_) | refine L_nil ?_) | refine G_seq ?_ | refine G_region ?_ | refine G_skip ?_ | refine G_block ?_ | refine G_end ?_ | refine G_true rfl ?_ | refine G_false rfl ?_))
      exact G_inv ⟨rfl, Ext.refl _ _, _, with_self ⟨rfl, rfl, rfl, rfl, rfl, rfl,  congrArg Value.bool (hhead _ (by simp only [head2, c1]; rfl)), trivial⟩⟩
    | false =>
      cases c2 : decide (x.k > 10) with
      | true =>
        (repeat (first | (refine cL ?_; first | (refine cL_guard ?_; refine L_unwanted rfl rfl rfl ?_) | (refine cL_move ?_; refine L_val R_move rfl rfl rfl ?_) | (refine cL_load ?_; first | refine L_val (R_loadB rfl (by assumption) (by rfl)) rfl rfl rfl ?_ | refine L_val (R_loadH (by assumption) rfl (by assumption) (by rfl)) rfl rfl rfl ?_) | (refine cL_fieldAddr ?_; refine L_val (R_fa rfl) rfl rfl rfl ?_) | (refine cL_assign ?_; refine L_val R_assign rfl rfl rfl ?_) | (refine cL_call ?_; refine L_val (R_len rfl) rfl rfl rfl ?_) | (refine cL_pick ?_; first | refine L_val (R_pickT rfl) rfl rfl rfl ?_ | refine L_val (R_pickF rfl) rfl rfl rfl ?_) | (refine cL_eql ?_; first | refine L_val (R_eqPN rfl rfl) rfl rfl rfl ?_ | refine L_val (R_eqI rfl rfl) rfl rfl rfl ?_ | refine L_val (R_eqB rfl rfl) rfl rfl rfl ?_ | refine L_val (R_eqIfN rfl rfl) rfl rfl rfl ?_ | refine L_val (R_eqIfNN rfl) rfl rfl rfl ?_) | (refine cL_neq ?_; first | refine L_val (R_nePN rfl rfl) rfl rfl rfl ?_ | refine L_val (R_neI rfl rfl) rfl rfl rfl ?_ | refine L_val (R_neB rfl rfl) rfl rfl rfl ?_ | refine L_val (R_neIfN rfl rfl) rfl rfl rfl ?_ | refine L_val (R_neIfNN rfl) rfl rfl rfl ?_) | (refine cL_lss ?_; first | refine L_valB (R_ltI rfl rfl) c1 rfl rfl rfl ?_ | refine L_val (R_ltI rfl rfl) rfl rfl rfl ?_) | (refine cL_not ?_; refine L_val (R_not rfl) rfl rfl rfl ?_) | (refine cL_add ?_; refine L_val (R_addI rfl rfl) rfl rfl rfl ?_) | (refine cL_sub ?_; refine L_val (R_subI rfl rfl) rfl rfl rfl ?_) | (refine cL_gtr ?_; first | refine L_valB (R_gtI rfl rfl) c2 rfl rfl rfl ?_ | refine L_val (R_gtI rfl rfl) rfl rfl rfl ?_) | (refine cL_geq ?_; refine L_val (R_geI rfl rfl) rfl rfl rfl ?_) | refine L_nil ?_) | refine G_seq ?_ | refine G_region ?_ | refine G_skip ?_ | refine G_block ?_ | refine G_end ?_ | refine G_true rfl ?_ | refine G_false rfl ?_))
        exact G_inv ⟨rfl, Ext.refl _ _, _, with_self ⟨rfl, rfl, rfl, rfl, rfl, rfl,  congrArg Value.bool (hhead _ (by simp only [head2, c1, c2]; rfl)), trivial⟩⟩
      | false =>
        cases c3 : decide (elemsL x.k ≥ 0) with
        | true =>
          cases c4 : ((x.es.length : Int) != elemsL x.k) with
          | true =>
            (repeat (first | (refine cL ?_; first | (refine cL_guard ?_; refine L_unwanted rfl rfl rfl ?_) | (refine cL_move ?_; refine L_val R_move rfl rfl rfl ?_) | (refine cL_load ?_; first | refine L_val (R_loadB rfl (by assumption) (by rfl)) rfl rfl rfl ?_ | refine L_val (R_loadH (by assumption) rfl (by assumption) (by rfl)) rfl rfl rfl ?_) | (refine cL_fieldAddr ?_; refine L_val (R_fa rfl) rfl rfl rfl ?_) | (refine cL_assign ?_; refine L_val R_assign rfl rfl rfl ?_) | (refine cL_call ?_; refine L_val (R_len rfl) rfl rfl rfl ?_) | (refine cL_pick ?_; first | refine L_val (R_pickT rfl) rfl rfl rfl ?_ | refine L_val (R_pickF rfl) rfl rfl rfl ?_) | (refine cL_eql ?_; first | refine L_val (R_eqPN rfl rfl) rfl rfl rfl ?_ | refine L_val (R_eqI rfl rfl) rfl rfl rfl ?_ | refine L_val (R_eqB rfl rfl) rfl rfl rfl ?_ | refine L_val (R_eqIfN rfl rfl) rfl rfl rfl ?_ | refine L_val (R_eqIfNN rfl) rfl rfl rfl ?_) | (refine cL_neq ?_; first | refine L_valB (R_neI rfl rfl) c4 rfl rfl rfl ?_ | refine L_val (R_nePN rfl rfl) rfl rfl rfl ?_ | refine L_val (R_neI rfl rfl) rfl rfl rfl ?_ | refine L_val (R_neB rfl rfl) rfl rfl rfl ?_ | refine L_val (R_neIfN rfl rfl) rfl rfl rfl ?_ | refine L_val (R_neIfNN rfl) rfl rfl rfl ?_) | (refine cL_lss ?_; first | refine L_valB (R_ltI rfl rfl) c1 rfl rfl rfl ?_ | refine L_val (R_ltI rfl rfl) rfl rfl rfl ?_) | (refine cL_not ?_; refine L_val (R_not rfl) rfl rfl rfl ?_) | (refine cL_add ?_; refine L_val (R_addI rfl rfl) rfl rfl rfl ?_) | (refine cL_sub ?_; refine L_val (R_subI rfl rfl) rfl rfl rfl ?_) | (refine cL_gtr ?_; first | refine L_valB (R_gtI rfl rfl) c2 rfl rfl rfl ?_ | refine L_val (R_gtI rfl rfl) rfl rfl rfl ?_) | (refine cL_geq ?_; first | refine L_valB (R_geI rfl rfl) c3 rfl rfl rfl ?_ | refine L_val (R_geI rfl rfl) rfl rfl rfl ?_) | refine L_nil ?_) | refine G_seq ?_ | refine G_region ?_ | refine G_skip ?_ | refine G_block ?_ | refine G_end ?_ | refine G_true rfl ?_ | refine G_false rfl ?_))
            exact G_inv ⟨rfl, Ext.refl _ _, _, with_self ⟨rfl, rfl, rfl, rfl, rfl, rfl,  congrArg Value.bool (hhead _ (by simp only [head2, c1, c2, c3, c4]; rfl)), trivial⟩⟩
          | false =>
            (repeat (first | (refine cL ?_; first | (refine cL_guard ?_; refine L_unwanted rfl rfl rfl ?_) | (refine cL_move ?_; refine L_val R_move rfl rfl rfl ?_) | (refine cL_load ?_; first | refine L_val (R_loadB rfl (by assumption) (by rfl)) rfl rfl rfl ?_ | refine L_val (R_loadH (by assumption) rfl (by assumption) (by rfl)) rfl rfl rfl ?_) | (refine cL_fieldAddr ?_; refine L_val (R_fa rfl) rfl rfl rfl ?_) | (refine cL_assign ?_; refine L_val R_assign rfl rfl rfl ?_) | (refine cL_call ?_; refine L_val (R_len rfl) rfl rfl rfl ?_) | (refine cL_pick ?_; first | refine L_val (R_pickT rfl) rfl rfl rfl ?_ | refine L_val (R_pickF rfl) rfl rfl rfl ?_) | (refine cL_eql ?_; first | refine L_val (R_eqPN rfl rfl) rfl rfl rfl ?_ | refine L_val (R_eqI rfl rfl) rfl rfl rfl ?_ | refine L_val (R_eqB rfl rfl) rfl rfl rfl ?_ | refine L_val (R_eqIfN rfl rfl) rfl rfl rfl ?_ | refine L_val (R_eqIfNN rfl) rfl rfl rfl ?_) | (refine cL_neq ?_; first | refine L_valB (R_neI rfl rfl) c4 rfl rfl rfl ?_ | refine L_val (R_nePN rfl rfl) rfl rfl rfl ?_ | refine L_val (R_neI rfl rfl) rfl rfl rfl ?_ | refine L_val (R_neB rfl rfl) rfl rfl rfl ?_ | refine L_val (R_neIfN rfl rfl) rfl rfl rfl ?_ | refine L_val (R_neIfNN rfl) rfl rfl rfl ?_) | (refine cL_lss ?_; first | refine L_valB (R_ltI rfl rfl) c1 rfl rfl rfl ?_ | refine L_val (R_ltI rfl rfl) rfl rfl rfl ?_) | (refine cL_not ?_; refine L_val (R_not rfl) rfl rfl rfl ?_) | (refine cL_add ?_; refine L_val (R_addI rfl rfl) rfl rfl rfl ?_) | (refine cL_sub ?_; refine L_val (R_subI rfl rfl) rfl rfl rfl ?_) | (refine cL_gtr ?_; first | refine L_valB (R_gtI rfl rfl) c2 rfl rfl rfl ?_ | refine L_val (R_gtI rfl rfl) rfl rfl rfl ?_) | (refine cL_geq ?_; first | refine L_valB (R_geI rfl rfl) c3 rfl rfl rfl ?_ | refine L_val (R_geI rfl rfl) rfl rfl rfl ?_) | refine L_nil ?_) | refine G_seq ?_ | refine G_region ?_ | refine G_skip ?_ | refine G_block ?_ | refine G_end ?_ | refine G_true rfl ?_ | refine G_false rfl ?_))
            exact G_inv ⟨rfl, Ext.refl _ _, _, with_self ⟨rfl, rfl, rfl, rfl, rfl, rfl,  congrArg Value.bool (hhead _ (by simp only [head2, c1, c2, c3, c4]; rfl)), trivial⟩⟩
        | false =>
          (repeat (first | (refine cL ?_; first | (refine cL_guard ?_; refine L_unwanted rfl rfl rfl ?_) | (refine cL_move ?_; refine L_val R_move rfl rfl rfl ?_) | (refine cL_load ?_; first | refine L_val (R_loadB rfl (by assumption) (by rfl)) rfl rfl rfl ?_ | refine L_val (R_loadH (by assumption) rfl (by assumption) (by rfl)) rfl rfl rfl ?_) | (refine cL_fieldAddr ?_; refine L_val (R_fa rfl) rfl rfl rfl ?_) | (refine cL_assign ?_; refine L_val R_assign rfl rfl rfl ?_) | (refine cL_call ?_; refine L_val (R_len rfl) rfl rfl rfl ?_) | (refine cL_pick ?_; first | refine L_val (R_pickT rfl) rfl rfl rfl ?_ | refine L_val (R_pickF rfl) rfl rfl rfl ?_) | (refine cL_eql ?_; first | refine L_val (R_eqPN rfl rfl) rfl rfl rfl ?_ | refine L_val (R_eqI rfl rfl) rfl rfl rfl ?_ | refine L_val (R_eqB rfl rfl) rfl rfl rfl ?_ | refine L_val (R_eqIfN rfl rfl) rfl rfl rfl ?_ | refine L_val (R_eqIfNN rfl) rfl rfl rfl ?_) | (refine cL_neq ?_; first | refine L_val (R_nePN rfl rfl) rfl rfl rfl ?_ | refine L_val (R_neI rfl rfl) rfl rfl rfl ?_ | refine L_val (R_neB rfl rfl) rfl rfl rfl ?_ | refine L_val (R_neIfN rfl rfl) rfl rfl rfl ?_ | refine L_val (R_neIfNN rfl) rfl rfl rfl ?_) | (refine cL_lss ?_; first | refine L_valB (R_ltI rfl rfl) c1 rfl rfl rfl ?_ | refine L_val (R_ltI rfl rfl) rfl rfl rfl ?_) | (refine cL_not ?_; refine L_val (R_not rfl) rfl rfl rfl ?_) | (refine cL_add ?_; refine L_val (R_addI rfl rfl) rfl rfl rfl ?_) | (refine cL_sub ?_; refine L_val (R_subI rfl rfl) rfl rfl rfl ?_) | (refine cL_gtr ?_; first | refine L_valB (R_gtI rfl rfl) c2 rfl rfl rfl ?_ | refine L_val (R_gtI rfl rfl) rfl rfl rfl ?_) | (refine cL_geq ?_; first | refine L_valB (R_geI rfl rfl) c3 rfl rfl rfl ?_ | refine L_val (R_geI rfl rfl) rfl rfl rfl ?_) | refine L_nil ?_) | refine G_seq ?_ | refine G_region ?_ | refine G_skip ?_ | refine G_block ?_ | refine G_end ?_ | refine G_true rfl ?_ | refine G_false rfl ?_))
          exact G_inv ⟨rfl, Ext.refl _ _, _, with_self ⟨rfl, rfl, rfl, rfl, rfl, rfl,  congrArg Value.bool (hhead _ (by simp only [head2, c1, c2, c3]; rfl)), trivial⟩⟩
  rintro f ds0 w3 ⟨rfl, hw3, f0, rfl⟩
  have hA3 := hA2.ext0 hw3
  cases e2 : head2 x.k x.es.length with
  | true =>
    rw [headB_false2 e2]
    (repeat (first | (refine cL ?_; first | (refine cL_guard ?_; refine L_unwanted rfl rfl rfl ?_) | (refine cL_move ?_; refine L_val R_move rfl rfl rfl ?_) | (refine cL_load ?_; first | refine L_val (R_loadB rfl (by assumption) (by rfl)) rfl rfl rfl ?_ | refine L_val (R_loadH (by assumption) rfl (by assumption) (by rfl)) rfl rfl rfl ?_) | (refine cL_fieldAddr ?_; refine L_val (R_fa rfl) rfl rfl rfl ?_) | (refine cL_assign ?_; refine L_val R_assign rfl rfl rfl ?_) | (refine cL_call ?_; refine L_val (R_len rfl) rfl rfl rfl ?_) | (refine cL_pick ?_; first | refine L_val (R_pickT rfl) rfl rfl rfl ?_ | refine L_val (R_pickF rfl) rfl rfl rfl ?_) | (refine cL_eql ?_; first | refine L_val (R_eqPN rfl rfl) rfl rfl rfl ?_ | refine L_val (R_eqI rfl rfl) rfl rfl rfl ?_ | refine L_val (R_eqB rfl rfl) rfl rfl rfl ?_ | refine L_val (R_eqIfN rfl rfl) rfl rfl rfl ?_ | refine L_val (R_eqIfNN rfl) rfl rfl rfl ?_) | (refine cL_neq ?_; first | refine L_val (R_nePN rfl rfl) rfl rfl rfl ?_ | refine L_val (R_neI rfl rfl) rfl rfl rfl ?_ | refine L_val (R_neB rfl rfl) rfl rfl rfl ?_ | refine L_val (R_neIfN rfl rfl) rfl rfl rfl ?_ | refine L_val (R_neIfNN rfl) rfl rfl rfl ?_) | (refine cL_lss ?_; refine L_val (R_ltI rfl rfl) rfl rfl rfl ?_) | (refine cL_not ?_; refine L_val (R_not rfl) rfl rfl rfl ?_) | (refine cL_add ?_; refine L_val (R_addI rfl rfl) rfl rfl rfl ?_) | (refine cL_sub ?_; refine L_val (R_subI rfl rfl) rfl rfl rfl ?_) | (refine cL_gtr ?_; refine L_val (R_gtI rfl rfl) rfl rfl rfl ?_) | (refine cL_geq ?_; refine L_val (R_geI rfl rfl) rfl rfl rfl ?_) | refine L_nil ?_) | refine G_seq ?_ | refine G_region ?_ | refine G_skip ?_ | refine G_block ?_ | refine G_end ?_ | refine G_true rfl ?_ | refine G_false rfl ?_))
    (refine G_retF rfl ?_)
    exact ⟨_, rfl, rfl, hex2.trans hw3⟩
  | false =>
  refine G_false rfl ?_
  refine G_seq ?_
  refine G_cut1 (fun f ds0 w0 => ds0 = [] ∧ Ext No w2 w0 ∧ ∃ f0, f = with_ [(0, .slice p ds.length dcap), (2, .int .i64 params), (3, .int .i64 own), (5, ptr b5), (9, .int .i64 (elemsL x.k)), (10, .int .i64 (limitL ds.length x.k params own)), (42, .bool (head4 (limitL ds.length x.k params own) x.n))] f0) ?_ ?_
  · have hhead : ∀ bb, head4 (limitL ds.length x.k params own) x.n = bb → bb = head4 (limitL ds.length x.k params own) x.n := fun _ h => h.symm
    cases c1 : decide (limitL ds.length x.k params own ≥ -1) with
    | true =>
      cases c2 : decide (x.n < 0) with
      | true =>
        (repeat (first | (refine cL ?_; first | (refine cL_guard ?_; refine L_unwanted rfl rfl rfl ?_) | (refine cL_move ?_; refine L_val R_move rfl rfl rfl ?_) | (refine cL_load ?_; first | refine L_val (R_loadB rfl (by assumption) (by rfl)) rfl rfl rfl ?_ | refine L_val (R_loadH (by assumption) rfl (by assumption) (by rfl)) rfl rfl rfl ?_) | (refine cL_fieldAddr ?_; refine L_val (R_fa rfl) rfl rfl rfl ?_) | (refine cL_assign ?_; refine L_val R_assign rfl rfl rfl ?_) | (refine cL_call ?_; refine L_val (R_len rfl) rfl rfl rfl ?_) | (refine cL_pick ?_; first | refine L_val (R_pickT rfl) rfl rfl rfl ?_ | refine L_val (R_pickF rfl) rfl rfl rfl ?_) | (refine cL_eql ?_; first | refine L_val (R_eqPN rfl rfl) rfl rfl rfl ?_ | refine L_val (R_eqI rfl rfl) rfl rfl rfl ?_ | refine L_val (R_eqB rfl rfl) rfl rfl rfl ?_ | refine L_val (R_eqIfN rfl rfl) rfl rfl rfl ?_ | refine L_val (R_eqIfNN rfl) rfl rfl rfl ?_) | (refine cL_neq ?_; first | refine L_val (R_nePN rfl rfl) rfl rfl rfl ?_ | refine L_val (R_neI rfl rfl) rfl rfl rfl ?_ | refine L_val (R_neB rfl rfl) rfl rfl rfl ?_ | refine L_val (R_neIfN rfl rfl) rfl rfl rfl ?_ | refine L_val (R_neIfNN rfl) rfl rfl rfl ?_) | (refine cL_lss ?_; first | refine L_valB (R_ltI rfl rfl) c2 rfl rfl rfl ?_ | refine L_val (R_ltI rfl rfl) rfl rfl rfl ?_) | (refine cL_not ?_; refine L_val (R_not rfl) rfl rfl rfl ?_) | (refine cL_add ?_; refine L_val (R_addI rfl rfl) rfl rfl rfl ?_) | (refine cL_sub ?_; refine L_val (R_subI rfl rfl) rfl rfl rfl ?_) | (refine cL_gtr ?_; refine L_val (R_gtI rfl rfl) rfl rfl rfl ?_) | (refine cL_geq ?_; first | refine L_valB (R_geI rfl rfl) c1 rfl rfl rfl ?_ | refine L_val (R_geI rfl rfl) rfl rfl rfl ?_) | refine L_nil ?_) | refine G_seq ?_ | refine G_region ?_ | refine G_skip ?_ | refine G_block ?_ | refine G_end ?_ | refine G_true rfl ?_ | refine G_false rfl ?_))
        exact G_inv ⟨rfl, hw3, _, with_self ⟨rfl, rfl, rfl, rfl, rfl, rfl,  congrArg Value.bool (hhead _ (by simp only [head4, c1, c2]; rfl)), trivial⟩⟩
      | false =>
        cases c3 : decide (limitL ds.length x.k params own ≥ 0) with
        | false =>
          (repeat (first | (refine cL ?_; first | (refine cL_guard ?_; refine L_unwanted rfl rfl rfl ?_) | (refine cL_move ?_; refine L_val R_move rfl rfl rfl ?_) | (refine cL_load ?_; first | refine L_val (R_loadB rfl (by assumption) (by rfl)) rfl rfl rfl ?_ | refine L_val (R_loadH (by assumption) rfl (by assumption) (by rfl)) rfl rfl rfl ?_) | (refine cL_fieldAddr ?_; refine L_val (R_fa rfl) rfl rfl rfl ?_) | (refine cL_assign ?_; refine L_val R_assign rfl rfl rfl ?_) | (refine cL_call ?_; refine L_val (R_len rfl) rfl rfl rfl ?_) | (refine cL_pick ?_; first | refine L_val (R_pickT rfl) rfl rfl rfl ?_ | refine L_val (R_pickF rfl) rfl rfl rfl ?_) | (refine cL_eql ?_; first | refine L_val (R_eqPN rfl rfl) rfl rfl rfl ?_ | refine L_val (R_eqI rfl rfl) rfl rfl rfl ?_ | refine L_val (R_eqB rfl rfl) rfl rfl rfl ?_ | refine L_val (R_eqIfN rfl rfl) rfl rfl rfl ?_ | refine L_val (R_eqIfNN rfl) rfl rfl rfl ?_) | (refine cL_neq ?_; first | refine L_val (R_nePN rfl rfl) rfl rfl rfl ?_ | refine L_val (R_neI rfl rfl) rfl rfl rfl ?_ | refine L_val (R_neB rfl rfl) rfl rfl rfl ?_ | refine L_val (R_neIfN rfl rfl) rfl rfl rfl ?_ | refine L_val (R_neIfNN rfl) rfl rfl rfl ?_) | (refine cL_lss ?_; first | refine L_valB (R_ltI rfl rfl) c2 rfl rfl rfl ?_ | refine L_val (R_ltI rfl rfl) rfl rfl rfl ?_) | (refine cL_not ?_; refine L_val (R_not rfl) rfl rfl rfl ?_) | (refine cL_add ?_; refine L_val (R_addI rfl rfl) rfl rfl rfl ?_) | (refine cL_sub ?_; refine L_val (R_subI rfl rfl) rfl rfl rfl ?_) | (refine cL_gtr ?_; refine L_val (R_gtI rfl rfl) rfl rfl rfl ?_) | (refine cL_geq ?_; first | refine L_valB (R_geI rfl rfl) c1 rfl rfl rfl ?_ | refine L_valB (R_geI rfl rfl) c3 rfl rfl rfl ?_ | refine L_val (R_geI rfl rfl) rfl rfl rfl ?_) | refine L_nil ?_) | refine G_seq ?_ | refine G_region ?_ | refine G_skip ?_ | refine G_block ?_ | refine G_end ?_ | refine G_true rfl ?_ | refine G_false rfl ?_))
          exact G_inv ⟨rfl, hw3, _, with_self ⟨rfl, rfl, rfl, rfl, rfl, rfl,  congrArg Value.bool (hhead _ (by simp only [head4, c1, c2, c3]; rfl)), trivial⟩⟩
        | true =>
          cases c4 : decide (x.n ≥ limitL ds.length x.k params own) with
          | true =>
            (repeat (first | (refine cL ?_; first | (refine cL_guard ?_; refine L_unwanted rfl rfl rfl ?_) | (refine cL_move ?_; refine L_val R_move rfl rfl rfl ?_) | (refine cL_load ?_; first | refine L_val (R_loadB rfl (by assumption) (by rfl)) rfl rfl rfl ?_ | refine L_val (R_loadH (by assumption) rfl (by assumption) (by rfl)) rfl rfl rfl ?_) | (refine cL_fieldAddr ?_; refine L_val (R_fa rfl) rfl rfl rfl ?_) | (refine cL_assign ?_; refine L_val R_assign rfl rfl rfl ?_) | (refine cL_call ?_; refine L_val (R_len rfl) rfl rfl rfl ?_) | (refine cL_pick ?_; first | refine L_val (R_pickT rfl) rfl rfl rfl ?_ | refine L_val (R_pickF rfl) rfl rfl rfl ?_) | (refine cL_eql ?_; first | refine L_val (R_eqPN rfl rfl) rfl rfl rfl ?_ | refine L_val (R_eqI rfl rfl) rfl rfl rfl ?_ | refine L_val (R_eqB rfl rfl) rfl rfl rfl ?_ | refine L_val (R_eqIfN rfl rfl) rfl rfl rfl ?_ | refine L_val (R_eqIfNN rfl) rfl rfl rfl ?_) | (refine cL_neq ?_; first | refine L_val (R_nePN rfl rfl) rfl rfl rfl ?_ | refine L_val (R_neI rfl rfl) rfl rfl rfl ?_ | refine L_val (R_neB rfl rfl) rfl rfl rfl ?_ | refine L_val (R_neIfN rfl rfl) rfl rfl rfl ?_ | refine L_val (R_neIfNN rfl) rfl rfl rfl ?_) | (refine cL_lss ?_; first | refine L_valB (R_ltI rfl rfl) c2 rfl rfl rfl ?_ | refine L_val (R_ltI rfl rfl) rfl rfl rfl ?_) | (refine cL_not ?_; refine L_val (R_not rfl) rfl rfl rfl ?_) | (refine cL_add ?_; refine L_val (R_addI rfl rfl) rfl rfl rfl ?_) | (refine cL_sub ?_; refine L_val (R_subI rfl rfl) rfl rfl rfl ?_) | (refine cL_gtr ?_; refine L_val (R_gtI rfl rfl) rfl rfl rfl ?_) | (refine cL_geq ?_; first | refine L_valB (R_geI rfl rfl) c1 rfl rfl rfl ?_ | refine L_valB (R_geI rfl rfl) c3 rfl rfl rfl ?_ | refine L_valB (R_geI rfl rfl) c4 rfl rfl rfl ?_ | refine L_val (R_geI rfl rfl) rfl rfl rfl ?_) | refine L_nil ?_) | refine G_seq ?_ | refine G_region ?_ | refine G_skip ?_ | refine G_block ?_ | refine G_end ?_ | refine G_true rfl ?_ | refine G_false rfl ?_))
            exact G_inv ⟨rfl, hw3, _, with_self ⟨rfl, rfl, rfl, rfl, rfl, rfl,  congrArg Value.bool (hhead _ (by simp only [head4, c1, c2, c3, c4]; rfl)), trivial⟩⟩
          | false =>
            (repeat (first | (refine cL ?_; first | (refine cL_guard ?_; refine L_unwanted rfl rfl rfl ?_) | (refine cL_move ?_; refine L_val R_move rfl rfl rfl ?_) | (refine cL_load ?_; first | refine L_val (R_loadB rfl (by assumption) (by rfl)) rfl rfl rfl ?_ | refine L_val (R_loadH (by assumption) rfl (by assumption) (by rfl)) rfl rfl rfl ?_) | (refine cL_fieldAddr ?_; refine L_val (R_fa rfl) rfl rfl rfl ?_) | (refine cL_assign ?_; refine L_val R_assign rfl rfl rfl ?_) | (refine cL_call ?_; refine L_val (R_len rfl) rfl rfl rfl ?_) | (refine cL_pick ?_; first | refine L_val (R_pickT rfl) rfl rfl rfl ?_ | refine L_val (R_pickF rfl) rfl rfl rfl ?_) | (refine cL_eql ?_; first | refine L_val (R_eqPN rfl rfl) rfl rfl rfl ?_ | refine L_val (R_eqI rfl rfl) rfl rfl rfl ?_ | refine L_val (R_eqB rfl rfl) rfl rfl rfl ?_ | refine L_val (R_eqIfN rfl rfl) rfl rfl rfl ?_ | refine L_val (R_eqIfNN rfl) rfl rfl rfl ?_) | (refine cL_neq ?_; first | refine L_val (R_nePN rfl rfl) rfl rfl rfl ?_ | refine L_val (R_neI rfl rfl) rfl rfl rfl ?_ | refine L_val (R_neB rfl rfl) rfl rfl rfl ?_ | refine L_val (R_neIfN rfl rfl) rfl rfl rfl ?_ | refine L_val (R_neIfNN rfl) rfl rfl rfl ?_) | (refine cL_lss ?_; first | refine L_valB (R_ltI rfl rfl) c2 rfl rfl rfl ?_ | refine L_val (R_ltI rfl rfl) rfl rfl rfl ?_) | (refine cL_not ?_; refine L_val (R_not rfl) rfl rfl rfl ?_) | (refine cL_add ?_; refine L_val (R_addI rfl rfl) rfl rfl rfl ?_) | (refine cL_sub ?_; refine L_val (R_subI rfl rfl) rfl rfl rfl ?_) | (refine cL_gtr ?_; refine L_val (R_gtI rfl rfl) rfl rfl rfl ?_) | (refine cL_geq ?_; first | refine L_valB (R_geI rfl rfl) c1 rfl rfl rfl ?_ | refine L_valB (R_geI rfl rfl) c3 rfl rfl rfl ?_ | refine L_valB (R_geI rfl rfl) c4 rfl rfl rfl ?_ | refine L_val (R_geI rfl rfl) rfl rfl rfl ?_) | refine L_nil ?_) | refine G_seq ?_ | refine G_region ?_ | refine G_skip ?_ | refine G_block ?_ | refine G_end ?_ | refine G_true rfl ?_ | refine G_false rfl ?_))
            exact G_inv ⟨rfl, hw3, _, with_self ⟨rfl, rfl, rfl, rfl, rfl, rfl,  congrArg Value.bool (hhead _ (by simp only [head4, c1, c2, c3, c4]; rfl)), trivial⟩⟩
    | false =>
      cases c3 : decide (limitL ds.length x.k params own ≥ 0) with
      | false =>
        (repeat (first | (refine cL ?_; first | (refine cL_guard ?_; refine L_unwanted rfl rfl rfl ?_) | (refine cL_move ?_; refine L_val R_move rfl rfl rfl ?_) | (refine cL_load ?_; first | refine L_val (R_loadB rfl (by assumption) (by rfl)) rfl rfl rfl ?_ | refine L_val (R_loadH (by assumption) rfl (by assumption) (by rfl)) rfl rfl rfl ?_) | (refine cL_fieldAddr ?_; refine L_val (R_fa rfl) rfl rfl rfl ?_) | (refine cL_assign ?_; refine L_val R_assign rfl rfl rfl ?_) | (refine cL_call ?_; refine L_val (R_len rfl) rfl rfl rfl ?_) | (refine cL_pick ?_; first | refine L_val (R_pickT rfl) rfl rfl rfl ?_ | refine L_val (R_pickF rfl) rfl rfl rfl ?_) | (refine cL_eql ?_; first | refine L_val (R_eqPN rfl rfl) rfl rfl rfl ?_ | refine L_val (R_eqI rfl rfl) rfl rfl rfl ?_ | refine L_val (R_eqB rfl rfl) rfl rfl rfl ?_ | refine L_val (R_eqIfN rfl rfl) rfl rfl rfl ?_ | refine L_val (R_eqIfNN rfl) rfl rfl rfl ?_) | (refine cL_neq ?_; first | refine L_val (R_nePN rfl rfl) rfl rfl rfl ?_ | refine L_val (R_neI rfl rfl) rfl rfl rfl ?_ | refine L_val (R_neB rfl rfl) rfl rfl rfl ?_ | refine L_val (R_neIfN rfl rfl) rfl rfl rfl ?_ | refine L_val (R_neIfNN rfl) rfl rfl rfl ?_) | (refine cL_lss ?_; refine L_val (R_ltI rfl rfl) rfl rfl rfl ?_) | (refine cL_not ?_; refine L_val (R_not rfl) rfl rfl rfl ?_) | (refine cL_add ?_; refine L_val (R_addI rfl rfl) rfl rfl rfl ?_) | (refine cL_sub ?_; refine L_val (R_subI rfl rfl) rfl rfl rfl ?_) | (refine cL_gtr ?_; refine L_val (R_gtI rfl rfl) rfl rfl rfl ?_) | (refine cL_geq ?_; first | refine L_valB (R_geI rfl rfl) c1 rfl rfl rfl ?_ | refine L_valB (R_geI rfl rfl) c3 rfl rfl rfl ?_ | refine L_val (R_geI rfl rfl) rfl rfl rfl ?_) | refine L_nil ?_) | refine G_seq ?_ | refine G_region ?_ | refine G_skip ?_ | refine G_block ?_ | refine G_end ?_ | refine G_true rfl ?_ | refine G_false rfl ?_))
        exact G_inv ⟨rfl, hw3, _, with_self ⟨rfl, rfl, rfl, rfl, rfl, rfl,  congrArg Value.bool (hhead _ (by simp only [head4, c1, c3]; rfl)), trivial⟩⟩
      | true =>
        cases c4 : decide (x.n ≥ limitL ds.length x.k params own) with
        | true =>
          (repeat (first | (refine cL ?_; first | (refine cL_guard ?_; refine L_unwanted rfl rfl rfl ?_) | (refine cL_move ?_; refine L_val R_move rfl rfl rfl ?_) | (refine cL_load ?_; first | refine L_val (R_loadB rfl (by assumption) (by rfl)) rfl rfl rfl ?_ | refine L_val (R_loadH (by assumption) rfl (by assumption) (by rfl)) rfl rfl rfl ?_) | (refine cL_fieldAddr ?_; refine L_val (R_fa rfl) rfl rfl rfl ?_) | (refine cL_assign ?_; refine L_val R_assign rfl rfl rfl ?_) | (refine cL_call ?_; refine L_val (R_len rfl) rfl rfl rfl ?_) | (refine cL_pick ?_; first | refine L_val (R_pickT rfl) rfl rfl rfl ?_ | refine L_val (R_pickF rfl) rfl rfl rfl ?_) | (refine cL_eql ?_; first | refine L_val (R_eqPN rfl rfl) rfl rfl rfl ?_ | refine L_val (R_eqI rfl rfl) rfl rfl rfl ?_ | refine L_val (R_eqB rfl rfl) rfl rfl rfl ?_ | refine L_val (R_eqIfN rfl rfl) rfl rfl rfl ?_ | refine L_val (R_eqIfNN rfl) rfl rfl rfl ?_) | (refine cL_neq ?_; first | refine L_val (R_nePN rfl rfl) rfl rfl rfl ?_ | refine L_val (R_neI rfl rfl) rfl rfl rfl ?_ | refine L_val (R_neB rfl rfl) rfl rfl rfl ?_ | refine L_val (R_neIfN rfl rfl) rfl rfl rfl ?_ | refine L_val (R_neIfNN rfl) rfl rfl rfl ?_) | (refine cL_lss ?_; refine L_val (R_ltI rfl rfl) rfl rfl rfl ?_) | (refine cL_not ?_; refine L_val (R_not rfl) rfl rfl rfl ?_) | (refine cL_add ?_; refine L_val (R_addI rfl rfl) rfl rfl rfl ?_) | (refine cL_sub ?_; refine L_val (R_subI rfl rfl) rfl rfl rfl ?_) | (refine cL_gtr ?_; refine L_val (R_gtI rfl rfl) rfl rfl rfl ?_) | (refine cL_geq ?_; first | refine L_valB (R_geI rfl rfl) c1 rfl rfl rfl ?_ | refine L_valB (R_geI rfl rfl) c3 rfl rfl rfl ?_ | refine L_valB (R_geI rfl rfl) c4 rfl rfl rfl ?_ | refine L_val (R_geI rfl rfl) rfl rfl rfl ?_) | refine L_nil ?_) | refine G_seq ?_ | refine G_region ?_ | refine G_skip ?_ | refine G_block ?_ | refine G_end ?_ | refine G_true rfl ?_ | refine G_false rfl ?_))
          exact G_inv ⟨rfl, hw3, _, with_self ⟨rfl, rfl, rfl, rfl, rfl, rfl,  congrArg Value.bool (hhead _ (by simp only [head4, c1, c3, c4]; rfl)), trivial⟩⟩
        | false =>
          (repeat (first | (refine cL ?_; first | (refine cL_guard ?_; refine L_unwanted rfl rfl rfl ?_) | (refine cL_move ?_; refine L_val R_move rfl rfl rfl ?_) | (refine cL_load ?_; first | refine L_val (R_loadB rfl (by assumption) (by rfl)) rfl rfl rfl ?_ | refine L_val (R_loadH (by assumption) rfl (by assumption) (by rfl)) rfl rfl rfl ?_) | (refine cL_fieldAddr ?_; refine L_val (R_fa rfl) rfl rfl rfl ?_) | (refine cL_assign ?_; refine L_val R_assign rfl rfl rfl ?_) | (refine cL_call ?_; refine L_val (R_len rfl) rfl rfl rfl ?_) | (refine cL_pick ?_; first | refine L_val (R_pickT rfl) rfl rfl rfl ?_ | refine L_val (R_pickF rfl) rfl rfl rfl ?_) | (refine cL_eql ?_; first | refine L_val (R_eqPN rfl rfl) rfl rfl rfl ?_ | refine L_val (R_eqI rfl rfl) rfl rfl rfl ?_ | refine L_val (R_eqB rfl rfl) rfl rfl rfl ?_ | refine L_val (R_eqIfN rfl rfl) rfl rfl rfl ?_ | refine L_val (R_eqIfNN rfl) rfl rfl rfl ?_) | (refine cL_neq ?_; first | refine L_val (R_nePN rfl rfl) rfl rfl rfl ?_ | refine L_val (R_neI rfl rfl) rfl rfl rfl ?_ | refine L_val (R_neB rfl rfl) rfl rfl rfl ?_ | refine L_val (R_neIfN rfl rfl) rfl rfl rfl ?_ | refine L_val (R_neIfNN rfl) rfl rfl rfl ?_) | (refine cL_lss ?_; refine L_val (R_ltI rfl rfl) rfl rfl rfl ?_) | (refine cL_not ?_; refine L_val (R_not rfl) rfl rfl rfl ?_) | (refine cL_add ?_; refine L_val (R_addI rfl rfl) rfl rfl rfl ?_) | (refine cL_sub ?_; refine L_val (R_subI rfl rfl) rfl rfl rfl ?_) | (refine cL_gtr ?_; refine L_val (R_gtI rfl rfl) rfl rfl rfl ?_) | (refine cL_geq ?_; first | refine L_valB (R_geI rfl rfl) c1 rfl rfl rfl ?_ | refine L_valB (R_geI rfl rfl) c3 rfl rfl rfl ?_ | refine L_valB (R_geI rfl rfl) c4 rfl rfl rfl ?_ | refine L_val (R_geI rfl rfl) rfl rfl rfl ?_) | refine L_nil ?_) | refine G_seq ?_ | refine G_region ?_ | refine G_skip ?_ | refine G_block ?_ | refine G_end ?_ | refine G_true rfl ?_ | refine G_false rfl ?_))
          exact G_inv ⟨rfl, hw3, _, with_self ⟨rfl, rfl, rfl, rfl, rfl, rfl,  congrArg Value.bool (hhead _ (by simp only [head4, c1, c3, c4]; rfl)), trivial⟩⟩
  rintro f ds0 w4 ⟨rfl, hw4, f0, rfl⟩
  have hA4 := hA2.ext0 hw4
  cases e4 : head4 (limitL ds.length x.k params own) x.n with
  | true =>
    rw [headB_false4 e4]
    (repeat (first | (refine cL ?_; first | (refine cL_guard ?_; refine L_unwanted rfl rfl rfl ?_) | (refine cL_move ?_; refine L_val R_move rfl rfl rfl ?_) | (refine cL_load ?_; first | refine L_val (R_loadB rfl (by assumption) (by rfl)) rfl rfl rfl ?_ | refine L_val (R_loadH (by assumption) rfl (by assumption) (by rfl)) rfl rfl rfl ?_) | (refine cL_fieldAddr ?_; refine L_val (R_fa rfl) rfl rfl rfl ?_) | (refine cL_assign ?_; refine L_val R_assign rfl rfl rfl ?_) | (refine cL_call ?_; refine L_val (R_len rfl) rfl rfl rfl ?_) | (refine cL_pick ?_; first | refine L_val (R_pickT rfl) rfl rfl rfl ?_ | refine L_val (R_pickF rfl) rfl rfl rfl ?_) | (refine cL_eql ?_; first | refine L_val (R_eqPN rfl rfl) rfl rfl rfl ?_ | refine L_val (R_eqI rfl rfl) rfl rfl rfl ?_ | refine L_val (R_eqB rfl rfl) rfl rfl rfl ?_ | refine L_val (R_eqIfN rfl rfl) rfl rfl rfl ?_ | refine L_val (R_eqIfNN rfl) rfl rfl rfl ?_) | (refine cL_neq ?_; first | refine L_val (R_nePN rfl rfl) rfl rfl rfl ?_ | refine L_val (R_neI rfl rfl) rfl rfl rfl ?_ | refine L_val (R_neB rfl rfl) rfl rfl rfl ?_ | refine L_val (R_neIfN rfl rfl) rfl rfl rfl ?_ | refine L_val (R_neIfNN rfl) rfl rfl rfl ?_) | (refine cL_lss ?_; refine L_val (R_ltI rfl rfl) rfl rfl rfl ?_) | (refine cL_not ?_; refine L_val (R_not rfl) rfl rfl rfl ?_) | (refine cL_add ?_; refine L_val (R_addI rfl rfl) rfl rfl rfl ?_) | (refine cL_sub ?_; refine L_val (R_subI rfl rfl) rfl rfl rfl ?_) | (refine cL_gtr ?_; refine L_val (R_gtI rfl rfl) rfl rfl rfl ?_) | (refine cL_geq ?_; refine L_val (R_geI rfl rfl) rfl rfl rfl ?_) | refine L_nil ?_) | refine G_seq ?_ | refine G_region ?_ | refine G_skip ?_ | refine G_block ?_ | refine G_end ?_ | refine G_true rfl ?_ | refine G_false rfl ?_))
    (refine G_retF rfl ?_)
    exact ⟨_, rfl, rfl, hex2.trans hw4⟩
  | false =>
  refine G_false rfl ?_
  refine G_seq ?_
  refine G_cut1 (fun f ds0 w0 => ds0 = [] ∧ Ext No w2 w0 ∧ ∃ f0, f = with_ [(0, .slice p ds.length dcap), (2, .int .i64 params), (3, .int .i64 own), (5, ptr b5), (60, .bool (head6 ds x.k x.n x.es.length))] f0) ?_ ?_
  · have hhead : ∀ bb, head6 ds x.k x.n x.es.length = bb → bb = head6 ds x.k x.n x.es.length := fun _ h => h.symm
    have hAg4 : ∀ w', Ext No w4 w' → Agree H1 w' := fun _ he => hA4.ext0 he
    (refine G_draw No (0 :: 1 :: 2 :: 3 :: 4 :: 5 :: 6 :: 7 :: 8 :: 9 :: 10 :: 11 :: 12 :: 13 :: 14 :: 15 :: []) [] follows (by kernel_rfl) rfl ?_)
    cases c1 : (x.k == 1) with
    | false =>
      (repeat (first | (refine cD_guard ?_; refine D_unwanted rfl rfl ?_) | (refine cD_move ?_; refine D_val0 (fun _ _ => R_move) rfl rfl ?_) | (refine cD_load ?_; refine D_val0 (fun w he => R_loadH (hAg4 w he) rfl (by assumption) (by rfl)) rfl rfl ?_) | (refine cD_fieldAddr ?_; refine D_val0 (fun _ _ => R_fa rfl) rfl rfl ?_) | (refine cD_assign ?_; refine D_val0 (fun _ _ => R_assign) rfl rfl ?_) | (refine cD_call ?_; refine D_val0 (fun _ _ => R_len rfl) rfl rfl ?_) | (refine cD_pick ?_; first | refine D_val0 (fun _ _ => R_pickT rfl) rfl rfl ?_ | refine D_val0 (fun _ _ => R_pickF rfl) rfl rfl ?_) | (refine cD_eql ?_; first | refine D_valB (fun _ _ => R_eqI rfl rfl) c1 rfl rfl ?_ | refine D_val0 (fun _ _ => R_eqPN rfl rfl) rfl rfl ?_ | refine D_val0 (fun _ _ => R_eqI rfl rfl) rfl rfl ?_ | refine D_val0 (fun _ _ => R_eqB rfl rfl) rfl rfl ?_ | refine D_val0 (fun _ _ => R_eqIfN rfl rfl) rfl rfl ?_ | refine D_val0 (fun _ _ => R_eqIfNN rfl) rfl rfl ?_) | (refine cD_neq ?_; first | refine D_val0 (fun _ _ => R_nePN rfl rfl) rfl rfl ?_ | refine D_val0 (fun _ _ => R_neI rfl rfl) rfl rfl ?_ | refine D_val0 (fun _ _ => R_neB rfl rfl) rfl rfl ?_ | refine D_val0 (fun _ _ => R_neIfN rfl rfl) rfl rfl ?_ | refine D_val0 (fun _ _ => R_neIfNN rfl) rfl rfl ?_) | (refine cD_lss ?_; refine D_val0 (fun _ _ => R_ltI rfl rfl) rfl rfl ?_) | (refine cD_not ?_; refine D_val0 (fun _ _ => R_not rfl) rfl rfl ?_) | (refine cD_add ?_; refine D_val0 (fun _ _ => R_addI rfl rfl) rfl rfl ?_) | (refine cD_sub ?_; refine D_val0 (fun _ _ => R_subI rfl rfl) rfl rfl ?_) | (refine cD_gtr ?_; refine D_val0 (fun _ _ => R_gtI rfl rfl) rfl rfl ?_) | (refine cD_geq ?_; refine D_val0 (fun _ _ => R_geI rfl rfl) rfl rfl ?_)))
      refine D_nil fun w5 hw5 => ?_
      exact G_inv ⟨rfl, hw4.trans hw5, _, with_self ⟨rfl, rfl, rfl, rfl,  congrArg Value.bool (hhead _ (by simp only [head6, c1]; rfl)), trivial⟩⟩
    | true =>
      have hk1 : x.k = 1 := by simpa using c1
      have hlim : limitL ds.length x.k params own = ds.length := by simp [limitL, hk1]
      have hn0 : 0 ≤ x.n ∧ x.n < ds.length := by
        rw [hlim] at e4
        simp [head4] at e4
        omega
      obtain ⟨dd, hdd⟩ : ∃ dd, ds[x.n.toNat]? = some dd := ⟨_, List.getElem?_eq_getElem (by omega)⟩
      obtain ⟨bk, off, tcs, rfl, hdc, -, -⟩ := hd1 _ _ hdd
      have hdp : ((ds[x.n.toNat]?.map (·.1)).getD 0) = dd.1 := by rw [hdd]; rfl
      cases c2 : ((x.es.length : Int) != dd.1) with
      | true =>
        (repeat (first | (refine cD_guard ?_; refine D_unwanted rfl rfl ?_) | (refine cD_move ?_; refine D_val0 (fun _ _ => R_move) rfl rfl ?_) | (refine cD_load ?_; first | refine D_val0 (fun w he => R_load rfl ((hAg4 w he).hcell (hdc 0 _ rfl))) rfl rfl ?_ | refine D_val0 (fun w he => R_loadH (hAg4 w he) rfl (by assumption) (by rfl)) rfl rfl ?_) | (refine cD_fieldAddr ?_; refine D_val0 (fun _ _ => R_fa rfl) rfl rfl ?_) | (refine cD_assign ?_; refine D_val0 (fun _ _ => R_assign) rfl rfl ?_) | (refine cD_call ?_; refine D_val0 (fun _ _ => R_len rfl) rfl rfl ?_) | (refine cD_pick ?_; first | refine D_val0 (fun _ _ => R_pickT rfl) rfl rfl ?_ | refine D_val0 (fun _ _ => R_pickF rfl) rfl rfl ?_) | (refine cD_eql ?_; first | refine D_valB (fun _ _ => R_eqI rfl rfl) c1 rfl rfl ?_ | refine D_val0 (fun _ _ => R_eqPN rfl rfl) rfl rfl ?_ | refine D_val0 (fun _ _ => R_eqI rfl rfl) rfl rfl ?_ | refine D_val0 (fun _ _ => R_eqB rfl rfl) rfl rfl ?_ | refine D_val0 (fun _ _ => R_eqIfN rfl rfl) rfl rfl ?_ | refine D_val0 (fun _ _ => R_eqIfNN rfl) rfl rfl ?_) | (refine cD_neq ?_; first | refine D_valB (fun _ _ => R_neI rfl rfl) c2 rfl rfl ?_ | refine D_val0 (fun _ _ => R_nePN rfl rfl) rfl rfl ?_ | refine D_val0 (fun _ _ => R_neI rfl rfl) rfl rfl ?_ | refine D_val0 (fun _ _ => R_neB rfl rfl) rfl rfl ?_ | refine D_val0 (fun _ _ => R_neIfN rfl rfl) rfl rfl ?_ | refine D_val0 (fun _ _ => R_neIfNN rfl) rfl rfl ?_) | (refine cD_lss ?_; refine D_val0 (fun _ _ => R_ltI rfl rfl) rfl rfl ?_) | (refine cD_indexAddr ?_; refine D_val0 (fun _ _ => R_ia rfl rfl hn0.1 hn0.2) rfl rfl ?_) | (refine cD_not ?_; refine D_val0 (fun _ _ => R_not rfl) rfl rfl ?_) | (refine cD_add ?_; refine D_val0 (fun _ _ => R_addI rfl rfl) rfl rfl ?_) | (refine cD_sub ?_; refine D_val0 (fun _ _ => R_subI rfl rfl) rfl rfl ?_) | (refine cD_gtr ?_; refine D_val0 (fun _ _ => R_gtI rfl rfl) rfl rfl ?_) | (refine cD_geq ?_; refine D_val0 (fun _ _ => R_geI rfl rfl) rfl rfl ?_)))
        refine D_nil fun w5 hw5 => ?_
        exact G_inv ⟨rfl, hw4.trans hw5, _, with_self ⟨rfl, rfl, rfl, rfl,  congrArg Value.bool (hhead _ (by simp only [head6, c1, hdp, c2]; rfl)), trivial⟩⟩
      | false =>
        (repeat (first | (refine cD_guard ?_; refine D_unwanted rfl rfl ?_) | (refine cD_move ?_; refine D_val0 (fun _ _ => R_move) rfl rfl ?_) | (refine cD_load ?_; first | refine D_val0 (fun w he => R_load rfl ((hAg4 w he).hcell (hdc 0 _ rfl))) rfl rfl ?_ | refine D_val0 (fun w he => R_loadH (hAg4 w he) rfl (by assumption) (by rfl)) rfl rfl ?_) | (refine cD_fieldAddr ?_; refine D_val0 (fun _ _ => R_fa rfl) rfl rfl ?_) | (refine cD_assign ?_; refine D_val0 (fun _ _ => R_assign) rfl rfl ?_) | (refine cD_call ?_; refine D_val0 (fun _ _ => R_len rfl) rfl rfl ?_) | (refine cD_pick ?_; first | refine D_val0 (fun _ _ => R_pickT rfl) rfl rfl ?_ | refine D_val0 (fun _ _ => R_pickF rfl) rfl rfl ?_) | (refine cD_eql ?_; first | refine D_valB (fun _ _ => R_eqI rfl rfl) c1 rfl rfl ?_ | refine D_val0 (fun _ _ => R_eqPN rfl rfl) rfl rfl ?_ | refine D_val0 (fun _ _ => R_eqI rfl rfl) rfl rfl ?_ | refine D_val0 (fun _ _ => R_eqB rfl rfl) rfl rfl ?_ | refine D_val0 (fun _ _ => R_eqIfN rfl rfl) rfl rfl ?_ | refine D_val0 (fun _ _ => R_eqIfNN rfl) rfl rfl ?_) | (refine cD_neq ?_; first | refine D_valB (fun _ _ => R_neI rfl rfl) c2 rfl rfl ?_ | refine D_val0 (fun _ _ => R_nePN rfl rfl) rfl rfl ?_ | refine D_val0 (fun _ _ => R_neI rfl rfl) rfl rfl ?_ | refine D_val0 (fun _ _ => R_neB rfl rfl) rfl rfl ?_ | refine D_val0 (fun _ _ => R_neIfN rfl rfl) rfl rfl ?_ | refine D_val0 (fun _ _ => R_neIfNN rfl) rfl rfl ?_) | (refine cD_lss ?_; refine D_val0 (fun _ _ => R_ltI rfl rfl) rfl rfl ?_) | (refine cD_indexAddr ?_; refine D_val0 (fun _ _ => R_ia rfl rfl hn0.1 hn0.2) rfl rfl ?_) | (refine cD_not ?_; refine D_val0 (fun _ _ => R_not rfl) rfl rfl ?_) | (refine cD_add ?_; refine D_val0 (fun _ _ => R_addI rfl rfl) rfl rfl ?_) | (refine cD_sub ?_; refine D_val0 (fun _ _ => R_subI rfl rfl) rfl rfl ?_) | (refine cD_gtr ?_; refine D_val0 (fun _ _ => R_gtI rfl rfl) rfl rfl ?_) | (refine cD_geq ?_; refine D_val0 (fun _ _ => R_geI rfl rfl) rfl rfl ?_)))
        refine D_nil fun w5 hw5 => ?_
        exact G_inv ⟨rfl, hw4.trans hw5, _, with_self ⟨rfl, rfl, rfl, rfl,  congrArg Value.bool (hhead _ (by simp only [head6, c1, hdp, c2]; rfl)), trivial⟩⟩
  rintro f ds0 w5 ⟨rfl, hw5, f0, rfl⟩
  have hA5 := hA2.ext0 hw5
  cases e6 : head6 ds x.k x.n x.es.length with
  | true =>
    rw [headB_false6 e6]
    (repeat (first | (refine cL ?_; first | (refine cL_guard ?_; refine L_unwanted rfl rfl rfl ?_) | (refine cL_move ?_; refine L_val R_move rfl rfl rfl ?_) | (refine cL_load ?_; first | refine L_val (R_loadB rfl (by assumption) (by rfl)) rfl rfl rfl ?_ | refine L_val (R_loadH (by assumption) rfl (by assumption) (by rfl)) rfl rfl rfl ?_) | (refine cL_fieldAddr ?_; refine L_val (R_fa rfl) rfl rfl rfl ?_) | (refine cL_assign ?_; refine L_val R_assign rfl rfl rfl ?_) | (refine cL_call ?_; refine L_val (R_len rfl) rfl rfl rfl ?_) | (refine cL_pick ?_; first | refine L_val (R_pickT rfl) rfl rfl rfl ?_ | refine L_val (R_pickF rfl) rfl rfl rfl ?_) | (refine cL_eql ?_; first | refine L_val (R_eqPN rfl rfl) rfl rfl rfl ?_ | refine L_val (R_eqI rfl rfl) rfl rfl rfl ?_ | refine L_val (R_eqB rfl rfl) rfl rfl rfl ?_ | refine L_val (R_eqIfN rfl rfl) rfl rfl rfl ?_ | refine L_val (R_eqIfNN rfl) rfl rfl rfl ?_) | (refine cL_neq ?_; first | refine L_val (R_nePN rfl rfl) rfl rfl rfl ?_ | refine L_val (R_neI rfl rfl) rfl rfl rfl ?_ | refine L_val (R_neB rfl rfl) rfl rfl rfl ?_ | refine L_val (R_neIfN rfl rfl) rfl rfl rfl ?_ | refine L_val (R_neIfNN rfl) rfl rfl rfl ?_) | (refine cL_lss ?_; refine L_val (R_ltI rfl rfl) rfl rfl rfl ?_) | (refine cL_not ?_; refine L_val (R_not rfl) rfl rfl rfl ?_) | (refine cL_add ?_; refine L_val (R_addI rfl rfl) rfl rfl rfl ?_) | (refine cL_sub ?_; refine L_val (R_subI rfl rfl) rfl rfl rfl ?_) | (refine cL_gtr ?_; refine L_val (R_gtI rfl rfl) rfl rfl rfl ?_) | (refine cL_geq ?_; refine L_val (R_geI rfl rfl) rfl rfl rfl ?_) | refine L_nil ?_) | refine G_seq ?_ | refine G_region ?_ | refine G_skip ?_ | refine G_block ?_ | refine G_end ?_ | refine G_true rfl ?_ | refine G_false rfl ?_))
    (refine G_retF rfl ?_)
    exact ⟨_, rfl, rfl, hex2.trans hw5⟩
  | false =>
  refine G_false rfl ?_
  refine G_seq ?_
  refine G_cut1 (fun f ds0 w0 => ds0 = [] ∧ Ext No w2 w0 ∧ ∃ f0, f = with_ [(0, .slice p ds.length dcap), (2, .int .i64 params), (3, .int .i64 own), (5, ptr b5), (76, .bool (head8 x.k x.c x.b x.es))] f0) ?_ ?_
  · have hhead : ∀ bb, head8 x.k x.c x.b x.es = bb → bb = head8 x.k x.c x.b x.es := fun _ h => h.symm
    cases c1 : (x.k == 10) with
    | false =>
      (repeat (first | (refine cL ?_; first | (refine cL_guard ?_; refine L_unwanted rfl rfl rfl ?_) | (refine cL_move ?_; refine L_val R_move rfl rfl rfl ?_) | (refine cL_load ?_; first | refine L_val (R_loadB rfl (by assumption) (by rfl)) rfl rfl rfl ?_ | refine L_val (R_loadH (by assumption) rfl (by assumption) (by rfl)) rfl rfl rfl ?_) | (refine cL_fieldAddr ?_; refine L_val (R_fa rfl) rfl rfl rfl ?_) | (refine cL_assign ?_; refine L_val R_assign rfl rfl rfl ?_) | (refine cL_call ?_; refine L_val (R_len rfl) rfl rfl rfl ?_) | (refine cL_pick ?_; first | refine L_val (R_pickT rfl) rfl rfl rfl ?_ | refine L_val (R_pickF rfl) rfl rfl rfl ?_) | (refine cL_eql ?_; first | refine L_valB (R_eqI rfl rfl) c1 rfl rfl rfl ?_ | refine L_val (R_eqPN rfl rfl) rfl rfl rfl ?_ | refine L_val (R_eqI rfl rfl) rfl rfl rfl ?_ | refine L_val (R_eqB rfl rfl) rfl rfl rfl ?_ | refine L_val (R_eqIfN rfl rfl) rfl rfl rfl ?_ | refine L_val (R_eqIfNN rfl) rfl rfl rfl ?_) | (refine cL_neq ?_; first | refine L_val (R_nePN rfl rfl) rfl rfl rfl ?_ | refine L_val (R_neI rfl rfl) rfl rfl rfl ?_ | refine L_val (R_neB rfl rfl) rfl rfl rfl ?_ | refine L_val (R_neIfN rfl rfl) rfl rfl rfl ?_ | refine L_val (R_neIfNN rfl) rfl rfl rfl ?_) | (refine cL_lss ?_; refine L_val (R_ltI rfl rfl) rfl rfl rfl ?_) | (refine cL_not ?_; refine L_val (R_not rfl) rfl rfl rfl ?_) | (refine cL_add ?_; refine L_val (R_addI rfl rfl) rfl rfl rfl ?_) | (refine cL_sub ?_; refine L_val (R_subI rfl rfl) rfl rfl rfl ?_) | (refine cL_gtr ?_; refine L_val (R_gtI rfl rfl) rfl rfl rfl ?_) | (refine cL_geq ?_; refine L_val (R_geI rfl rfl) rfl rfl rfl ?_) | refine L_nil ?_) | refine G_seq ?_ | refine G_region ?_ | refine G_skip ?_ | refine G_block ?_ | refine G_end ?_ | refine G_true rfl ?_ | refine G_false rfl ?_))
      exact G_inv ⟨rfl, hw5, _, with_self ⟨rfl, rfl, rfl, rfl,  congrArg Value.bool (hhead _ (by simp only [head8, c1]; rfl)), trivial⟩⟩
    | true =>
      cases c2 : decide (x.c < 0) with
      | true =>
        (repeat (first | (refine cL ?_; first | (refine cL_guard ?_; refine L_unwanted rfl rfl rfl ?_) | (refine cL_move ?_; refine L_val R_move rfl rfl rfl ?_) | (refine cL_load ?_; first | refine L_val (R_loadB rfl (by assumption) (by rfl)) rfl rfl rfl ?_ | refine L_val (R_loadH (by assumption) rfl (by assumption) (by rfl)) rfl rfl rfl ?_) | (refine cL_fieldAddr ?_; refine L_val (R_fa rfl) rfl rfl rfl ?_) | (refine cL_assign ?_; refine L_val R_assign rfl rfl rfl ?_) | (refine cL_call ?_; refine L_val (R_len rfl) rfl rfl rfl ?_) | (refine cL_pick ?_; first | refine L_val (R_pickT rfl) rfl rfl rfl ?_ | refine L_val (R_pickF rfl) rfl rfl rfl ?_) | (refine cL_eql ?_; first | refine L_valB (R_eqI rfl rfl) c1 rfl rfl rfl ?_ | refine L_val (R_eqPN rfl rfl) rfl rfl rfl ?_ | refine L_val (R_eqI rfl rfl) rfl rfl rfl ?_ | refine L_val (R_eqB rfl rfl) rfl rfl rfl ?_ | refine L_val (R_eqIfN rfl rfl) rfl rfl rfl ?_ | refine L_val (R_eqIfNN rfl) rfl rfl rfl ?_) | (refine cL_neq ?_; first | refine L_val (R_nePN rfl rfl) rfl rfl rfl ?_ | refine L_val (R_neI rfl rfl) rfl rfl rfl ?_ | refine L_val (R_neB rfl rfl) rfl rfl rfl ?_ | refine L_val (R_neIfN rfl rfl) rfl rfl rfl ?_ | refine L_val (R_neIfNN rfl) rfl rfl rfl ?_) | (refine cL_lss ?_; first | refine L_valB (R_ltI rfl rfl) c2 rfl rfl rfl ?_ | refine L_val (R_ltI rfl rfl) rfl rfl rfl ?_) | (refine cL_not ?_; refine L_val (R_not rfl) rfl rfl rfl ?_) | (refine cL_add ?_; refine L_val (R_addI rfl rfl) rfl rfl rfl ?_) | (refine cL_sub ?_; refine L_val (R_subI rfl rfl) rfl rfl rfl ?_) | (refine cL_gtr ?_; refine L_val (R_gtI rfl rfl) rfl rfl rfl ?_) | (refine cL_geq ?_; refine L_val (R_geI rfl rfl) rfl rfl rfl ?_) | refine L_nil ?_) | refine G_seq ?_ | refine G_region ?_ | refine G_skip ?_ | refine G_block ?_ | refine G_end ?_ | refine G_true rfl ?_ | refine G_false rfl ?_))
        exact G_inv ⟨rfl, hw5, _, with_self ⟨rfl, rfl, rfl, rfl,  congrArg Value.bool (hhead _ (by simp only [head8, c1, c2]; rfl)), trivial⟩⟩
      | false =>
        cases c3 : decide (x.c > x.es.length) with
        | true =>
          (repeat (first | (refine cL ?_; first | (refine cL_guard ?_; refine L_unwanted rfl rfl rfl ?_) | (refine cL_move ?_; refine L_val R_move rfl rfl rfl ?_) | (refine cL_load ?_; first | refine L_val (R_loadB rfl (by assumption) (by rfl)) rfl rfl rfl ?_ | refine L_val (R_loadH (by assumption) rfl (by assumption) (by rfl)) rfl rfl rfl ?_) | (refine cL_fieldAddr ?_; refine L_val (R_fa rfl) rfl rfl rfl ?_) | (refine cL_assign ?_; refine L_val R_assign rfl rfl rfl ?_) | (refine cL_call ?_; refine L_val (R_len rfl) rfl rfl rfl ?_) | (refine cL_pick ?_; first | refine L_val (R_pickT rfl) rfl rfl rfl ?_ | refine L_val (R_pickF rfl) rfl rfl rfl ?_) | (refine cL_eql ?_; first | refine L_valB (R_eqI rfl rfl) c1 rfl rfl rfl ?_ | refine L_val (R_eqPN rfl rfl) rfl rfl rfl ?_ | refine L_val (R_eqI rfl rfl) rfl rfl rfl ?_ | refine L_val (R_eqB rfl rfl) rfl rfl rfl ?_ | refine L_val (R_eqIfN rfl rfl) rfl rfl rfl ?_ | refine L_val (R_eqIfNN rfl) rfl rfl rfl ?_) | (refine cL_neq ?_; first | refine L_val (R_nePN rfl rfl) rfl rfl rfl ?_ | refine L_val (R_neI rfl rfl) rfl rfl rfl ?_ | refine L_val (R_neB rfl rfl) rfl rfl rfl ?_ | refine L_val (R_neIfN rfl rfl) rfl rfl rfl ?_ | refine L_val (R_neIfNN rfl) rfl rfl rfl ?_) | (refine cL_lss ?_; first | refine L_valB (R_ltI rfl rfl) c2 rfl rfl rfl ?_ | refine L_val (R_ltI rfl rfl) rfl rfl rfl ?_) | (refine cL_not ?_; refine L_val (R_not rfl) rfl rfl rfl ?_) | (refine cL_add ?_; refine L_val (R_addI rfl rfl) rfl rfl rfl ?_) | (refine cL_sub ?_; refine L_val (R_subI rfl rfl) rfl rfl rfl ?_) | (refine cL_gtr ?_; first | refine L_valB (R_gtI rfl rfl) c3 rfl rfl rfl ?_ | refine L_val (R_gtI rfl rfl) rfl rfl rfl ?_) | (refine cL_geq ?_; refine L_val (R_geI rfl rfl) rfl rfl rfl ?_) | refine L_nil ?_) | refine G_seq ?_ | refine G_region ?_ | refine G_skip ?_ | refine G_block ?_ | refine G_end ?_ | refine G_true rfl ?_ | refine G_false rfl ?_))
          exact G_inv ⟨rfl, hw5, _, with_self ⟨rfl, rfl, rfl, rfl,  congrArg Value.bool (hhead _ (by simp only [head8, c1, c2, c3]; rfl)), trivial⟩⟩
        | false =>
          obtain ⟨bb, c4⟩ : ∃ bb, x.b = bb := ⟨_, rfl⟩
          cases bb with
          | false =>
            rw [c4] at hb5
            (repeat (first | (refine cL ?_; first | (refine cL_guard ?_; refine L_unwanted rfl rfl rfl ?_) | (refine cL_move ?_; refine L_val R_move rfl rfl rfl ?_) | (refine cL_load ?_; first | refine L_val (R_loadB rfl (by assumption) (by rfl)) rfl rfl rfl ?_ | refine L_val (R_loadH (by assumption) rfl (by assumption) (by rfl)) rfl rfl rfl ?_) | (refine cL_fieldAddr ?_; refine L_val (R_fa rfl) rfl rfl rfl ?_) | (refine cL_assign ?_; refine L_val R_assign rfl rfl rfl ?_) | (refine cL_call ?_; refine L_val (R_len rfl) rfl rfl rfl ?_) | (refine cL_pick ?_; first | refine L_val (R_pickT rfl) rfl rfl rfl ?_ | refine L_val (R_pickF rfl) rfl rfl rfl ?_) | (refine cL_eql ?_; first | refine L_valB (R_eqI rfl rfl) c1 rfl rfl rfl ?_ | refine L_val (R_eqPN rfl rfl) rfl rfl rfl ?_ | refine L_val (R_eqI rfl rfl) rfl rfl rfl ?_ | refine L_val (R_eqB rfl rfl) rfl rfl rfl ?_ | refine L_val (R_eqIfN rfl rfl) rfl rfl rfl ?_ | refine L_val (R_eqIfNN rfl) rfl rfl rfl ?_) | (refine cL_neq ?_; first | refine L_val (R_nePN rfl rfl) rfl rfl rfl ?_ | refine L_val (R_neI rfl rfl) rfl rfl rfl ?_ | refine L_val (R_neB rfl rfl) rfl rfl rfl ?_ | refine L_val (R_neIfN rfl rfl) rfl rfl rfl ?_ | refine L_val (R_neIfNN rfl) rfl rfl rfl ?_) | (refine cL_lss ?_; first | refine L_valB (R_ltI rfl rfl) c2 rfl rfl rfl ?_ | refine L_val (R_ltI rfl rfl) rfl rfl rfl ?_) | (refine cL_not ?_; refine L_val (R_not rfl) rfl rfl rfl ?_) | (refine cL_add ?_; refine L_val (R_addI rfl rfl) rfl rfl rfl ?_) | (refine cL_sub ?_; refine L_val (R_subI rfl rfl) rfl rfl rfl ?_) | (refine cL_gtr ?_; first | refine L_valB (R_gtI rfl rfl) c3 rfl rfl rfl ?_ | refine L_val (R_gtI rfl rfl) rfl rfl rfl ?_) | (refine cL_geq ?_; refine L_val (R_geI rfl rfl) rfl rfl rfl ?_) | refine L_nil ?_) | refine G_seq ?_ | refine G_region ?_ | refine G_skip ?_ | refine G_block ?_ | refine G_end ?_ | refine G_true rfl ?_ | refine G_false rfl ?_))
            exact G_inv ⟨rfl, hw5, _, with_self ⟨rfl, rfl, rfl, rfl,  congrArg Value.bool (hhead _ (by simp only [head8, c1, c2, c3, c4]; rfl)), trivial⟩⟩
          | true =>
            rw [c4] at hb5
            cases c5 : (x.c == 0) with
            | true =>
              (repeat (first | (refine cL ?_; first | (refine cL_guard ?_; refine L_unwanted rfl rfl rfl ?_) | (refine cL_move ?_; refine L_val R_move rfl rfl rfl ?_) | (refine cL_load ?_; first | refine L_val (R_loadB rfl (by assumption) (by rfl)) rfl rfl rfl ?_ | refine L_val (R_loadH (by assumption) rfl (by assumption) (by rfl)) rfl rfl rfl ?_) | (refine cL_fieldAddr ?_; refine L_val (R_fa rfl) rfl rfl rfl ?_) | (refine cL_assign ?_; refine L_val R_assign rfl rfl rfl ?_) | (refine cL_call ?_; refine L_val (R_len rfl) rfl rfl rfl ?_) | (refine cL_pick ?_; first | refine L_val (R_pickT rfl) rfl rfl rfl ?_ | refine L_val (R_pickF rfl) rfl rfl rfl ?_) | (refine cL_eql ?_; first | refine L_valB (R_eqI rfl rfl) c1 rfl rfl rfl ?_ | refine L_valB (R_eqI rfl rfl) c5 rfl rfl rfl ?_ | refine L_val (R_eqPN rfl rfl) rfl rfl rfl ?_ | refine L_val (R_eqI rfl rfl) rfl rfl rfl ?_ | refine L_val (R_eqB rfl rfl) rfl rfl rfl ?_ | refine L_val (R_eqIfN rfl rfl) rfl rfl rfl ?_ | refine L_val (R_eqIfNN rfl) rfl rfl rfl ?_) | (refine cL_neq ?_; first | refine L_val (R_nePN rfl rfl) rfl rfl rfl ?_ | refine L_val (R_neI rfl rfl) rfl rfl rfl ?_ | refine L_val (R_neB rfl rfl) rfl rfl rfl ?_ | refine L_val (R_neIfN rfl rfl) rfl rfl rfl ?_ | refine L_val (R_neIfNN rfl) rfl rfl rfl ?_) | (refine cL_lss ?_; first | refine L_valB (R_ltI rfl rfl) c2 rfl rfl rfl ?_ | refine L_val (R_ltI rfl rfl) rfl rfl rfl ?_) | (refine cL_not ?_; refine L_val (R_not rfl) rfl rfl rfl ?_) | (refine cL_add ?_; refine L_val (R_addI rfl rfl) rfl rfl rfl ?_) | (refine cL_sub ?_; refine L_val (R_subI rfl rfl) rfl rfl rfl ?_) | (refine cL_gtr ?_; first | refine L_valB (R_gtI rfl rfl) c3 rfl rfl rfl ?_ | refine L_val (R_gtI rfl rfl) rfl rfl rfl ?_) | (refine cL_geq ?_; refine L_val (R_geI rfl rfl) rfl rfl rfl ?_) | refine L_nil ?_) | refine G_seq ?_ | refine G_region ?_ | refine G_skip ?_ | refine G_block ?_ | refine G_end ?_ | refine G_true rfl ?_ | refine G_false rfl ?_))
              exact G_inv ⟨rfl, hw5, _, with_self ⟨rfl, rfl, rfl, rfl,  congrArg Value.bool (hhead _ (by simp only [head8, c1, c2, c3, c4, c5]; rfl)), trivial⟩⟩
            | false =>
              have hcr : 0 ≤ x.c - 1 ∧ x.c - 1 < x.es.length := by
                simp at c2 c3 c5
                omega
              obtain ⟨e, he⟩ : ∃ e, x.es[(x.c - 1).toNat]? = some e := ⟨_, List.getElem?_eq_getElem (by omega)⟩
              obtain ⟨bk, off, ec, rfl, hec, hed⟩ := hes1.get he
              obtain ⟨q, qcap, rfl, -, -, -, -, -⟩ := hed.cells
              have hek : ((x.es[(x.c - 1).toNat]?.map Ty.k).getD 0) = e.k := by rw [he]; rfl
              have hwr : Value.int .i64 (IntKind.i64.wrap (x.c - 1)) = .int .i64 (x.c - 1) := by rw [wrap_i64 (by omega) (by omega)]
              cases c6 : (e.k != 5) with
              | true =>
                (repeat (first | (refine cL ?_; first | (refine cL_guard ?_; refine L_unwanted rfl rfl rfl ?_) | (refine cL_move ?_; refine L_val R_move rfl rfl rfl ?_) | (refine cL_load ?_; first | refine L_val (R_load rfl (hA5.hcell (hec 0 _ rfl))) rfl rfl rfl ?_ | refine L_val (R_loadB rfl (by assumption) (by rfl)) rfl rfl rfl ?_ | refine L_val (R_loadH (by assumption) rfl (by assumption) (by rfl)) rfl rfl rfl ?_) | (refine cL_fieldAddr ?_; refine L_val (R_fa rfl) rfl rfl rfl ?_) | (refine cL_assign ?_; refine L_val R_assign rfl rfl rfl ?_) | (refine cL_call ?_; refine L_val (R_len rfl) rfl rfl rfl ?_) | (refine cL_pick ?_; first | refine L_val (R_pickT rfl) rfl rfl rfl ?_ | refine L_val (R_pickF rfl) rfl rfl rfl ?_) | (refine cL_eql ?_; first | refine L_valB (R_eqI rfl rfl) c1 rfl rfl rfl ?_ | refine L_valB (R_eqI rfl rfl) c5 rfl rfl rfl ?_ | refine L_val (R_eqPN rfl rfl) rfl rfl rfl ?_ | refine L_val (R_eqI rfl rfl) rfl rfl rfl ?_ | refine L_val (R_eqB rfl rfl) rfl rfl rfl ?_ | refine L_val (R_eqIfN rfl rfl) rfl rfl rfl ?_ | refine L_val (R_eqIfNN rfl) rfl rfl rfl ?_) | (refine cL_neq ?_; first | refine L_valB (R_neI rfl rfl) c6 rfl rfl rfl ?_ | refine L_val (R_nePN rfl rfl) rfl rfl rfl ?_ | refine L_val (R_neI rfl rfl) rfl rfl rfl ?_ | refine L_val (R_neB rfl rfl) rfl rfl rfl ?_ | refine L_val (R_neIfN rfl rfl) rfl rfl rfl ?_ | refine L_val (R_neIfNN rfl) rfl rfl rfl ?_) | (refine cL_lss ?_; first | refine L_valB (R_ltI rfl rfl) c2 rfl rfl rfl ?_ | refine L_val (R_ltI rfl rfl) rfl rfl rfl ?_) | (refine cL_indexAddr ?_; refine L_val (R_ia rfl rfl hcr.1 hcr.2) rfl rfl rfl ?_) | (refine cL_not ?_; refine L_val (R_not rfl) rfl rfl rfl ?_) | (refine cL_add ?_; refine L_val (R_addI rfl rfl) rfl rfl rfl ?_) | (refine cL_sub ?_; first | refine L_valE (R_subI rfl rfl) hwr rfl rfl rfl ?_ | refine L_val (R_subI rfl rfl) rfl rfl rfl ?_) | (refine cL_gtr ?_; first | refine L_valB (R_gtI rfl rfl) c3 rfl rfl rfl ?_ | refine L_val (R_gtI rfl rfl) rfl rfl rfl ?_) | (refine cL_geq ?_; refine L_val (R_geI rfl rfl) rfl rfl rfl ?_) | refine L_nil ?_) | refine G_seq ?_ | refine G_region ?_ | refine G_skip ?_ | refine G_block ?_ | refine G_end ?_ | refine G_true rfl ?_ | refine G_false rfl ?_))
                exact G_inv ⟨rfl, hw5, _, with_self ⟨rfl, rfl, rfl, rfl,  congrArg Value.bool (hhead _ (by simp only [head8, c1, c2, c3, c4, c5, hek, c6]; rfl)), trivial⟩⟩
              | false =>
                (repeat (first | (refine cL ?_; first | (refine cL_guard ?_; refine L_unwanted rfl rfl rfl ?_) | (refine cL_move ?_; refine L_val R_move rfl rfl rfl ?_) | (refine cL_load ?_; first | refine L_val (R_load rfl (hA5.hcell (hec 0 _ rfl))) rfl rfl rfl ?_ | refine L_val (R_loadB rfl (by assumption) (by rfl)) rfl rfl rfl ?_ | refine L_val (R_loadH (by assumption) rfl (by assumption) (by rfl)) rfl rfl rfl ?_) | (refine cL_fieldAddr ?_; refine L_val (R_fa rfl) rfl rfl rfl ?_) | (refine cL_assign ?_; refine L_val R_assign rfl rfl rfl ?_) | (refine cL_call ?_; refine L_val (R_len rfl) rfl rfl rfl ?_) | (refine cL_pick ?_; first | refine L_val (R_pickT rfl) rfl rfl rfl ?_ | refine L_val (R_pickF rfl) rfl rfl rfl ?_) | (refine cL_eql ?_; first | refine L_valB (R_eqI rfl rfl) c1 rfl rfl rfl ?_ | refine L_valB (R_eqI rfl rfl) c5 rfl rfl rfl ?_ | refine L_val (R_eqPN rfl rfl) rfl rfl rfl ?_ | refine L_val (R_eqI rfl rfl) rfl rfl rfl ?_ | refine L_val (R_eqB rfl rfl) rfl rfl rfl ?_ | refine L_val (R_eqIfN rfl rfl) rfl rfl rfl ?_ | refine L_val (R_eqIfNN rfl) rfl rfl rfl ?_) | (refine cL_neq ?_; first | refine L_valB (R_neI rfl rfl) c6 rfl rfl rfl ?_ | refine L_val (R_nePN rfl rfl) rfl rfl rfl ?_ | refine L_val (R_neI rfl rfl) rfl rfl rfl ?_ | refine L_val (R_neB rfl rfl) rfl rfl rfl ?_ | refine L_val (R_neIfN rfl rfl) rfl rfl rfl ?_ | refine L_val (R_neIfNN rfl) rfl rfl rfl ?_) | (refine cL_lss ?_; first | refine L_valB (R_ltI rfl rfl) c2 rfl rfl rfl ?_ | refine L_val (R_ltI rfl rfl) rfl rfl rfl ?_) | (refine cL_indexAddr ?_; refine L_val (R_ia rfl rfl hcr.1 hcr.2) rfl rfl rfl ?_) | (refine cL_not ?_; refine L_val (R_not rfl) rfl rfl rfl ?_) | (refine cL_add ?_; refine L_val (R_addI rfl rfl) rfl rfl rfl ?_) | (refine cL_sub ?_; first | refine L_valE (R_subI rfl rfl) hwr rfl rfl rfl ?_ | refine L_val (R_subI rfl rfl) rfl rfl rfl ?_) | (refine cL_gtr ?_; first | refine L_valB (R_gtI rfl rfl) c3 rfl rfl rfl ?_ | refine L_val (R_gtI rfl rfl) rfl rfl rfl ?_) | (refine cL_geq ?_; refine L_val (R_geI rfl rfl) rfl rfl rfl ?_) | refine L_nil ?_) | refine G_seq ?_ | refine G_region ?_ | refine G_skip ?_ | refine G_block ?_ | refine G_end ?_ | refine G_true rfl ?_ | refine G_false rfl ?_))
                exact G_inv ⟨rfl, hw5, _, with_self ⟨rfl, rfl, rfl, rfl,  congrArg Value.bool (hhead _ (by simp only [head8, c1, c2, c3, c4, c5, hek, c6]; rfl)), trivial⟩⟩
  rintro f ds0 w6 ⟨rfl, hw6, f0, rfl⟩
  have hA6 := hA2.ext0 hw6
  cases e8 : head8 x.k x.c x.b x.es with
  | true =>
    rw [headB_false8 e8]
    (repeat (first | (refine cL ?_; first | (refine cL_guard ?_; refine L_unwanted rfl rfl rfl ?_) | (refine cL_move ?_; refine L_val R_move rfl rfl rfl ?_) | (refine cL_load ?_; first | refine L_val (R_loadB rfl (by assumption) (by rfl)) rfl rfl rfl ?_ | refine L_val (R_loadH (by assumption) rfl (by assumption) (by rfl)) rfl rfl rfl ?_) | (refine cL_fieldAddr ?_; refine L_val (R_fa rfl) rfl rfl rfl ?_) | (refine cL_assign ?_; refine L_val R_assign rfl rfl rfl ?_) | (refine cL_call ?_; refine L_val (R_len rfl) rfl rfl rfl ?_) | (refine cL_pick ?_; first | refine L_val (R_pickT rfl) rfl rfl rfl ?_ | refine L_val (R_pickF rfl) rfl rfl rfl ?_) | (refine cL_eql ?_; first | refine L_val (R_eqPN rfl rfl) rfl rfl rfl ?_ | refine L_val (R_eqI rfl rfl) rfl rfl rfl ?_ | refine L_val (R_eqB rfl rfl) rfl rfl rfl ?_ | refine L_val (R_eqIfN rfl rfl) rfl rfl rfl ?_ | refine L_val (R_eqIfNN rfl) rfl rfl rfl ?_) | (refine cL_neq ?_; first | refine L_val (R_nePN rfl rfl) rfl rfl rfl ?_ | refine L_val (R_neI rfl rfl) rfl rfl rfl ?_ | refine L_val (R_neB rfl rfl) rfl rfl rfl ?_ | refine L_val (R_neIfN rfl rfl) rfl rfl rfl ?_ | refine L_val (R_neIfNN rfl) rfl rfl rfl ?_) | (refine cL_lss ?_; refine L_val (R_ltI rfl rfl) rfl rfl rfl ?_) | (refine cL_not ?_; refine L_val (R_not rfl) rfl rfl rfl ?_) | (refine cL_add ?_; refine L_val (R_addI rfl rfl) rfl rfl rfl ?_) | (refine cL_sub ?_; refine L_val (R_subI rfl rfl) rfl rfl rfl ?_) | (refine cL_gtr ?_; refine L_val (R_gtI rfl rfl) rfl rfl rfl ?_) | (refine cL_geq ?_; refine L_val (R_geI rfl rfl) rfl rfl rfl ?_) | refine L_nil ?_) | refine G_seq ?_ | refine G_region ?_ | refine G_skip ?_ | refine G_block ?_ | refine G_end ?_ | refine G_true rfl ?_ | refine G_false rfl ?_))
    (refine G_retF rfl ?_)
    exact ⟨_, rfl, rfl, hex2.trans hw6⟩
  | false =>
  rw [headB_true e2 e4 e6 e8, Bool.true_and]
  (repeat (first | (refine cL ?_; first | (refine cL_guard ?_; refine L_unwanted rfl rfl rfl ?_) | (refine cL_move ?_; refine L_val R_move rfl rfl rfl ?_) | (refine cL_load ?_; first | refine L_val (R_loadB rfl (by assumption) (by rfl)) rfl rfl rfl ?_ | refine L_val (R_loadH (by assumption) rfl (by assumption) (by rfl)) rfl rfl rfl ?_) | (refine cL_fieldAddr ?_; refine L_val (R_fa rfl) rfl rfl rfl ?_) | (refine cL_assign ?_; refine L_val R_assign rfl rfl rfl ?_) | (refine cL_call ?_; refine L_val (R_len rfl) rfl rfl rfl ?_) | (refine cL_pick ?_; first | refine L_val (R_pickT rfl) rfl rfl rfl ?_ | refine L_val (R_pickF rfl) rfl rfl rfl ?_) | (refine cL_eql ?_; first | refine L_val (R_eqPN rfl rfl) rfl rfl rfl ?_ | refine L_val (R_eqI rfl rfl) rfl rfl rfl ?_ | refine L_val (R_eqB rfl rfl) rfl rfl rfl ?_ | refine L_val (R_eqIfN rfl rfl) rfl rfl rfl ?_ | refine L_val (R_eqIfNN rfl) rfl rfl rfl ?_) | (refine cL_neq ?_; first | refine L_val (R_nePN rfl rfl) rfl rfl rfl ?_ | refine L_val (R_neI rfl rfl) rfl rfl rfl ?_ | refine L_val (R_neB rfl rfl) rfl rfl rfl ?_ | refine L_val (R_neIfN rfl rfl) rfl rfl rfl ?_ | refine L_val (R_neIfNN rfl) rfl rfl rfl ?_) | (refine cL_lss ?_; refine L_val (R_ltI rfl rfl) rfl rfl rfl ?_) | (refine cL_not ?_; refine L_val (R_not rfl) rfl rfl rfl ?_) | (refine cL_add ?_; refine L_val (R_addI rfl rfl) rfl rfl rfl ?_) | (refine cL_sub ?_; refine L_val (R_subI rfl rfl) rfl rfl rfl ?_) | (refine cL_gtr ?_; refine L_val (R_gtI rfl rfl) rfl rfl rfl ?_) | (refine cL_geq ?_; refine L_val (R_geI rfl rfl) rfl rfl rfl ?_) | refine L_nil ?_) | refine G_seq ?_ | refine G_region ?_ | refine G_skip ?_ | refine G_block ?_ | refine G_end ?_ | refine G_true rfl ?_ | refine G_false rfl ?_))
  refine G_loop (CountI 116 115 x.es.length [(0, .slice p ds.length dcap), (2, .int .i64 params), (3, .int .i64 own), (5, ptr b5), (114, .slice p' x.es.length cap)] w6 fun i => ∀ j, j < i → partB ds params own x.k x.es j = true) (fun f _ _ => countM 116 115 f)
    ⟨rfl, Ext.refl _ _, _, 0, with_self ⟨rfl, rfl, rfl, rfl, rfl, rfl, rfl, trivial⟩, Nat.zero_le _, fun j hj => absurd hj (Nat.not_lt_zero j)⟩ ?_
  rintro f ds0 wr ⟨rfl, hext, f0, i, rfl, hi, hJ⟩
  have hAr := hA6.ext0 hext
  have hexr := hex2.trans (hw6.trans hext)
  by_cases h : i < x.es.length
  · have hb : decide ((i : Int) < (x.es.length : Int)) = true := decide_eq_true (by omega)
    obtain ⟨e, he⟩ : ∃ v, x.es[i]? = some v := ⟨_, List.getElem?_eq_getElem h⟩
    obtain ⟨bk, off, ec, hp', hec, hed⟩ := hes1.get he
    obtain ⟨q, qcap, rfl, -, -, -, -, -⟩ := hed.cells
    subst hp'
    (repeat (first | (refine cL ?_; first | (refine cL_guard ?_; refine L_unwanted rfl rfl rfl ?_) | (refine cL_move ?_; refine L_val R_move rfl rfl rfl ?_) | (refine cL_load ?_; first | refine L_val (R_loadA rfl rfl fun j v hj => hAr.hcell (hec j v hj)) rfl rfl rfl ?_ | refine L_val (R_loadB rfl (by assumption) (by rfl)) rfl rfl rfl ?_ | refine L_val (R_loadH (by assumption) rfl (by assumption) (by rfl)) rfl rfl rfl ?_) | (refine cL_fieldAddr ?_; refine L_val (R_fa rfl) rfl rfl rfl ?_) | (refine cL_assign ?_; refine L_val R_assign rfl rfl rfl ?_) | (refine cL_call ?_; refine L_val (R_len rfl) rfl rfl rfl ?_) | (refine cL_pick ?_; first | refine L_val (R_pickT rfl) rfl rfl rfl ?_ | refine L_val (R_pickF rfl) rfl rfl rfl ?_) | (refine cL_eql ?_; first | refine L_val (R_eqPN rfl rfl) rfl rfl rfl ?_ | refine L_val (R_eqI rfl rfl) rfl rfl rfl ?_ | refine L_val (R_eqB rfl rfl) rfl rfl rfl ?_ | refine L_val (R_eqIfN rfl rfl) rfl rfl rfl ?_ | refine L_val (R_eqIfNN rfl) rfl rfl rfl ?_) | (refine cL_neq ?_; first | refine L_val (R_nePN rfl rfl) rfl rfl rfl ?_ | refine L_val (R_neI rfl rfl) rfl rfl rfl ?_ | refine L_val (R_neB rfl rfl) rfl rfl rfl ?_ | refine L_val (R_neIfN rfl rfl) rfl rfl rfl ?_ | refine L_val (R_neIfNN rfl) rfl rfl rfl ?_) | (refine cL_lss ?_; first | refine L_valB (R_ltI rfl rfl) hb rfl rfl rfl ?_ | refine L_val (R_ltI rfl rfl) rfl rfl rfl ?_) | (refine cL_indexAddr ?_; refine L_valE (R_ia rfl rfl (by omega) (by omega)) (ia6 _ _ _) rfl rfl rfl ?_) | (refine cL_not ?_; refine L_val (R_not rfl) rfl rfl rfl ?_) | (refine cL_add ?_; refine L_val (R_addI rfl rfl) rfl rfl rfl ?_) | (refine cL_sub ?_; refine L_val (R_subI rfl rfl) rfl rfl rfl ?_) | (refine cL_gtr ?_; refine L_val (R_gtI rfl rfl) rfl rfl rfl ?_) | (refine cL_geq ?_; refine L_val (R_geI rfl rfl) rfl rfl rfl ?_) | refine L_nil ?_) | refine G_seq ?_ | refine G_region ?_ | refine G_skip ?_ | refine G_block ?_ | refine G_end ?_ | refine G_true rfl ?_ | refine G_false rfl ?_))
    refine L_allocS rfl rfl fun b12 w7 hn7 => ?_
    (repeat (first | (refine cL ?_; first | (refine cL_guard ?_; refine L_unwanted rfl rfl rfl ?_) | (refine cL_move ?_; refine L_val R_move rfl rfl rfl ?_) | (refine cL_load ?_; first | refine L_val (R_loadB rfl (by assumption) (by rfl)) rfl rfl rfl ?_ | refine L_val (R_loadH (by assumption) rfl (by assumption) (by rfl)) rfl rfl rfl ?_) | (refine cL_fieldAddr ?_; refine L_val (R_fa rfl) rfl rfl rfl ?_) | (refine cL_assign ?_; refine L_val R_assign rfl rfl rfl ?_) | (refine cL_call ?_; refine L_val (R_len rfl) rfl rfl rfl ?_) | (refine cL_pick ?_; first | refine L_val (R_pickT rfl) rfl rfl rfl ?_ | refine L_val (R_pickF rfl) rfl rfl rfl ?_) | (refine cL_eql ?_; first | refine L_val (R_eqPN rfl rfl) rfl rfl rfl ?_ | refine L_val (R_eqI rfl rfl) rfl rfl rfl ?_ | refine L_val (R_eqB rfl rfl) rfl rfl rfl ?_ | refine L_val (R_eqIfN rfl rfl) rfl rfl rfl ?_ | refine L_val (R_eqIfNN rfl) rfl rfl rfl ?_) | (refine cL_neq ?_; first | refine L_val (R_nePN rfl rfl) rfl rfl rfl ?_ | refine L_val (R_neI rfl rfl) rfl rfl rfl ?_ | refine L_val (R_neB rfl rfl) rfl rfl rfl ?_ | refine L_val (R_neIfN rfl rfl) rfl rfl rfl ?_ | refine L_val (R_neIfNN rfl) rfl rfl rfl ?_) | (refine cL_lss ?_; refine L_val (R_ltI rfl rfl) rfl rfl rfl ?_) | (refine cL_not ?_; refine L_val (R_not rfl) rfl rfl rfl ?_) | (refine cL_add ?_; refine L_val (R_addI rfl rfl) rfl rfl rfl ?_) | (refine cL_sub ?_; refine L_val (R_subI rfl rfl) rfl rfl rfl ?_) | (refine cL_gtr ?_; refine L_val (R_gtI rfl rfl) rfl rfl rfl ?_) | (refine cL_geq ?_; refine L_val (R_geI rfl rfl) rfl rfl rfl ?_) | refine L_nil ?_) | refine G_seq ?_ | refine G_region ?_ | refine G_skip ?_ | refine G_block ?_ | refine G_end ?_ | refine G_true rfl ?_ | refine G_false rfl ?_))
    refine L_storeA rfl hn7.here rfl rfl rfl rfl rfl rfl fun w8 h8 e8' s8 => ?_
    obtain ⟨H8, g8, hb12⟩ := Grow.ofNew hAr (hn7.store h8 e8' s8)
    have hb5' := g8.le _ _ hb5
    have hA8 := g8.ag
    have hih := ih e (List.mem_of_getElem? he) _ ds p dcap params own H8 w8 hA8 (DTy.mono g8.le _ _ hed) (hd1.mono g8.le) hdl
    have hsh : shAt ds params own x.es i = shapedB ds params own e := by unfold shAt; rw [he]
    have hex8 := hexr.trans g8.ext
    (repeat (first | (refine cL ?_; first | (refine cL_guard ?_; refine L_unwanted rfl rfl rfl ?_) | (refine cL_move ?_; refine L_val R_move rfl rfl rfl ?_) | (refine cL_load ?_; first | refine L_val (R_loadAB rfl rfl (hA8 _ _ hb12)) rfl rfl rfl ?_ | refine L_val (R_loadB rfl (by assumption) (by rfl)) rfl rfl rfl ?_ | refine L_val (R_loadH (by assumption) rfl (by assumption) (by rfl)) rfl rfl rfl ?_) | (refine cL_fieldAddr ?_; refine L_val (R_fa rfl) rfl rfl rfl ?_) | (refine cL_assign ?_; refine L_val R_assign rfl rfl rfl ?_) | (refine cL_call ?_; refine L_val (R_len rfl) rfl rfl rfl ?_) | (refine cL_pick ?_; first | refine L_val (R_pickT rfl) rfl rfl rfl ?_ | refine L_val (R_pickF rfl) rfl rfl rfl ?_) | (refine cL_eql ?_; first | refine L_val (R_eqPN rfl rfl) rfl rfl rfl ?_ | refine L_val (R_eqI rfl rfl) rfl rfl rfl ?_ | refine L_val (R_eqB rfl rfl) rfl rfl rfl ?_ | refine L_val (R_eqIfN rfl rfl) rfl rfl rfl ?_ | refine L_val (R_eqIfNN rfl) rfl rfl rfl ?_) | (refine cL_neq ?_; first | refine L_val (R_nePN rfl rfl) rfl rfl rfl ?_ | refine L_val (R_neI rfl rfl) rfl rfl rfl ?_ | refine L_val (R_neB rfl rfl) rfl rfl rfl ?_ | refine L_val (R_neIfN rfl rfl) rfl rfl rfl ?_ | refine L_val (R_neIfNN rfl) rfl rfl rfl ?_) | (refine cL_lss ?_; refine L_val (R_ltI rfl rfl) rfl rfl rfl ?_) | (refine cL_not ?_; refine L_val (R_not rfl) rfl rfl rfl ?_) | (refine cL_add ?_; refine L_val (R_addI rfl rfl) rfl rfl rfl ?_) | (refine cL_sub ?_; refine L_val (R_subI rfl rfl) rfl rfl rfl ?_) | (refine cL_gtr ?_; refine L_val (R_gtI rfl rfl) rfl rfl rfl ?_) | (refine cL_geq ?_; refine L_val (R_geI rfl rfl) rfl rfl rfl ?_) | refine L_nil ?_) | refine G_seq ?_ | refine G_region ?_ | refine G_skip ?_ | refine G_block ?_ | refine G_end ?_ | refine G_true rfl ?_ | refine G_false rfl ?_))
    cases hs : shapedB ds params own e with
    | false =>
      rw [hs] at hih
      refine L_callQ hih rfl rfl fun w9 hw9 => ?_
      (repeat (first | (refine cL ?_; first | (refine cL_guard ?_; refine L_unwanted rfl rfl rfl ?_) | (refine cL_move ?_; refine L_val R_move rfl rfl rfl ?_) | (refine cL_load ?_; first | refine L_val (R_loadB rfl (by assumption) (by rfl)) rfl rfl rfl ?_ | refine L_val (R_loadH (by assumption) rfl (by assumption) (by rfl)) rfl rfl rfl ?_) | (refine cL_fieldAddr ?_; refine L_val (R_fa rfl) rfl rfl rfl ?_) | (refine cL_assign ?_; refine L_val R_assign rfl rfl rfl ?_) | (refine cL_call ?_; refine L_val (R_len rfl) rfl rfl rfl ?_) | (refine cL_pick ?_; first | refine L_val (R_pickT rfl) rfl rfl rfl ?_ | refine L_val (R_pickF rfl) rfl rfl rfl ?_) | (refine cL_eql ?_; first | refine L_val (R_eqPN rfl rfl) rfl rfl rfl ?_ | refine L_val (R_eqI rfl rfl) rfl rfl rfl ?_ | refine L_val (R_eqB rfl rfl) rfl rfl rfl ?_ | refine L_val (R_eqIfN rfl rfl) rfl rfl rfl ?_ | refine L_val (R_eqIfNN rfl) rfl rfl rfl ?_) | (refine cL_neq ?_; first | refine L_val (R_nePN rfl rfl) rfl rfl rfl ?_ | refine L_val (R_neI rfl rfl) rfl rfl rfl ?_ | refine L_val (R_neB rfl rfl) rfl rfl rfl ?_ | refine L_val (R_neIfN rfl rfl) rfl rfl rfl ?_ | refine L_val (R_neIfNN rfl) rfl rfl rfl ?_) | (refine cL_lss ?_; refine L_val (R_ltI rfl rfl) rfl rfl rfl ?_) | (refine cL_not ?_; refine L_val (R_not rfl) rfl rfl rfl ?_) | (refine cL_add ?_; refine L_val (R_addI rfl rfl) rfl rfl rfl ?_) | (refine cL_sub ?_; refine L_val (R_subI rfl rfl) rfl rfl rfl ?_) | (refine cL_gtr ?_; refine L_val (R_gtI rfl rfl) rfl rfl rfl ?_) | (refine cL_geq ?_; refine L_val (R_geI rfl rfl) rfl rfl rfl ?_) | refine L_nil ?_) | refine G_seq ?_ | refine G_region ?_ | refine G_skip ?_ | refine G_block ?_ | refine G_end ?_ | refine G_true rfl ?_ | refine G_false rfl ?_))
      (refine G_retF rfl ?_)
      exact ⟨_, rfl, congrArg Value.bool (allR_false h (by simp only [partB, hsh, hs]; rfl)).symm, hex8.trans hw9⟩
    | true =>
      rw [hs] at hih
      refine L_callQ hih rfl rfl fun w9 hw9 => ?_
      have hA9 := hA8.ext0 hw9
      cases c9 : (x.k == 9) with
      | false =>
        have hpart : partB ds params own x.k x.es i = true := by simp only [partB, hsh, hs, c9]; rfl
        (repeat (first | (refine cL ?_; first | (refine cL_guard ?_; refine L_unwanted rfl rfl rfl ?_) | (refine cL_move ?_; refine L_val R_move rfl rfl rfl ?_) | (refine cL_load ?_; first | refine L_val (R_loadB rfl (by assumption) (by rfl)) rfl rfl rfl ?_ | refine L_val (R_loadH (by assumption) rfl (by assumption) (by rfl)) rfl rfl rfl ?_) | (refine cL_fieldAddr ?_; refine L_val (R_fa rfl) rfl rfl rfl ?_) | (refine cL_assign ?_; refine L_val R_assign rfl rfl rfl ?_) | (refine cL_call ?_; refine L_val (R_len rfl) rfl rfl rfl ?_) | (refine cL_pick ?_; first | refine L_val (R_pickT rfl) rfl rfl rfl ?_ | refine L_val (R_pickF rfl) rfl rfl rfl ?_) | (refine cL_eql ?_; first | refine L_valB (R_eqI rfl rfl) c9 rfl rfl rfl ?_ | refine L_val (R_eqPN rfl rfl) rfl rfl rfl ?_ | refine L_val (R_eqI rfl rfl) rfl rfl rfl ?_ | refine L_val (R_eqB rfl rfl) rfl rfl rfl ?_ | refine L_val (R_eqIfN rfl rfl) rfl rfl rfl ?_ | refine L_val (R_eqIfNN rfl) rfl rfl rfl ?_) | (refine cL_neq ?_; first | refine L_val (R_nePN rfl rfl) rfl rfl rfl ?_ | refine L_val (R_neI rfl rfl) rfl rfl rfl ?_ | refine L_val (R_neB rfl rfl) rfl rfl rfl ?_ | refine L_val (R_neIfN rfl rfl) rfl rfl rfl ?_ | refine L_val (R_neIfNN rfl) rfl rfl rfl ?_) | (refine cL_lss ?_; refine L_val (R_ltI rfl rfl) rfl rfl rfl ?_) | (refine cL_not ?_; refine L_val (R_not rfl) rfl rfl rfl ?_) | (refine cL_add ?_; first | refine L_valE (R_addI rfl rfl) (succ_i64 h (by omega)) rfl rfl rfl ?_ | refine L_val (R_addI rfl rfl) rfl rfl rfl ?_) | (refine cL_sub ?_; refine L_val (R_subI rfl rfl) rfl rfl rfl ?_) | (refine cL_gtr ?_; refine L_val (R_gtI rfl rfl) rfl rfl rfl ?_) | (refine cL_geq ?_; refine L_val (R_geI rfl rfl) rfl rfl rfl ?_) | refine L_nil ?_) | refine G_seq ?_ | refine G_region ?_ | refine G_skip ?_ | refine G_block ?_ | refine G_end ?_ | refine G_true rfl ?_ | refine G_false rfl ?_))
        refine G_inv ⟨⟨rfl, hext.trans (g8.ext.trans hw9), _, i + 1, with_self ⟨rfl, rfl, rfl, rfl, rfl, rfl, rfl, trivial⟩, h, fun j hj => ?_⟩, ?_⟩
        · rcases Nat.lt_succ_iff_lt_or_eq.1 hj with hj | rfl
          · exact hJ j hj
          · exact hpart
        · show ((x.es.length : Int) - ((i + 1 : Nat) : Int)).toNat < ((x.es.length : Int) - (i : Int)).toNat
          omega
      | true =>
        have hfn := fieldName_any (cap := cap) w9 hA9 (hes1.mono g8.le) h hbd.2 (by omega)
        (repeat (first | (refine cL ?_; first | (refine cL_guard ?_; refine L_unwanted rfl rfl rfl ?_) | (refine cL_move ?_; refine L_val R_move rfl rfl rfl ?_) | (refine cL_load ?_; first | refine L_val (R_loadB rfl (by assumption) (by rfl)) rfl rfl rfl ?_ | refine L_val (R_loadH (by assumption) rfl (by assumption) (by rfl)) rfl rfl rfl ?_) | (refine cL_fieldAddr ?_; refine L_val (R_fa rfl) rfl rfl rfl ?_) | (refine cL_assign ?_; refine L_val R_assign rfl rfl rfl ?_) | (refine cL_call ?_; refine L_val (R_len rfl) rfl rfl rfl ?_) | (refine cL_pick ?_; first | refine L_val (R_pickT rfl) rfl rfl rfl ?_ | refine L_val (R_pickF rfl) rfl rfl rfl ?_) | (refine cL_eql ?_; first | refine L_valB (R_eqI rfl rfl) c9 rfl rfl rfl ?_ | refine L_val (R_eqPN rfl rfl) rfl rfl rfl ?_ | refine L_val (R_eqI rfl rfl) rfl rfl rfl ?_ | refine L_val (R_eqB rfl rfl) rfl rfl rfl ?_ | refine L_val (R_eqIfN rfl rfl) rfl rfl rfl ?_ | refine L_val (R_eqIfNN rfl) rfl rfl rfl ?_) | (refine cL_neq ?_; first | refine L_val (R_nePN rfl rfl) rfl rfl rfl ?_ | refine L_val (R_neI rfl rfl) rfl rfl rfl ?_ | refine L_val (R_neB rfl rfl) rfl rfl rfl ?_ | refine L_val (R_neIfN rfl rfl) rfl rfl rfl ?_ | refine L_val (R_neIfNN rfl) rfl rfl rfl ?_) | (refine cL_lss ?_; refine L_val (R_ltI rfl rfl) rfl rfl rfl ?_) | (refine cL_not ?_; refine L_val (R_not rfl) rfl rfl rfl ?_) | (refine cL_add ?_; refine L_val (R_addI rfl rfl) rfl rfl rfl ?_) | (refine cL_sub ?_; refine L_val (R_subI rfl rfl) rfl rfl rfl ?_) | (refine cL_gtr ?_; refine L_val (R_gtI rfl rfl) rfl rfl rfl ?_) | (refine cL_geq ?_; refine L_val (R_geI rfl rfl) rfl rfl rfl ?_) | refine L_nil ?_) | refine G_seq ?_ | refine G_region ?_ | refine G_skip ?_ | refine G_block ?_ | refine G_end ?_ | refine G_true rfl ?_ | refine G_false rfl ?_))
        cases hnb : nameB x.es i with
        | false =>
          rw [hnb] at hfn
          refine L_callQ hfn rfl rfl fun w10 hw10 => ?_
          (repeat (first | (refine cL ?_; first | (refine cL_guard ?_; refine L_unwanted rfl rfl rfl ?_) | (refine cL_move ?_; refine L_val R_move rfl rfl rfl ?_) | (refine cL_load ?_; first | refine L_val (R_loadB rfl (by assumption) (by rfl)) rfl rfl rfl ?_ | refine L_val (R_loadH (by assumption) rfl (by assumption) (by rfl)) rfl rfl rfl ?_) | (refine cL_fieldAddr ?_; refine L_val (R_fa rfl) rfl rfl rfl ?_) | (refine cL_assign ?_; refine L_val R_assign rfl rfl rfl ?_) | (refine cL_call ?_; refine L_val (R_len rfl) rfl rfl rfl ?_) | (refine cL_pick ?_; first | refine L_val (R_pickT rfl) rfl rfl rfl ?_ | refine L_val (R_pickF rfl) rfl rfl rfl ?_) | (refine cL_eql ?_; first | refine L_val (R_eqPN rfl rfl) rfl rfl rfl ?_ | refine L_val (R_eqI rfl rfl) rfl rfl rfl ?_ | refine L_val (R_eqB rfl rfl) rfl rfl rfl ?_ | refine L_val (R_eqIfN rfl rfl) rfl rfl rfl ?_ | refine L_val (R_eqIfNN rfl) rfl rfl rfl ?_) | (refine cL_neq ?_; first | refine L_val (R_nePN rfl rfl) rfl rfl rfl ?_ | refine L_val (R_neI rfl rfl) rfl rfl rfl ?_ | refine L_val (R_neB rfl rfl) rfl rfl rfl ?_ | refine L_val (R_neIfN rfl rfl) rfl rfl rfl ?_ | refine L_val (R_neIfNN rfl) rfl rfl rfl ?_) | (refine cL_lss ?_; refine L_val (R_ltI rfl rfl) rfl rfl rfl ?_) | (refine cL_not ?_; refine L_val (R_not rfl) rfl rfl rfl ?_) | (refine cL_add ?_; refine L_val (R_addI rfl rfl) rfl rfl rfl ?_) | (refine cL_sub ?_; refine L_val (R_subI rfl rfl) rfl rfl rfl ?_) | (refine cL_gtr ?_; refine L_val (R_gtI rfl rfl) rfl rfl rfl ?_) | (refine cL_geq ?_; refine L_val (R_geI rfl rfl) rfl rfl rfl ?_) | refine L_nil ?_) | refine G_seq ?_ | refine G_region ?_ | refine G_skip ?_ | refine G_block ?_ | refine G_end ?_ | refine G_true rfl ?_ | refine G_false rfl ?_))
          (refine G_retF rfl ?_)
          exact ⟨_, rfl, congrArg Value.bool (allR_false h (by simp only [partB, hsh, hs, c9, hnb]; rfl)).symm, hex8.trans (hw9.trans hw10)⟩
        | true =>
          have hpart : partB ds params own x.k x.es i = true := by simp only [partB, hsh, hs, c9, hnb]; rfl
          rw [hnb] at hfn
          refine L_callQ hfn rfl rfl fun w10 hw10 => ?_
          (repeat (first | (refine cL ?_; first | (refine cL_guard ?_; refine L_unwanted rfl rfl rfl ?_) | (refine cL_move ?_; refine L_val R_move rfl rfl rfl ?_) | (refine cL_load ?_; first | refine L_val (R_loadB rfl (by assumption) (by rfl)) rfl rfl rfl ?_ | refine L_val (R_loadH (by assumption) rfl (by assumption) (by rfl)) rfl rfl rfl ?_) | (refine cL_fieldAddr ?_; refine L_val (R_fa rfl) rfl rfl rfl ?_) | (refine cL_assign ?_; refine L_val R_assign rfl rfl rfl ?_) | (refine cL_call ?_; refine L_val (R_len rfl) rfl rfl rfl ?_) | (refine cL_pick ?_; first | refine L_val (R_pickT rfl) rfl rfl rfl ?_ | refine L_val (R_pickF rfl) rfl rfl rfl ?_) | (refine cL_eql ?_; first | refine L_val (R_eqPN rfl rfl) rfl rfl rfl ?_ | refine L_val (R_eqI rfl rfl) rfl rfl rfl ?_ | refine L_val (R_eqB rfl rfl) rfl rfl rfl ?_ | refine L_val (R_eqIfN rfl rfl) rfl rfl rfl ?_ | refine L_val (R_eqIfNN rfl) rfl rfl rfl ?_) | (refine cL_neq ?_; first | refine L_val (R_nePN rfl rfl) rfl rfl rfl ?_ | refine L_val (R_neI rfl rfl) rfl rfl rfl ?_ | refine L_val (R_neB rfl rfl) rfl rfl rfl ?_ | refine L_val (R_neIfN rfl rfl) rfl rfl rfl ?_ | refine L_val (R_neIfNN rfl) rfl rfl rfl ?_) | (refine cL_lss ?_; refine L_val (R_ltI rfl rfl) rfl rfl rfl ?_) | (refine cL_not ?_; refine L_val (R_not rfl) rfl rfl rfl ?_) | (refine cL_add ?_; first | refine L_valE (R_addI rfl rfl) (succ_i64 h (by omega)) rfl rfl rfl ?_ | refine L_val (R_addI rfl rfl) rfl rfl rfl ?_) | (refine cL_sub ?_; refine L_val (R_subI rfl rfl) rfl rfl rfl ?_) | (refine cL_gtr ?_; refine L_val (R_gtI rfl rfl) rfl rfl rfl ?_) | (refine cL_geq ?_; refine L_val (R_geI rfl rfl) rfl rfl rfl ?_) | refine L_nil ?_) | refine G_seq ?_ | refine G_region ?_ | refine G_skip ?_ | refine G_block ?_ | refine G_end ?_ | refine G_true rfl ?_ | refine G_false rfl ?_))
          refine G_inv ⟨⟨rfl, hext.trans (g8.ext.trans (hw9.trans hw10)), _, i + 1, with_self ⟨rfl, rfl, rfl, rfl, rfl, rfl, rfl, trivial⟩, h, fun j hj => ?_⟩, ?_⟩
          · rcases Nat.lt_succ_iff_lt_or_eq.1 hj with hj | rfl
            · exact hJ j hj
            · exact hpart
          · show ((x.es.length : Int) - ((i + 1 : Nat) : Int)).toNat < ((x.es.length : Int) - (i : Int)).toNat
            omega
  · have hb : decide ((i : Int) < (x.es.length : Int)) = false := decide_eq_false (by omega)
    (repeat (first | (refine cL ?_; first | (refine cL_guard ?_; refine L_unwanted rfl rfl rfl ?_) | (refine cL_move ?_; refine L_val R_move rfl rfl rfl ?_) | (refine cL_load ?_; first | refine L_val (R_loadB rfl (by assumption) (by rfl)) rfl rfl rfl ?_ | refine L_val (R_loadH (by assumption) rfl (by assumption) (by rfl)) rfl rfl rfl ?_) | (refine cL_fieldAddr ?_; refine L_val (R_fa rfl) rfl rfl rfl ?_) | (refine cL_assign ?_; refine L_val R_assign rfl rfl rfl ?_) | (refine cL_call ?_; refine L_val (R_len rfl) rfl rfl rfl ?_) | (refine cL_pick ?_; first | refine L_val (R_pickT rfl) rfl rfl rfl ?_ | refine L_val (R_pickF rfl) rfl rfl rfl ?_) | (refine cL_eql ?_; first | refine L_val (R_eqPN rfl rfl) rfl rfl rfl ?_ | refine L_val (R_eqI rfl rfl) rfl rfl rfl ?_ | refine L_val (R_eqB rfl rfl) rfl rfl rfl ?_ | refine L_val (R_eqIfN rfl rfl) rfl rfl rfl ?_ | refine L_val (R_eqIfNN rfl) rfl rfl rfl ?_) | (refine cL_neq ?_; first | refine L_val (R_nePN rfl rfl) rfl rfl rfl ?_ | refine L_val (R_neI rfl rfl) rfl rfl rfl ?_ | refine L_val (R_neB rfl rfl) rfl rfl rfl ?_ | refine L_val (R_neIfN rfl rfl) rfl rfl rfl ?_ | refine L_val (R_neIfNN rfl) rfl rfl rfl ?_) | (refine cL_lss ?_; first | refine L_valB (R_ltI rfl rfl) hb rfl rfl rfl ?_ | refine L_val (R_ltI rfl rfl) rfl rfl rfl ?_) | (refine cL_not ?_; refine L_val (R_not rfl) rfl rfl rfl ?_) | (refine cL_add ?_; refine L_val (R_addI rfl rfl) rfl rfl rfl ?_) | (refine cL_sub ?_; refine L_val (R_subI rfl rfl) rfl rfl rfl ?_) | (refine cL_gtr ?_; refine L_val (R_gtI rfl rfl) rfl rfl rfl ?_) | (refine cL_geq ?_; refine L_val (R_geI rfl rfl) rfl rfl rfl ?_) | refine L_nil ?_) | refine G_exit rfl ?_ | refine G_seq ?_ | refine G_region ?_ | refine G_skip ?_ | refine G_block ?_ | refine G_end ?_ | refine G_true rfl ?_ | refine G_false rfl ?_))
    (refine G_retF rfl ?_)
    exact ⟨_, rfl, congrArg Value.bool (allR_true fun j hj => hJ j (by omega)).symm, hexr⟩
end Go.Proofs.YtmmcjnfgcaefpaaGreatDoor

/-
  The verifier's 'Size' on the input's types.
-/
namespace Go.Proofs.YtmmcjnfgcaefpaaGreatDoor
set_option maxRecDepth 100000
set_option maxHeartbeats 4000000
attribute [local irreducible] Calls execOp

theorem sizeW_eq (t : Ty) : sizeW t = sizeWL 1 t.es := by cases t; rfl

theorem size_any : ∀ (t : Ty) (cs : List Value) (H : Hp) (w : World), Agree H w → DTy H t cs → Calls Tryz.prog 9 #[.agg cs.toArray] w (Ret (Qt (.int .i64 (sizeW t)) w)) := by
  refine Ty.ind fun k0 n0 c0 b0 nm0 es0 ih => ?_
  generalize hxx : Ty.mk k0 n0 c0 b0 nm0 es0 = x
  have hese : x.es = es0 := by rw [← hxx]; rfl
  rw [← hese] at ih
  clear hese hxx
  intro cs H w hA hx
  obtain ⟨p', cap, rfl, -, -, -, hbd, hes⟩ := hx.cells
  rw [sizeW_eq]
  (refine calls_enter Tryz.func9 Tryz.ntmps9 rfl rfl ?_)
  (repeat (first | (refine cL ?_; first | (refine cL_move ?_; refine L_val R_move rfl rfl rfl ?_) | (refine cL_load ?_; first | refine L_val (R_loadB rfl (by assumption) (by rfl)) rfl rfl rfl ?_ | refine L_val (R_loadH (by assumption) rfl (by assumption) (by rfl)) rfl rfl rfl ?_) | (refine cL_fieldAddr ?_; refine L_val (R_fa rfl) rfl rfl rfl ?_) | (refine cL_assign ?_; refine L_val R_assign rfl rfl rfl ?_) | (refine cL_call ?_; refine L_val (R_len rfl) rfl rfl rfl ?_) | (refine cL_lss ?_; refine L_val (R_ltI rfl rfl) rfl rfl rfl ?_) | (refine cL_add ?_; refine L_val (R_addI rfl rfl) rfl rfl rfl ?_) | refine L_nil ?_) | refine G_seq ?_ | refine G_region ?_ | refine G_skip ?_ | refine G_block ?_ | refine G_end ?_ | refine G_true rfl ?_ | refine G_false rfl ?_))
  refine L_box rfl rfl rfl fun b1 w1 hn1 => ?_
  obtain ⟨H1, g1, hb1⟩ := Grow.ofNew hA hn1
  have hA1 := g1.ag
  have hes1 := hes.mono g1.le
  have hex1 := g1.ext
  (repeat (first | (refine cL ?_; first | (refine cL_move ?_; refine L_val R_move rfl rfl rfl ?_) | (refine cL_load ?_; first | refine L_val (R_loadB rfl (by assumption) (by rfl)) rfl rfl rfl ?_ | refine L_val (R_loadH (by assumption) rfl (by assumption) (by rfl)) rfl rfl rfl ?_) | (refine cL_fieldAddr ?_; refine L_val (R_fa rfl) rfl rfl rfl ?_) | (refine cL_assign ?_; refine L_val R_assign rfl rfl rfl ?_) | (refine cL_call ?_; refine L_val (R_len rfl) rfl rfl rfl ?_) | (refine cL_lss ?_; refine L_val (R_ltI rfl rfl) rfl rfl rfl ?_) | (refine cL_add ?_; refine L_val (R_addI rfl rfl) rfl rfl rfl ?_) | refine L_nil ?_) | refine G_seq ?_ | refine G_region ?_ | refine G_skip ?_ | refine G_block ?_ | refine G_end ?_ | refine G_true rfl ?_ | refine G_false rfl ?_))
  refine G_loop (fun f ds0 w0 => ∃ m, CountI 9 8 x.es.length [(3, .int .i64 m), (7, .slice p' x.es.length cap)] w1 (fun i => sizeWL m (x.es.drop i) = sizeWL 1 x.es) f ds0 w0) (fun f _ _ => countM 9 8 f)
    ⟨1, rfl, Ext.refl _ _, _, 0, with_self ⟨rfl, rfl, rfl, rfl, trivial⟩, Nat.zero_le _, rfl⟩ ?_
  rintro f ds0 wr ⟨m, rfl, hext, f0, i, rfl, hi, hJ⟩
  have hAr := hA1.ext0 hext
  by_cases h : i < x.es.length
  · have hb : decide ((i : Int) < (x.es.length : Int)) = true := decide_eq_true (by omega)
    obtain ⟨e, he⟩ : ∃ v, x.es[i]? = some v := ⟨_, List.getElem?_eq_getElem h⟩
    obtain ⟨bk, off, ec, rfl, hec, hed⟩ := hes1.get he
    obtain ⟨q, qcap, rfl, -, -, -, -, -⟩ := hed.cells
    have hdr : x.es.drop i = e :: x.es.drop (i + 1) := by rw [List.drop_eq_getElem_cons h]; rw [List.getElem?_eq_getElem h] at he; injection he with he; rw [he]
    rw [hdr, sizeWL] at hJ
    (repeat (first | (refine cL ?_; first | (refine cL_move ?_; refine L_val R_move rfl rfl rfl ?_) | (refine cL_load ?_; first | refine L_val (R_loadA rfl rfl fun j v hj => hAr.hcell (hec j v hj)) rfl rfl rfl ?_ | refine L_val (R_loadB rfl (by assumption) (by rfl)) rfl rfl rfl ?_ | refine L_val (R_loadH (by assumption) rfl (by assumption) (by rfl)) rfl rfl rfl ?_) | (refine cL_fieldAddr ?_; refine L_val (R_fa rfl) rfl rfl rfl ?_) | (refine cL_assign ?_; refine L_val R_assign rfl rfl rfl ?_) | (refine cL_call ?_; refine L_val (R_len rfl) rfl rfl rfl ?_) | (refine cL_lss ?_; first | refine L_valB (R_ltI rfl rfl) hb rfl rfl rfl ?_ | refine L_val (R_ltI rfl rfl) rfl rfl rfl ?_) | (refine cL_indexAddr ?_; refine L_valE (R_ia rfl rfl (by omega) (by omega)) (ia6 _ _ _) rfl rfl rfl ?_) | (refine cL_add ?_; refine L_val (R_addI rfl rfl) rfl rfl rfl ?_) | refine L_nil ?_) | refine G_seq ?_ | refine G_region ?_ | refine G_skip ?_ | refine G_block ?_ | refine G_end ?_ | refine G_true rfl ?_ | refine G_false rfl ?_))
    refine L_allocS rfl rfl fun b5 w3 hn3 => ?_
    refine L_storeA rfl hn3.here rfl rfl rfl rfl rfl rfl fun w4 h4 e4 s4 => ?_
    obtain ⟨H4, g4, hb5⟩ := Grow.ofNew hAr (hn3.store h4 e4 s4)
    have hih := ih e (List.mem_of_getElem? he) _ H4 w4 g4.ag (DTy.mono g4.le _ _ hed)
    (repeat (first | (refine cL ?_; first | (refine cL_move ?_; refine L_val R_move rfl rfl rfl ?_) | (refine cL_load ?_; first | refine L_val (R_loadAB rfl rfl (g4.ag _ _ hb5)) rfl rfl rfl ?_ | refine L_val (R_loadB rfl (by assumption) (by rfl)) rfl rfl rfl ?_ | refine L_val (R_loadH (by assumption) rfl (by assumption) (by rfl)) rfl rfl rfl ?_) | (refine cL_fieldAddr ?_; refine L_val (R_fa rfl) rfl rfl rfl ?_) | (refine cL_assign ?_; refine L_val R_assign rfl rfl rfl ?_) | (refine cL_call ?_; refine L_val (R_len rfl) rfl rfl rfl ?_) | (refine cL_lss ?_; refine L_val (R_ltI rfl rfl) rfl rfl rfl ?_) | (refine cL_add ?_; refine L_val (R_addI rfl rfl) rfl rfl rfl ?_) | refine L_nil ?_) | refine G_seq ?_ | refine G_region ?_ | refine G_skip ?_ | refine G_block ?_ | refine G_end ?_ | refine G_true rfl ?_ | refine G_false rfl ?_))
    refine L_callQ hih rfl rfl fun w5 hw5 => ?_
    (repeat (first | (refine cL ?_; first | (refine cL_move ?_; refine L_val R_move rfl rfl rfl ?_) | (refine cL_load ?_; first | refine L_val (R_loadB rfl (by assumption) (by rfl)) rfl rfl rfl ?_ | refine L_val (R_loadH (by assumption) rfl (by assumption) (by rfl)) rfl rfl rfl ?_) | (refine cL_fieldAddr ?_; refine L_val (R_fa rfl) rfl rfl rfl ?_) | (refine cL_assign ?_; refine L_val R_assign rfl rfl rfl ?_) | (refine cL_call ?_; refine L_val (R_len rfl) rfl rfl rfl ?_) | (refine cL_lss ?_; refine L_val (R_ltI rfl rfl) rfl rfl rfl ?_) | (refine cL_add ?_; first | refine L_valE (R_addI rfl rfl) (succ_i64 h (by omega)) rfl rfl rfl ?_ | refine L_val (R_addI rfl rfl) rfl rfl rfl ?_) | refine L_nil ?_) | refine G_seq ?_ | refine G_region ?_ | refine G_skip ?_ | refine G_block ?_ | refine G_end ?_ | refine G_true rfl ?_ | refine G_false rfl ?_))
    refine G_inv ⟨⟨_, rfl, hext.trans (g4.ext.trans hw5), _, i + 1, with_self ⟨rfl, rfl, rfl, rfl, trivial⟩, h, hJ⟩, ?_⟩
    show ((x.es.length : Int) - ((i + 1 : Nat) : Int)).toNat < ((x.es.length : Int) - (i : Int)).toNat
    omega
  · have hb : decide ((i : Int) < (x.es.length : Int)) = false := decide_eq_false (by omega)
    have hdr : x.es.drop i = [] := List.drop_eq_nil_of_le (by omega)
    rw [hdr, sizeWL] at hJ
    (repeat (first | (refine cL ?_; first | (refine cL_move ?_; refine L_val R_move rfl rfl rfl ?_) | (refine cL_load ?_; first | refine L_val (R_loadB rfl (by assumption) (by rfl)) rfl rfl rfl ?_ | refine L_val (R_loadH (by assumption) rfl (by assumption) (by rfl)) rfl rfl rfl ?_) | (refine cL_fieldAddr ?_; refine L_val (R_fa rfl) rfl rfl rfl ?_) | (refine cL_assign ?_; refine L_val R_assign rfl rfl rfl ?_) | (refine cL_call ?_; refine L_val (R_len rfl) rfl rfl rfl ?_) | (refine cL_lss ?_; first | refine L_valB (R_ltI rfl rfl) hb rfl rfl rfl ?_ | refine L_val (R_ltI rfl rfl) rfl rfl rfl ?_) | (refine cL_add ?_; refine L_val (R_addI rfl rfl) rfl rfl rfl ?_) | refine L_nil ?_) | refine G_exit rfl ?_ | refine G_seq ?_ | refine G_region ?_ | refine G_skip ?_ | refine G_block ?_ | refine G_end ?_ | refine G_true rfl ?_ | refine G_false rfl ?_))
    (refine G_retF rfl ?_)
    exact ⟨_, rfl, congrArg (Value.int .i64) hJ, hex1.trans hext⟩
end Go.Proofs.YtmmcjnfgcaefpaaGreatDoor

/-
  The walk's own rules, eighth part: regions that draw their order and write to memory. Kinds of operations: 0 yields one value in every later world; 1 makes memory, alone or among forked orders; 2 writes, and all that looks at memory is settled before it comes up or must wait for it; 3 has to do with no memory.
-/
namespace Go.Proofs.YtmmcjnfgcaefpaaGreatDoor

inductive OT where
  | nil
  | op (i : Nat) (r : OT)
  | fork (x y : OT)

section
variable (P : Program) (M : Nat → Prop) (ops : Array Oper) (md : Nat → Nat)

def opX (i : Nat) (KK : Act → World → Prop) (a : Act) (wb : World) : Prop :=
  match ops[i]? with
  | none => KK a wb
  | some o =>
    if Region.wanted o (yielded ops a.tmps) then
      if md i = 1 then ∀ w, Ext No wb w → relUpon P (fun v w' => Ext M w w' ∧ KK (a.put o.dst v) w') ((execOp a.eval o).run P w)
      else if md i = 2 then ∀ w, Ext No wb w → relUpon P (fun v w' => KK (a.put o.dst v) w') ((execOp a.eval o).run P w)
      else ∃ c, (∀ w, (md i = 3 ∨ Ext M wb w) → funUpon P No w c ((execOp a.eval o).run P w)) ∧ KK (a.put o.dst c) wb
    else KK (a.put o.dst undef) wb

theorem opX_mono {i : Nat} {KK KK' : Act → World → Prop} {a : Act} {wb : World} (h : ∀ a w, KK a w → KK' a w) (hh : opX P M ops md i KK a wb) : opX P M ops md i KK' a wb := by
  unfold opX at *
  cases ho : ops[i]? with
  | none => simp only [ho] at hh ⊢; exact h _ _ hh
  | some o =>
    simp only [ho] at hh ⊢
    split
    · rename_i hw
      rw [if_pos hw] at hh
      split
      · rename_i hr
        rw [if_pos hr] at hh
        exact fun w he => relUpon_mono P (fun v w' hv => ⟨hv.1, h _ _ hv.2⟩) (hh w he)
      · rename_i hr
        rw [if_neg hr] at hh
        split
        · rename_i hr2
          rw [if_pos hr2] at hh
          exact fun w he => relUpon_mono P (fun v w' hv => h _ _ hv) (hh w he)
        · rename_i hr2
          rw [if_neg hr2] at hh
          obtain ⟨c, h1, h2⟩ := hh
          exact ⟨c, h1, h _ _ h2⟩
    · rename_i hw
      rw [if_neg hw] at hh
      exact h _ _ hh

def wpAnyX (K : Act → World → Prop) : Nat → Array Bool → Act → World → Prop
  | 0, listed, a, wb => Region.ready .any ops listed = [] ∧ ∀ w, Ext No wb w → K a w
  | fuel + 1, listed, a, wb => (Region.ready .any ops listed = [] → ∀ w, Ext No wb w → K a w) ∧
      ∀ i ∈ Region.ready .any ops listed, opX P M ops md i (wpAnyX K fuel (listed.setIfInBounds i true)) a wb

theorem wpAny_of_X {K : Act → World → Prop} {Q : Exit → Act → World → Prop} (hK : ∀ a w, K a w → Q .normal a w) : ∀ (fuel : Nat) (listed : Array Bool) (a : Act) (wb w : World), Ext No wb w →
    wpAnyX P M ops md K fuel listed a wb → wpAny P .any ops Q fuel listed a w
  | 0, _, _, _, _, he, h => ⟨h.1, hK _ _ (h.2 _ he)⟩
  | fuel + 1, listed, a, wb, w, he, h => by
    refine ⟨fun h0 => hK _ _ (h.1 h0 _ he), fun i hi => ?_⟩
    have h1 := h.2 i hi
    unfold opX at h1
    unfold wpOp
    cases ho : ops[i]? with
    | none => simp only [ho] at h1 ⊢; exact wpAny_of_X hK fuel _ _ _ _ he h1
    | some o =>
      simp only [ho] at h1 ⊢
      split
      · rename_i hw
        rw [if_pos hw] at h1
        left
        unfold Oper.wp
        split at h1
        · have h2 := h1 w he
          generalize (execOp a.eval o).run P w = r at *
          cases r with
          | ok x w' =>
            cases x <;> simp only [relUpon] at h2 <;> simp only [Oper.upon]
            · exact wpAny_of_X hK fuel _ _ _ _ (Ext.refl _ _) h2.2
            · exact wpAny_of_X hK fuel _ _ _ _ (Ext.refl _ _) h2.2
            · refine h2.mono fun e w'' hv => ?_
              obtain ⟨v, rfl, hv⟩ := hv
              exact wpAny_of_X hK fuel _ _ _ _ (Ext.refl _ _) hv.2
          | halt x w' => simp only [relUpon] at h2
        · split at h1
          · have h2 := h1 w he
            generalize (execOp a.eval o).run P w = r at *
            cases r with
            | ok x w' =>
              cases x <;> simp only [relUpon] at h2 <;> simp only [Oper.upon]
              · exact wpAny_of_X hK fuel _ _ _ _ (Ext.refl _ _) h2
              · exact wpAny_of_X hK fuel _ _ _ _ (Ext.refl _ _) h2
              · refine h2.mono fun e w'' hv => ?_
                obtain ⟨v, rfl, hv⟩ := hv
                exact wpAny_of_X hK fuel _ _ _ _ (Ext.refl _ _) hv
            | halt x w' => simp only [relUpon] at h2
          · obtain ⟨c, h2, h3⟩ := h1
            have h2 := h2 w (.inr he.of_no)
            generalize (execOp a.eval o).run P w = r at *
            cases r with
            | ok x w' =>
              cases x <;> simp only [funUpon] at h2 <;> simp only [Oper.upon]
              · obtain ⟨rfl, hx⟩ := h2; exact wpAny_of_X hK fuel _ _ _ _ (he.trans hx) h3
              · obtain ⟨rfl, hx⟩ := h2; exact wpAny_of_X hK fuel _ _ _ _ (he.trans hx) h3
              · obtain ⟨rfl, hc⟩ := h2
                refine hc.mono fun e w'' ⟨hv, hx⟩ => ?_
                subst hv
                exact wpAny_of_X hK fuel _ _ _ _ (he.trans hx) h3
            | halt x w' => simp only [funUpon] at h2
      · rename_i hw
        rw [if_neg hw] at h1
        exact wpAny_of_X hK fuel _ _ _ _ he h1

/-- operation i yields c, whenever it comes up from here on -/
def FX (i : Nat) (o : Oper) (c : Value) (a : Act) (wb : World) : Prop :=
  (Region.wanted o (yielded ops a.tmps) = true ∧ ∀ w, (md i = 3 ∨ Ext M wb w) → funUpon P No w c ((execOp a.eval o).run P w)) ∨
  (Region.wanted o (yielded ops a.tmps) = false ∧ c = undef)

theorem FX.later {i : Nat} {o : Oper} {c : Value} {a : Act} {wb w : World} (h : FX P M ops md i o c a wb) (he : md i = 3 ∨ Ext M wb w) : FX P M ops md i o c a w := by
  rcases h with ⟨h1, h2⟩ | h
  · refine .inl ⟨h1, fun w' hw' => h2 w' ?_⟩
    rcases he with he | he
    · exact .inl he
    · rcases hw' with hw' | hw'
      · exact .inl hw'
      · exact .inr (he.trans hw')
  · exact .inr h

theorem FX.opX {i : Nat} {o : Oper} {c : Value} {a : Act} {wb : World} (hi : ops[i]? = some o) (hr : md i ≠ 1 ∧ md i ≠ 2) (h : FX P M ops md i o c a wb) {KK : Act → World → Prop} (hk : KK (a.put o.dst c) wb) :
    opX P M ops md i KK a wb := by
  unfold Go.Proofs.YtmmcjnfgcaefpaaGreatDoor.opX
  simp only [hi]
  rcases h with ⟨h1, h2⟩ | ⟨h1, rfl⟩
  · rw [if_pos h1, if_neg hr.1, if_neg hr.2]
    exact ⟨c, h2, hk⟩
  · rw [h1]
    simp only [Bool.false_eq_true, if_false]
    exact hk

theorem FX.of_same {i : Nat} {o : Oper} {c : Value} {a a' : Act} {wb : World} (h : FX P M ops md i o c a wb) (he : execOp a'.eval o = execOp a.eval o)
    (hw : Region.wanted o (yielded ops a'.tmps) = Region.wanted o (yielded ops a.tmps)) : FX P M ops md i o c a' wb := by
  unfold FX at *
  rw [he, hw]
  exact h

theorem opX_put {i j : Nat} {oi oj : Oper} {v : Value} (hj : ops[j]? = some oj) (hap : oi.apart ops oj = true) (hwild : md j = 2 → md i = 3)
    (hsi : ∀ cs b, oi.op ≠ .select cs b) (hsj : ∀ cs b, oj.op ≠ .select cs b) {KK : Act → World → Prop} {a : Act} {wb : World}
    (hy : FX P M ops md i oi v a wb) (h : opX P M ops md j KK (a.put oi.dst v) wb) :
    opX P M ops md j (fun a' w' => FX P M ops md i oi v a' w' ∧ KK (a'.put oi.dst v) w') a wb := by
  obtain ⟨h1, h2, h3⟩ := Oper.apart_spec hap
  have keep : ∀ (a : Act) (wb : World), FX P M ops md i oi v a wb → ∀ u, FX P M ops md i oi v (a.put oj.dst u) wb := fun a wb hy u =>
    hy.of_same (he := execOp_put oi hsi a oj.dst u h3) (hw := wanted_put oi a oj.dst u h3)
  unfold opX at *
  simp only [hj] at *
  rw [wanted_put oj a oi.dst v h1, execOp_put oj hsj a oi.dst v h1] at h
  split
  · rename_i hw
    rw [if_pos hw] at h
    split
    · rename_i hr
      rw [if_pos hr] at h
      refine fun w he => relUpon_mono P (fun u w' hu => ⟨hu.1, keep a _ (hy.later (he := .inr (he.of_no.trans hu.1))) u, ?_⟩) (h w he)
      rw [← Act.put_comm a v u h2]
      exact hu.2
    · rename_i hr
      rw [if_neg hr] at h
      split
      · rename_i hr2
        rw [if_pos hr2] at h
        refine fun w he => relUpon_mono P (fun u w' hu => ⟨keep a _ (hy.later (he := .inl (hwild hr2))) u, ?_⟩) (h w he)
        rw [← Act.put_comm a v u h2]
        exact hu
      · rename_i hr2
        rw [if_neg hr2] at h
        obtain ⟨u, hu, hn⟩ := h
        exact ⟨u, hu, keep a _ hy u, by rw [← Act.put_comm a v u h2]; exact hn⟩
  · rename_i hw
    rw [if_neg hw] at h
    exact ⟨keep a _ hy _, by rw [← Act.put_comm a v undef h2]; exact h⟩

/-- what must wait for i: each waits for i, or for another that must -/
def Waits (i : Nat) (S : List Nat) : Prop := ∀ k ∈ S, ∃ o, ops[k]? = some o ∧ ∃ e ∈ o.after, Region.binds .any e = true ∧ (e.on = i ∨ e.on ∈ S)

theorem wpAnyX_first {K : Act → World → Prop} {i : Nat} {oi : Oper} {v : Value} (hi : ops[i]? = some oi) (hri : md i ≠ 1 ∧ md i ≠ 2) (hsel : ∀ (j : Nat) (o : Oper) cs b, ops[j]? = some o → o.op ≠ .select cs b)
    (S : List Nat) (hS : Waits ops i S) :
    ∀ (fuel : Nat) (listed : Array Bool) (a : Act) (wb : World),
      (∀ j oj, ops[j]? = some oj → j ≠ i → listed.getD j true = false → (∀ e ∈ oj.after, Region.binds .any e = true → e.on ≠ i) → oi.apart ops oj = true) →
      (∀ k ∈ S, listed.getD k true = false) → (md i ≠ 3 → ∀ j, md j = 2 → listed.getD j true = false → j ∈ S) →
      i ∈ Region.ready .any ops listed → FX P M ops md i oi v a wb →
      wpAnyX P M ops md K fuel (listed.setIfInBounds i true) (a.put oi.dst v) wb → wpAnyX P M ops md K (fuel + 1) listed a wb := by
  intro fuel
  induction fuel with
  | zero =>
    intro listed a wb _ _ _ hr hy HH
    refine ⟨fun h => (by rw [h] at hr; cases hr), fun j hj => ?_⟩
    by_cases hji : j = i
    · subst hji; exact hy.opX (hi := hi) (hr := hri) (hk := HH)
    · have := ready_mono hj hji
      rw [HH.1] at this
      cases this
  | succ fuel ih =>
    intro listed a wb hfree hun hwd hr hy HH
    refine ⟨fun h => (by rw [h] at hr; cases hr), fun j hj => ?_⟩
    by_cases hji : j = i
    · subst hji; exact hy.opX (hi := hi) (hr := hri) (hk := HH)
    · have h1 := HH.2 j (ready_mono hj hji)
      obtain ⟨hjun, oj, hoj, hall⟩ := mem_ready.1 hj
      have hiun : listed.getD i true = false := (mem_ready.1 hr).1
      have hlisted : ∀ e ∈ oj.after, Region.binds .any e = true → listed.getD e.on true = true := fun e he hb => by
        have h1 := hall e he hb
        rcases Nat.lt_or_ge e.on listed.size with h' | h'
        · simp [h'] at h1 ⊢; exact h1
        · simp [Array.getElem?_eq_none h']
      have hnot : ∀ e ∈ oj.after, Region.binds .any e = true → e.on ≠ i := fun e he hb heq => by
        have h1 := hlisted e he hb
        rw [heq, hiun] at h1
        cases h1
      have hjS : j ∉ S := fun hm => by
        obtain ⟨o', ho', e, he, hb, hc⟩ := hS j hm
        rw [hoj] at ho'
        injection ho' with ho'
        subst ho'
        rcases hc with hc | hc
        · exact hnot e he hb hc
        · have h1 := hlisted e he hb
          rw [hun _ hc] at h1
          cases h1
      have h2 := opX_put P M ops md hoj (hfree j oj hoj hji hjun hnot) (fun h2 => by
        by_cases h3 : md i = 3
        · exact h3
        · exact absurd (hwd h3 j h2 hjun) hjS) (fun cs b => hsel i oi cs b hi) (fun cs b => hsel j oj cs b hoj) hy h1
      have hback : ∀ k, (listed.setIfInBounds j true).getD k true = false → listed.getD k true = false := fun k hk => by
        by_cases hjk : j = k
        · subst hjk; exact hjun
        · rw [getD_set_ne true hjk] at hk; exact hk
      have hfree' : ∀ k ok, ops[k]? = some ok → k ≠ i → (listed.setIfInBounds j true).getD k true = false →
          (∀ e ∈ ok.after, Region.binds .any e = true → e.on ≠ i) → oi.apart ops ok = true := fun k ok hk hki hu hno => hfree k ok hk hki (hback k hu) hno
      refine opX_mono P M ops md (fun a' w' h3 => ih (listed.setIfInBounds j true) a' w' hfree' (fun k hk => ?_) (fun h3 k hk hu => hwd h3 k hk (hback k hu)) (ready_mono hr (Ne.symm hji)) h3.1 ?_) h2
      · have hjk : j ≠ k := fun h => hjS (h ▸ hk)
        rw [getD_set_ne true hjk]
        exact hun k hk
      · rw [Array.setIfInBounds_comm _ _ hji]
        exact h3.2

/-- the walk in the orders given -/
def wpTree (K : Act → World → Prop) : OT → Act → World → Prop
  | .nil, a, wb => ∀ w, Ext No wb w → K a w
  | .op i r, a, wb => opX P M ops md i (wpTree K r) a wb
  | .fork x y, a, wb => wpTree K x a wb ∧ wpTree K y a wb
end

def OT.heads : OT → List Nat
  | .nil => []
  | .op i _ => [i]
  | .fork x y => x.heads ++ y.heads

def natIn (l : List Nat) (i : Nat) : Bool := l.any (Nat.beq i)
theorem natIn_iff {l : List Nat} {i : Nat} (h : natIn l i = true) : i ∈ l := by
  obtain ⟨j, hj, he⟩ := List.any_eq_true.1 h
  have := Nat.eq_of_beq_eq_true he
  subst this
  exact hj

/-- one more round of those that must wait -/
def waitRound (ops : Array Oper) (i : Nat) (S : List Nat) : List Nat :=
  (List.range ops.size).filter fun k => match ops[k]? with
    | some o => o.after.any fun e => Region.binds .any e && (Nat.beq e.on i || natIn S e.on)
    | none => false
def waitSet (ops : Array Oper) (i : Nat) : Nat → List Nat
  | 0 => []
  | n + 1 => waitRound ops i (waitSet ops i n)
def waitsB (ops : Array Oper) (i : Nat) (S : List Nat) : Bool := S.all fun k => match ops[k]? with
  | some o => o.after.any fun e => Region.binds .any e && (Nat.beq e.on i || natIn S e.on)
  | none => false
theorem waitsB_spec {ops : Array Oper} {i : Nat} {S : List Nat} (h : waitsB ops i S = true) : Waits ops i S := by
  intro k hk
  have h1 := List.all_eq_true.1 h k hk
  cases ho : ops[k]? with
  | none => rw [ho] at h1; cases h1
  | some o =>
    rw [ho] at h1
    simp only [Array.any_eq_true'] at h1
    obtain ⟨e, he, hb⟩ := h1
    simp only [Bool.and_eq_true, Bool.or_eq_true] at hb
    refine ⟨o, rfl, e, he, hb.1, ?_⟩
    rcases hb.2 with hb | hb
    · exact .inl (Nat.eq_of_beq_eq_true hb)
    · exact .inr (natIn_iff hb)

/-- may i be taken first, whatever else is open? -/
def mayB (ops : Array Oper) (md : Nat → Nat) (wl : List Nat) (listed : Array Bool) (i : Nat) : Bool :=
  Nat.beq (md i) 3 || (let S := waitSet ops i ops.size; waitsB ops i S && (S.all fun k => !listed.getD k true) && wl.all fun j => listed.getD j true || natIn S j)

def treeB (ops : Array Oper) (md : Nat → Nat) (wl : List Nat) : Bool → OT → Array Bool → Nat → Bool
  | _, .nil, listed, n => (Region.ready .any ops listed).isEmpty && Nat.beq n 0
  | _, .op _ _, _, 0 => false
  | alone, .op i r, listed, n + 1 => (Region.ready .any ops listed).contains i &&
      (bif (Nat.beq (md i) 1 || Nat.beq (md i) 2) then (!alone || (Region.ready .any ops listed) == [i]) else (Region.free .any ops listed i && mayB ops md wl listed i)) && treeB ops md wl true r (listed.setIfInBounds i true) n
  | _, .fork _ _, _, 0 => false
  | alone, .fork x y, listed, n + 1 => (!alone || ((Region.ready .any ops listed).all (natIn (x.heads ++ y.heads)))) && treeB ops md wl false x listed (n + 1) && treeB ops md wl false y listed (n + 1)

/-- each choice of a fork -/
theorem opX_heads {P : Program} {M : Nat → Prop} {ops : Array Oper} {md : Nat → Nat} {wl : List Nat} {K : Act → World → Prop} (n : Nat)
    (hb : ∀ (t : OT) (listed : Array Bool) (a : Act) (wb : World), treeB ops md wl true t listed n = true → wpTree P M ops md K t a wb → wpAnyX P M ops md K n listed a wb) :
    ∀ (t : OT) (listed : Array Bool) (a : Act) (wb : World), treeB ops md wl false t listed (n + 1) = true → wpTree P M ops md K t a wb → ∀ i ∈ t.heads, opX P M ops md i (wpAnyX P M ops md K n (listed.setIfInBounds i true)) a wb
  | .nil, listed, a, wb, _, _, i, hi => by simp [OT.heads] at hi
  | .op j r, listed, a, wb, hB, h, i, hi => by
    simp only [OT.heads, List.mem_singleton] at hi
    subst hi
    simp only [treeB, Bool.and_eq_true] at hB
    exact opX_mono P M ops md (fun a w h => hb r _ a w hB.2 h) h
  | .fork x y, listed, a, wb, hB, h, i, hi => by
    simp only [treeB, Bool.and_eq_true] at hB
    simp only [OT.heads, List.mem_append] at hi
    rcases hi with hi | hi
    · exact opX_heads n hb x listed a wb hB.1.2 h.1 i hi
    · exact opX_heads n hb y listed a wb hB.2 h.2 i hi

theorem treeB_ready {ops : Array Oper} {md : Nat → Nat} {wl : List Nat} {n : Nat} {listed : Array Bool} : ∀ (t : OT) (al : Bool), treeB ops md wl al t listed (n + 1) = true → Region.ready .any ops listed ≠ []
  | .nil, _, h => by simp [treeB] at h
  | .op i r, al, h => by
    simp only [treeB, Bool.and_eq_true] at h
    intro h0
    rw [h0] at h
    simp at h
  | .fork x y, al, h => by
    simp only [treeB, Bool.and_eq_true] at h
    exact treeB_ready x false h.1.2

theorem wpAnyX_tree {P : Program} {M : Nat → Prop} {ops : Array Oper} {md : Nat → Nat} {wl : List Nat} {K : Act → World → Prop} (hs : Region.noSelect ops = true) (hwl : ∀ j, md j = 2 → j ∈ wl) : ∀ (n : Nat) (t : OT) (listed : Array Bool) (a : Act) (wb : World),
    treeB ops md wl true t listed n = true → wpTree P M ops md K t a wb → wpAnyX P M ops md K n listed a wb := by
  intro n
  induction n with
  | zero =>
    intro t listed a wb hB h
    cases t with
    | nil =>
      simp only [treeB, Bool.and_eq_true] at hB
      exact ⟨by simpa using hB.1, h⟩
    | op i r => simp [treeB] at hB
    | fork x y => simp [treeB] at hB
  | succ n ih =>
    intro t listed a wb hB h
    have hne := treeB_ready t true hB
    cases t with
    | nil => simp [treeB] at hB
    | fork x y =>
      refine ⟨fun h0 => absurd h0 hne, fun i hi => ?_⟩
      simp only [treeB, Bool.and_eq_true, Bool.not_true, Bool.false_or] at hB
      have hin := natIn_iff (List.all_eq_true.1 hB.1.1 i hi)
      rcases List.mem_append.1 hin with hin | hin
      · exact opX_heads n ih x listed a wb hB.1.2 h.1 i hin
      · exact opX_heads n ih y listed a wb hB.2 h.2 i hin
    | op i r =>
      simp only [treeB, Bool.and_eq_true] at hB
      obtain ⟨⟨hr, hf⟩, hB'⟩ := hB
      have hr' : i ∈ Region.ready .any ops listed := by simpa using hr
      have hm : opX P M ops md i (wpAnyX P M ops md K n (listed.setIfInBounds i true)) a wb := opX_mono P M ops md (fun a w h => ih r _ a w hB' h) h
      cases hk : (Nat.beq (md i) 1 || Nat.beq (md i) 2) with
      | true =>
        rw [hk] at hf
        simp only [Bool.not_true, Bool.false_or, cond_true] at hf
        have hf' : Region.ready .any ops listed = [i] := by simpa using hf
        refine ⟨fun h0 => absurd h0 hne, fun j hj => ?_⟩
        rw [hf'] at hj
        have : j = i := by simpa using hj
        subst this
        exact hm
      | false =>
        rw [hk] at hf
        simp only [cond_false, Bool.and_eq_true] at hf
        have hri : md i ≠ 1 ∧ md i ≠ 2 := by
          simp only [Bool.or_eq_false_iff] at hk
          constructor
          · intro h1; rw [h1] at hk; exact absurd hk.1 (by decide)
          · intro h1; rw [h1] at hk; exact absurd hk.2 (by decide)
        obtain ⟨_, o, ho, _⟩ := mem_ready.1 hr'
        have hy : ∃ c, FX P M ops md i o c a wb ∧ wpAnyX P M ops md K n (listed.setIfInBounds i true) (a.put o.dst c) wb := by
          unfold opX at hm
          simp only [ho] at hm
          split at hm
          · rename_i hw
            rw [if_neg hri.1, if_neg hri.2] at hm
            obtain ⟨c, h1, h2⟩ := hm
            exact ⟨c, .inl ⟨hw, h1⟩, h2⟩
          · rename_i hw
            exact ⟨undef, .inr ⟨by simpa using hw, rfl⟩, hm⟩
        obtain ⟨c, hc1, hc2⟩ := hy
        by_cases h3 : md i = 3
        · exact wpAnyX_first P M ops md ho hri (Region.noSelect_spec hs) [] (fun k hk => by cases hk) n listed a wb (Region.free_spec ho hf.1) (fun k hk => by cases hk) (fun hn => absurd h3 hn) hr' hc1 hc2
        · have hmay := hf.2
          unfold mayB at hmay
          simp only [Bool.or_eq_true, Bool.and_eq_true] at hmay
          rcases hmay with hmay | ⟨⟨hw1, hw2⟩, hw3⟩
          · exact absurd (Nat.eq_of_beq_eq_true hmay) h3
          · refine wpAnyX_first P M ops md ho hri (Region.noSelect_spec hs) _ (waitsB_spec hw1) n listed a wb (Region.free_spec ho hf.1) (fun k hk => ?_) (fun _ j hj hu => ?_) hr' hc1 hc2
            · simpa using List.all_eq_true.1 hw2 k hk
            · have h4 := List.all_eq_true.1 hw3 j (hwl j hj)
              rw [hu, Bool.false_or] at h4
              exact natIn_iff h4

/-! ### the same over frames as functions -/

def lookN : List (Nat × Nat) → Nat → Nat
  | [], _ => 0
  | (j, m) :: l, i => bif Nat.beq i j then m else lookN l i

inductive DT where
  | nil
  | op (o : Oper) (m : Nat) (r : DT)
  | fork (x y : DT)

def pickT (ops : List Oper) (ml : List (Nat × Nat)) : OT → DT
  | .nil => .nil
  | .op i r => .op (nth ops i) (lookN ml i) (pickT ops ml r)
  | .fork x y => .fork (pickT ops ml x) (pickT ops ml y)

def X (P : Program) (M : Nat → Prop) (ops : List Oper) (K : DK) : DT → Fm → World → Prop
  | .nil, f, wb => ∀ w, Ext No wb w → K f w
  | .op o m l, f, wb =>
    if wantd ops f o = true then
      if m = 1 then ∀ w, Ext No wb w → relUpon P (fun v w' => Ext M w w' ∧ X P M ops K l (updO f o.dst v) w') ((execOp (ev f) o).run P w)
      else if m = 2 then ∀ w, Ext No wb w → relUpon P (fun v w' => X P M ops K l (updO f o.dst v) w') ((execOp (ev f) o).run P w)
      else ∃ c, (∀ w, (m = 3 ∨ Ext M wb w) → funUpon P No w c ((execOp (ev f) o).run P w)) ∧ X P M ops K l (updO f o.dst c) wb
    else X P M ops K l (updO f o.dst undef) wb
  | .fork x y, f, wb => X P M ops K x f wb ∧ X P M ops K y f wb

def OT.ltB (m : Nat) : OT → Bool
  | .nil => true
  | .op i r => Nat.blt i m && r.ltB m
  | .fork x y => x.ltB m && y.ltB m

theorem wpTree_of_X {P : Program} {n : Nat} {M : Nat → Prop} {ops : List Oper} {ml : List (Nat × Nat)} {K : DK} {ds : List Deferred}
    (hd : (ops.toArray.all fun o => match o.dst with | some d => Nat.blt d n | none => true) = true) :
    ∀ (t : OT), t.ltB ops.length = true → ∀ (f : Fm) (a : Act) (wb : World), Rp n f ds a → X P M ops K (pickT ops ml t) f wb →
      wpTree P M ops.toArray (lookN ml) (fun a w => ∃ f, Rp n f ds a ∧ K f w) t a wb
  | .nil, _, f, a, wb, hr, h => fun w he => ⟨f, hr, h w he⟩
  | .fork x y, hl, f, a, wb, hr, h => by
    simp only [OT.ltB, Bool.and_eq_true] at hl
    exact ⟨wpTree_of_X hd x hl.1 f a wb hr h.1, wpTree_of_X hd y hl.2 f a wb hr h.2⟩
  | .op i l, hl, f, a, wb, hr, h => by
    simp only [OT.ltB, Bool.and_eq_true] at hl
    have hil : i < ops.length := by
      have h1 : i + 1 ≤ ops.length := by simpa [Nat.blt] using hl.1
      omega
    have hi : ops.toArray[i]? = some (nth ops i) := by
      have := nth_get ops i hil
      simpa using this
    have hput : ∀ v, Rp n (updO f (nth ops i).dst v) ds (a.put (nth ops i).dst v) := by
      intro v
      have hm := Array.all_eq_true_iff_forall_mem.1 hd (nth ops i) (Array.mem_of_getElem? hi)
      cases hdst : (nth ops i).dst with
      | none => exact hr
      | some d =>
        rw [hdst] at hm
        exact hr.put hm v
    show opX P M ops.toArray (lookN ml) i _ a wb
    unfold opX
    simp only [hi]
    simp only [pickT, X] at h
    rw [hr.wanted]
    split
    · rename_i hw
      rw [if_pos hw] at h
      split
      · rename_i hrel
        rw [if_pos hrel] at h
        intro w he
        rw [hr.eval]
        exact relUpon_mono P (fun v w' hv => ⟨hv.1, wpTree_of_X hd l hl.2 _ _ _ (hput v) hv.2⟩) (h w he)
      · rename_i hrel
        rw [if_neg hrel] at h
        split
        · rename_i hrel2
          rw [if_pos hrel2] at h
          intro w he
          rw [hr.eval]
          exact relUpon_mono P (fun v w' hv => wpTree_of_X hd l hl.2 _ _ _ (hput v) hv) (h w he)
        · rename_i hrel2
          rw [if_neg hrel2] at h
          obtain ⟨c, h1, h2⟩ := h
          rw [hr.eval]
          exact ⟨c, h1, wpTree_of_X hd l hl.2 _ _ _ (hput c) h2⟩
    · rename_i hw
      rw [if_neg hw] at h
      exact wpTree_of_X hd l hl.2 _ _ _ (hput undef) h

def wildsOf : List (Nat × Nat) → List Nat
  | [] => []
  | (j, m) :: l => bif Nat.beq m 2 then j :: wildsOf l else wildsOf l
theorem wildsOf_spec : ∀ {ml : List (Nat × Nat)} {j : Nat}, lookN ml j = 2 → j ∈ wildsOf ml
  | [], j, h => by simp [lookN] at h
  | (i, m) :: l, j, h => by
    unfold lookN at h
    unfold wildsOf
    cases hb : Nat.beq j i with
    | true =>
      have := Nat.eq_of_beq_eq_true hb
      subst this
      rw [hb] at h
      simp only [cond_true] at h
      subst h
      exact List.mem_cons_self
    | false =>
      rw [hb] at h
      simp only [cond_false] at h
      have ih := wildsOf_spec h
      cases hm : Nat.beq m 2 with
      | true => exact List.mem_cons_of_mem _ ih
      | false => exact ih

def treeOK (n : Nat) (ops : Array Oper) (ml : List (Nat × Nat)) (t : OT) : Bool :=
  Region.noSelect ops && (ops.all fun o => match o.dst with | some d => Nat.blt d n | none => true) && treeB ops (lookN ml) (wildsOf ml) true t (Array.replicate ops.size false) ops.size && t.ltB ops.size

/-- a region that draws its order: walked in the orders of 't'; 'ml': the kinds of its operations, where not 0 -/
theorem G_drawX {P : Program} {n : Nat} {id : Nat} {ops : List Oper} {k : List It} {Q : Post} {f : Fm} {ds : List Deferred} {w : World} (M : Nat → Prop) (t : OT) (ml : List (Nat × Nat))
    (hm : P.follows .mixedOrders = true) (hB : treeOK n ops.toArray ml t = true)
    (h : X P M ops (fun f w => G P n k Q f ds w) (pickT ops ml t) f w) : G P n (.code (.region id ops.toArray true) :: k) Q f ds w := by
  refine G_code fun a ha => ?_
  simp only [treeOK, Bool.and_eq_true] at hB
  obtain ⟨⟨⟨h1, h3⟩, h4⟩, h5⟩ := hB
  refine wp_region_any hm ?_
  have hlt : t.ltB ops.length = true := by simpa using h5
  have htree := wpTree_of_X (n := n) (ds := ds) h3 t hlt f a w ha h
  have hR := wpAnyX_tree h1 (fun j hj => wildsOf_spec hj) ops.toArray.size t (Array.replicate ops.toArray.size false) a w h4 htree
  exact wpAny_of_X P M ops.toArray (lookN ml) (Q := lift n (H P n k Q)) (fun a w ⟨f, hr, hg⟩ => ⟨f, ds, hr, by rw [← G_def]; exact hg⟩) _ _ _ _ _ (Ext.drew w) hR

section
variable {P : Program} {M : Nat → Prop} {ops : List Oper} {K : DK} {rest : DT} {f : Fm} {wb : World}
variable {dst : Option Nat} {ty : TypeId} {pos : String} {aft : Array Edge} {g : Option (Nat × Bool)}

theorem X_nil (h : ∀ w, Ext No wb w → K f w) : X P M ops K .nil f wb := h
theorem X_fork {x y : DT} (hx : X P M ops K x f wb) (hy : X P M ops K y f wb) : X P M ops K (.fork x y) f wb := ⟨hx, hy⟩

/-- one value in every later world -/
theorem X_val0 {o : Oper} {d : Nat} {v : Value} (hr : ∀ w, Ext M wb w → (execOp (ev f) o).run P w = .ok (.value v) w) (hw : wantd ops f o = true) (hd : o.dst = some d)
    (h : X P M ops K rest (upd f d v) wb) : X P M ops K (.op o 0 rest) f wb := by
  unfold X
  rw [if_pos hw, if_neg (by decide), if_neg (by decide), hd]
  refine ⟨v, fun w he => ?_, h⟩
  rw [hr w (he.resolve_left (by decide))]
  exact ⟨rfl, Ext.refl _ _⟩
theorem X_valE {o : Oper} {d : Nat} {v v' : Value} (hr : ∀ w, Ext M wb w → (execOp (ev f) o).run P w = .ok (.value v) w) (hb : v = v') (hw : wantd ops f o = true) (hd : o.dst = some d)
    (h : X P M ops K rest (upd f d v') wb) : X P M ops K (.op o 0 rest) f wb := X_val0 hr hw hd (by rw [hb]; exact h)
/-- one value in every world -/
theorem X_pure {o : Oper} {d : Nat} {v : Value} (hr : ∀ w, (execOp (ev f) o).run P w = .ok (.value v) w) (hw : wantd ops f o = true) (hd : o.dst = some d)
    (h : X P M ops K rest (upd f d v) wb) : X P M ops K (.op o 3 rest) f wb := by
  unfold X
  rw [if_pos hw, if_neg (by decide), if_neg (by decide), hd]
  refine ⟨v, fun w he => ?_, h⟩
  rw [hr w]
  exact ⟨rfl, Ext.refl _ _⟩
theorem X_unwanted {o : Oper} {d m : Nat} (hw : wantd ops f o = false) (hd : o.dst = some d)
    (h : X P M ops K rest (upd f d undef) wb) : X P M ops K (.op o m rest) f wb := by
  unfold X
  rw [hw, if_neg (by simp), hd]
  exact h
/-- a call that makes memory -/
theorem X_call {d : Nat} {fn : FuncId} {xs : List Operand} {ts : Array TypeId} [CallT P fn] {Φ : World → Value → World → Prop}
    (hc : ∀ w, Ext No wb w → Calls P fn (xs.map (ev f)).toArray w (Ret (Φ w))) (hw : wantd ops f ⟨some d, .call ⟨.value (.func fn), xs.toArray, ts⟩, ty, pos, aft, g⟩ = true)
    (h : ∀ w v w', Ext No wb w → Φ w v w' → Ext M w w' ∧ X P M ops K rest (upd f d v) w') : X P M ops K (.op ⟨some d, .call ⟨.value (.func fn), xs.toArray, ts⟩, ty, pos, aft, g⟩ 1 rest) f wb := by
  unfold X
  rw [if_pos hw, if_pos rfl]
  intro w he
  rw [R_call]
  exact (hc w he).mono fun e w' ⟨v, h1, h2⟩ => ⟨v, h1, h w v w' he h2⟩
/-- an operation that makes memory -/
theorem X_make {o : Oper} {d : Nat} (hw : wantd ops f o = true) (hd : o.dst = some d)
    (h : ∀ w, Ext No wb w → ∃ v w', (execOp (ev f) o).run P w = .ok (.value v) w' ∧ Ext M w w' ∧ X P M ops K rest (upd f d v) w') : X P M ops K (.op o 1 rest) f wb := by
  unfold X
  rw [if_pos hw, if_pos rfl, hd]
  intro w he
  obtain ⟨v, w', h1, h2, h3⟩ := h w he
  rw [h1]
  exact ⟨h2, h3⟩
/-- an operation that writes -/
theorem X_wild {o : Oper} {d : Nat} (hw : wantd ops f o = true) (hd : o.dst = some d)
    (h : ∀ w, Ext No wb w → ∃ v w', (execOp (ev f) o).run P w = .ok (.value v) w' ∧ X P M ops K rest (upd f d v) w') : X P M ops K (.op o 2 rest) f wb := by
  unfold X
  rw [if_pos hw, if_neg (by decide), if_pos rfl, hd]
  intro w he
  obtain ⟨v, w', h1, h3⟩ := h w he
  rw [h1]
  exact h3
/-- a call that writes -/
theorem X_callW {d : Nat} {fn : FuncId} {xs : List Operand} {ts : Array TypeId} [CallT P fn] {Φ : World → Value → World → Prop}
    (hc : ∀ w, Ext No wb w → Calls P fn (xs.map (ev f)).toArray w (Ret (Φ w))) (hw : wantd ops f ⟨some d, .call ⟨.value (.func fn), xs.toArray, ts⟩, ty, pos, aft, g⟩ = true)
    (h : ∀ w v w', Ext No wb w → Φ w v w' → X P M ops K rest (upd f d v) w') : X P M ops K (.op ⟨some d, .call ⟨.value (.func fn), xs.toArray, ts⟩, ty, pos, aft, g⟩ 2 rest) f wb := by
  unfold X
  rw [if_pos hw, if_neg (by decide), if_pos rfl]
  intro w he
  rw [R_call]
  exact (hc w he).mono fun e w' ⟨v, h1, h2⟩ => ⟨v, h1, h w v w' he h2⟩
theorem X_wildN {o : Oper} (hw : wantd ops f o = true) (hd : o.dst = none)
    (h : ∀ w, Ext No wb w → ∃ w', (execOp (ev f) o).run P w = .ok .skip w' ∧ X P M ops K rest f w') : X P M ops K (.op o 2 rest) f wb := by
  unfold X
  rw [if_pos hw, if_neg (by decide), if_pos rfl, hd]
  intro w he
  obtain ⟨w', h1, h3⟩ := h w he
  rw [h1]
  exact h3
/-- a store -/
theorem X_store {t : Nat} {x y : Operand} {b i : Nat} {cs : List Value} {T : TypeId} {u : Value} [PlainT P t] (hx : ev f x = .pointer (some ⟨b, i, none⟩)) (hb : ∀ w, Ext No wb w → w.heap[b]? = some (Ob cs T)) (hv : lget cs i = some u) (h1 : (ev f y).oneCell' = true)
    (hw : wantd ops f ⟨none, .store t x y, ty, pos, aft, g⟩ = true)
    (h : ∀ w w', Ext No wb w → w'.heap[b]? = some (Ob (lset cs i (ev f y)) T) → Ext (fun k => k = b) w w' → w'.heap.size = w.heap.size → X P M ops K rest f w') : X P M ops K (.op ⟨none, .store t x y, ty, pos, aft, g⟩ 2 rest) f wb :=
  X_wildN hw rfl fun w he => ⟨_, R_storeB hx (hb w he) hv h1, h w _ he (heap_setCell (hb w he)) (Ext.setCell w ⟨b, i, none⟩ (ev f y) rfl) (by simp)⟩
end
attribute [irreducible] X
end Go.Proofs.YtmmcjnfgcaefpaaGreatDoor

/-
  Which kind of operation comes next, in a region that draws and writes. Each says the same twice.
-/
namespace Go.Proofs.YtmmcjnfgcaefpaaGreatDoor
section
variable {P : Program} {M : Nat → Prop} {ops : List Oper} {K : DK} {rest : DT} {f : Fm} {wb : World} {dst : Option Nat} {ty : TypeId} {pos : String} {aft : Array Edge} {g : Option (Nat × Bool)} {mm : Nat}
theorem cX_guard {op : Go.Op} {gg : Nat × Bool} (h : X P M ops K (.op ⟨dst, op, ty, pos, aft, some gg⟩ mm rest) f wb) : X P M ops K (.op ⟨dst, op, ty, pos, aft, some gg⟩ mm rest) f wb := h
theorem cX_move {x : Operand} (h : X P M ops K (.op ⟨dst, .move x, ty, pos, aft, g⟩ mm rest) f wb) : X P M ops K (.op ⟨dst, .move x, ty, pos, aft, g⟩ mm rest) f wb := h
theorem cX_assign {x : Operand} (h : X P M ops K (.op ⟨dst, .assign x, ty, pos, aft, g⟩ mm rest) f wb) : X P M ops K (.op ⟨dst, .assign x, ty, pos, aft, g⟩ mm rest) f wb := h
theorem cX_load {t : TypeId} {x : Operand} (h : X P M ops K (.op ⟨dst, .load t x, ty, pos, aft, g⟩ mm rest) f wb) : X P M ops K (.op ⟨dst, .load t x, ty, pos, aft, g⟩ mm rest) f wb := h
theorem cX_fieldAddr {t : TypeId} {x : Operand} {i : Nat} (h : X P M ops K (.op ⟨dst, .fieldAddr t x i, ty, pos, aft, g⟩ mm rest) f wb) : X P M ops K (.op ⟨dst, .fieldAddr t x i, ty, pos, aft, g⟩ mm rest) f wb := h
theorem cX_nilCheck {x : Operand} (h : X P M ops K (.op ⟨dst, .nilCheck x, ty, pos, aft, g⟩ mm rest) f wb) : X P M ops K (.op ⟨dst, .nilCheck x, ty, pos, aft, g⟩ mm rest) f wb := h
theorem cX_extract {x : Operand} {i : Nat} (h : X P M ops K (.op ⟨dst, .extract x i, ty, pos, aft, g⟩ mm rest) f wb) : X P M ops K (.op ⟨dst, .extract x i, ty, pos, aft, g⟩ mm rest) f wb := h
theorem cX_typeAssert {x : Operand} {t u : TypeId} {b : Bool} (h : X P M ops K (.op ⟨dst, .typeAssert x t u b, ty, pos, aft, g⟩ mm rest) f wb) : X P M ops K (.op ⟨dst, .typeAssert x t u b, ty, pos, aft, g⟩ mm rest) f wb := h
theorem cX_call {c : Call} (h : X P M ops K (.op ⟨dst, .call c, ty, pos, aft, g⟩ mm rest) f wb) : X P M ops K (.op ⟨dst, .call c, ty, pos, aft, g⟩ mm rest) f wb := h
theorem cX_pick {x y z : Operand} (h : X P M ops K (.op ⟨dst, .pick x y z, ty, pos, aft, g⟩ mm rest) f wb) : X P M ops K (.op ⟨dst, .pick x y z, ty, pos, aft, g⟩ mm rest) f wb := h
theorem cX_indexAddr {t : TypeId} {x y : Operand} (h : X P M ops K (.op ⟨dst, .indexAddr t x y, ty, pos, aft, g⟩ mm rest) f wb) : X P M ops K (.op ⟨dst, .indexAddr t x y, ty, pos, aft, g⟩ mm rest) f wb := h
theorem cX_store {t : TypeId} {x y : Operand} (h : X P M ops K (.op ⟨dst, .store t x y, ty, pos, aft, g⟩ mm rest) f wb) : X P M ops K (.op ⟨dst, .store t x y, ty, pos, aft, g⟩ mm rest) f wb := h
theorem cX_eql {t u : TypeId} {x y : Operand} (h : X P M ops K (.op ⟨dst, .binOp .eql t x y u, ty, pos, aft, g⟩ mm rest) f wb) : X P M ops K (.op ⟨dst, .binOp .eql t x y u, ty, pos, aft, g⟩ mm rest) f wb := h
theorem cX_neq {t u : TypeId} {x y : Operand} (h : X P M ops K (.op ⟨dst, .binOp .neq t x y u, ty, pos, aft, g⟩ mm rest) f wb) : X P M ops K (.op ⟨dst, .binOp .neq t x y u, ty, pos, aft, g⟩ mm rest) f wb := h
theorem cX_lss {t u : TypeId} {x y : Operand} (h : X P M ops K (.op ⟨dst, .binOp .lss t x y u, ty, pos, aft, g⟩ mm rest) f wb) : X P M ops K (.op ⟨dst, .binOp .lss t x y u, ty, pos, aft, g⟩ mm rest) f wb := h
theorem cX_leq {t u : TypeId} {x y : Operand} (h : X P M ops K (.op ⟨dst, .binOp .leq t x y u, ty, pos, aft, g⟩ mm rest) f wb) : X P M ops K (.op ⟨dst, .binOp .leq t x y u, ty, pos, aft, g⟩ mm rest) f wb := h
theorem cX_gtr {t u : TypeId} {x y : Operand} (h : X P M ops K (.op ⟨dst, .binOp .gtr t x y u, ty, pos, aft, g⟩ mm rest) f wb) : X P M ops K (.op ⟨dst, .binOp .gtr t x y u, ty, pos, aft, g⟩ mm rest) f wb := h
theorem cX_geq {t u : TypeId} {x y : Operand} (h : X P M ops K (.op ⟨dst, .binOp .geq t x y u, ty, pos, aft, g⟩ mm rest) f wb) : X P M ops K (.op ⟨dst, .binOp .geq t x y u, ty, pos, aft, g⟩ mm rest) f wb := h
theorem cX_add {t u : TypeId} {x y : Operand} (h : X P M ops K (.op ⟨dst, .binOp .add t x y u, ty, pos, aft, g⟩ mm rest) f wb) : X P M ops K (.op ⟨dst, .binOp .add t x y u, ty, pos, aft, g⟩ mm rest) f wb := h
theorem cX_sub {t u : TypeId} {x y : Operand} (h : X P M ops K (.op ⟨dst, .binOp .sub t x y u, ty, pos, aft, g⟩ mm rest) f wb) : X P M ops K (.op ⟨dst, .binOp .sub t x y u, ty, pos, aft, g⟩ mm rest) f wb := h
theorem cX_and {t u : TypeId} {x y : Operand} (h : X P M ops K (.op ⟨dst, .binOp .and t x y u, ty, pos, aft, g⟩ mm rest) f wb) : X P M ops K (.op ⟨dst, .binOp .and t x y u, ty, pos, aft, g⟩ mm rest) f wb := h
theorem cX_not {t : TypeId} {x : Operand} (h : X P M ops K (.op ⟨dst, .unOp .not t x, ty, pos, aft, g⟩ mm rest) f wb) : X P M ops K (.op ⟨dst, .unOp .not t x, ty, pos, aft, g⟩ mm rest) f wb := h
theorem cX_makeInterface {t : TypeId} {x : Operand} (h : X P M ops K (.op ⟨dst, .makeInterface t x, ty, pos, aft, g⟩ mm rest) f wb) : X P M ops K (.op ⟨dst, .makeInterface t x, ty, pos, aft, g⟩ mm rest) f wb := h
theorem cX_convert {t u : TypeId} {x : Operand} (h : X P M ops K (.op ⟨dst, .convert t u x, ty, pos, aft, g⟩ mm rest) f wb) : X P M ops K (.op ⟨dst, .convert t u x, ty, pos, aft, g⟩ mm rest) f wb := h
theorem cX_box {t : TypeId} {x : Operand} (h : X P M ops K (.op ⟨dst, .box t x, ty, pos, aft, g⟩ mm rest) f wb) : X P M ops K (.op ⟨dst, .box t x, ty, pos, aft, g⟩ mm rest) f wb := h
theorem cX_alloc {t : TypeId} (h : X P M ops K (.op ⟨dst, .alloc t, ty, pos, aft, g⟩ mm rest) f wb) : X P M ops K (.op ⟨dst, .alloc t, ty, pos, aft, g⟩ mm rest) f wb := h
theorem cX_build {t : TypeId} {ps : Array (Nat × Operand)} (h : X P M ops K (.op ⟨dst, .build t ps, ty, pos, aft, g⟩ mm rest) f wb) : X P M ops K (.op ⟨dst, .build t ps, ty, pos, aft, g⟩ mm rest) f wb := h
theorem cX_buildSlice {t : TypeId} {i : Nat} {ps : Array (Nat × Operand)} (h : X P M ops K (.op ⟨dst, .buildSlice t i ps, ty, pos, aft, g⟩ mm rest) f wb) : X P M ops K (.op ⟨dst, .buildSlice t i ps, ty, pos, aft, g⟩ mm rest) f wb := h
theorem cX_slice {t : TypeId} {x : Operand} {l hi m : Option Operand} (h : X P M ops K (.op ⟨dst, .slice t x l hi m, ty, pos, aft, g⟩ mm rest) f wb) : X P M ops K (.op ⟨dst, .slice t x l hi m, ty, pos, aft, g⟩ mm rest) f wb := h
theorem cX_index {t : TypeId} {x y : Operand} (h : X P M ops K (.op ⟨dst, .index t x y, ty, pos, aft, g⟩ mm rest) f wb) : X P M ops K (.op ⟨dst, .index t x y, ty, pos, aft, g⟩ mm rest) f wb := h
theorem cX_lookup {t : TypeId} {x y : Operand} {b : Bool} (h : X P M ops K (.op ⟨dst, .lookup t x y b, ty, pos, aft, g⟩ mm rest) f wb) : X P M ops K (.op ⟨dst, .lookup t x y b, ty, pos, aft, g⟩ mm rest) f wb := h
theorem cX_mapUpdate {t : TypeId} {x y z : Operand} (h : X P M ops K (.op ⟨dst, .mapUpdate t x y z, ty, pos, aft, g⟩ mm rest) f wb) : X P M ops K (.op ⟨dst, .mapUpdate t x y z, ty, pos, aft, g⟩ mm rest) f wb := h
theorem cX_makeMap {t : TypeId} {r : Option Operand} (h : X P M ops K (.op ⟨dst, .makeMap t r, ty, pos, aft, g⟩ mm rest) f wb) : X P M ops K (.op ⟨dst, .makeMap t r, ty, pos, aft, g⟩ mm rest) f wb := h
theorem cX_makeSlice {t : TypeId} {x y : Operand} (h : X P M ops K (.op ⟨dst, .makeSlice t x y, ty, pos, aft, g⟩ mm rest) f wb) : X P M ops K (.op ⟨dst, .makeSlice t x y, ty, pos, aft, g⟩ mm rest) f wb := h
theorem cX_defer {c : Call} (h : X P M ops K (.op ⟨dst, .defer c, ty, pos, aft, g⟩ mm rest) f wb) : X P M ops K (.op ⟨dst, .defer c, ty, pos, aft, g⟩ mm rest) f wb := h
theorem cX_makeFunc {fn : Fn} {a b : Array Operand} (h : X P M ops K (.op ⟨dst, .makeFunc fn a b, ty, pos, aft, g⟩ mm rest) f wb) : X P M ops K (.op ⟨dst, .makeFunc fn a b, ty, pos, aft, g⟩ mm rest) f wb := h
end
end Go.Proofs.YtmmcjnfgcaefpaaGreatDoor

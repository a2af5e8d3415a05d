/-
  A part of the proof that laws.FnClosed returns true at every input: the walk's own rules and the contracts of functions, in build order.
  Its conditions are those of the statement: see the last text.
-/
import Derived.Test.YtjilnjifegeceaaGreatDoorFnClosedPartG

/-
  The unifier's 'nify' on two types of one kind, whatever it says of the parts.
-/
namespace Go.Proofs.YtjilnjifegeceaaGreatDoor
set_option maxRecDepth 100000
set_option maxHeartbeats 4000000
attribute [local irreducible] Calls execOp

variable {σ : Type} {C : UC σ} {s : σ} {d : Nat}

theorem nf_named {Q : Bool → σ → Prop} {m m' : Int} {a b : Nat} {vs vs' : List Value} {da db oa ob : Nat} {ca cb : Value} {ra rb : List Value} (hm : Md m m') (hd : d + 1 ≤ 50) (hx : ArgsOf C.H a vs') (hy : ArgsOf C.H b vs) (hoa : Orig C.H a da) (hob : Orig C.H b db) (hda : C.H da = some (Ob (ca :: ptr oa :: ra) 148)) (hdb : C.H db = some (Ob (cb :: ptr ob :: rb) 148)) (hla : LiveH C.H oa) (hlb : LiveH C.H ob) (hl : LiveH C.H a) (hl' : LiveH C.H b)
    (e : (Nat.beq 80 80 && peq (some ⟨a, 0, none⟩) (some ⟨b, 0, none⟩)) = false) (hlen : vs.length = vs'.length) (hbd : vs.length < 9223372036854775808) {pre : Nat → σ → Prop} (h0 : pre 0 s)
    (ih : ∀ i v v' s', i < vs.length → vs[i]? = some v → vs'[i]? = some v' → pre i s' → Nf C m v v' (d + 1) s' fun r s1 => bif r then pre (i + 1) s1 else Q false s1) (hend : ∀ s', pre vs.length s' → Q (peq (some ⟨ob, 0, none⟩) (some ⟨oa, 0, none⟩)) s') :
    Nf C m (.iface 80 (ptr a)) (.iface 80 (ptr b)) d s Q := by
  obtain ⟨tx, px, capx, hx1, hx2, hx3⟩ := hx
  obtain ⟨ty', py, capy, hy1, hy2, hy3⟩ := hy
  have en : ((vs.length : Int) != (vs'.length : Int)) = false := by rw [hlen]; simp
  intro w hw
  have hub := hw.ub
  unfold UCells at hub
  have hinc : Value.int .i64 (IntKind.i64.wrap ((d : Int) + 1)) = .int .i64 ((d + 1 : Nat) : Int) := by rw [wrap_i64 (by omega) (by omega)]; rfl
  have hle : decide (((d + 1 : Nat) : Int) > 50) = false := decide_eq_false (by omega)
  have ene : (!(Nat.beq 80 80 && peq (some ⟨b, 0, none⟩) (some ⟨a, 0, none⟩))) = true := by rw [peq_comm, e]; rfl
  unfold NfAt
  rcases hm with ⟨rfl, rfl⟩ | ⟨rfl, rfl⟩ | ⟨rfl, rfl⟩ | ⟨rfl, rfl⟩
  all_goals
    (refine calls_enter_d Tryz.func111 Tryz.ntmps111 rfl rfl ?_)
    (refine r94 ?_)
    refine L_box rfl rfl rfl fun b5 w1 hn1 => ?_
    have hub1 := hn1.ext.heap (fun x => x) hub
    have h51 := hn1.here
    (repeat (first | (refine cL ?_; first | (refine cL_guard ?_; refine L_unwanted rfl rfl rfl ?_) | (refine cL_add ?_; refine L_valE (R_addI rfl rfl) hinc rfl rfl rfl ?_)) | refine r95 ?_))
    refine L_store rfl hub1 rfl rfl rfl fun w2 hub2 e2 s2 => ?_
    have hb5 : b5 ≠ C.u := by have := lt_of_heap hub; have := hn1.fresh; omega
    have hbM : ¬ C.M b5 := fun x => by have := hw.ml _ x; have := hn1.fresh; omega
    have hw2 : UW C s (d + 1) w2 := (hw.ext hn1.ext).deep hub2 e2
    have x2 : Ext C.M w w2 := hn1.ext.of_no.trans (e2.mono fun i _ h => by rw [h]; exact C.hu)
    have h52 := e2.heap (fun x => hb5 x) h51
    clear hub1 h51 e2 hub2
    have hub2 := hw2.ub
    unfold UCells at hub2
    have hA := hw2.ag
    (repeat (first | (refine cL ?_; first | refine L_val (R_makeFunc (xs := [.tmp 5])) rfl rfl rfl ?_) | refine r95 ?_))
    refine L_defer (R_deferV rfl) rfl rfl ?_
    (repeat (first | (refine cL ?_; first | (refine cL_guard ?_; refine L_unwanted rfl rfl rfl ?_) | (refine cL_call ?_; first | refine L_callI (unalias_any _ _ _ rfl) rfl rfl ?_ | refine L_callI (asNamed_yes _ _) rfl rfl ?_ | refine L_callI (abtp_no _ _ _ _ rfl rfl) rfl rfl ?_ | refine L_callI (isTypeLit_named _ _) rfl rfl ?_) | (refine cL_eql ?_; refine L_valB (R_eqIf rfl rfl (hA.live hl) (hA.live hl')) e rfl rfl rfl ?_) | (refine cL_gtr ?_; refine L_valB (R_gtI rfl rfl) hle rfl rfl rfl ?_) | (refine cL_and ?_; refine L_val (R_andI rfl rfl) rfl rfl rfl ?_)) | refine r95 ?_))
    (refine G_draw No (0 :: 1 :: 2 :: 3 :: 4 :: 5 :: 6 :: 7 :: []) [] follows (by kernel_rfl) rfl ?_)
    have hAg : ∀ w', Ext No w2 w' → Agree C.H w' := fun _ he => hA.ext0 he
    (repeat (first | (refine cD_guard ?_; refine D_unwanted rfl rfl ?_) | (refine cD_load ?_; refine D_val0 (fun w he => R_loadB rfl (he.heap (fun x => x) h52) rfl) rfl rfl ?_) | (refine cD_call ?_; refine D_callQ (fun w he => Is.qt (abtp_no _ _ _ _ rfl rfl)) rfl ?_) | refine r96 hAg ?_))
    refine D_nil fun w3 he3 => ?_
    refine G_frame (l := [(1, .iface 80 (ptr b)), (2, .iface 80 (ptr a)), (3, .int .u64 _), (4, .pointer none), (5, ptr b5), (12, .pointer none), (13, .pointer none)]) ⟨rfl, rfl, rfl, rfl, rfl, rfl, rfl, trivial⟩ fun f0 => ?_
    have hw3 := hw2.ext he3
    have h53 := he3.heap (fun x => x) h52
    have x3 : Ext C.M w w3 := x2.trans he3.of_no
    clear hub2
    have hub3 := hw3.ub
    unfold UCells at hub3
    have hA3 := hw3.ag
    have hAg3 : ∀ w', Ext C.M w3 w' → Agree C.H w' := fun _ he => hA3.ext he C.hH
    clear hAg hA hub h52
    (repeat (first | (refine cL ?_; first | (refine cL_guard ?_; refine L_unwanted rfl rfl rfl ?_) | (refine cL_call ?_; first | refine L_callI (unalias_any _ _ _ rfl) rfl rfl ?_ | refine L_callI (assert_true _) rfl rfl ?_ | refine L_callI (hx1 _ hA3) rfl rfl ?_ | refine L_callI (hx2 _ hA3) rfl rfl ?_ | refine L_callI (hy1 _ hA3) rfl rfl ?_ | refine L_callI (hy2 _ hA3) rfl rfl ?_ | refine L_callI (isTypeParam_no _ _ _ rfl rfl) rfl rfl ?_ | refine L_callI (asNamed_yes _ _) rfl rfl ?_) | (refine cL_neq ?_; first | refine L_valB (R_neIf rfl rfl (hA3.live hl') (hA3.live hl)) ene rfl rfl rfl ?_ | refine L_valB (R_neI rfl rfl) en rfl rfl rfl ?_) | (refine cL_and ?_; refine L_val (R_andI rfl rfl) rfl rfl rfl ?_) | (refine cL_or ?_; refine L_valE (R_orI rfl rfl) (v' := .int .u64 3) rfl rfl rfl rfl ?_)) | refine r95 ?_))
    refine G_loop (NfI C 980 979 vs.length [(3, .int .u64 _), (4, .pointer none), (5, ptr b5), (88, ptr b), (89, ptr a), (91, .slice px vs'.length capx), (978, .slice py vs.length capy)] [{ target := .fn (.func 142) #[ptr b5], args := #[] }] b5 d w pre) (fun f _ _ => countM 980 979 f)
      ⟨rfl, _, 0, s, with_self ⟨rfl, rfl, rfl, rfl, rfl, rfl, rfl, rfl, rfl, trivial⟩, Nat.zero_le _, h0, hw3, x3, h53⟩ ?_
    rintro f ds wr ⟨rfl, f0, i, sr, rfl, hi, hpre, hwr, hxr, h5r⟩
    have hAr := hwr.ag
    by_cases h : i < vs.length
    · have hb : decide ((i : Int) < (vs.length : Int)) = true := decide_eq_true (by omega)
      obtain ⟨v, hv⟩ : ∃ v, vs[i]? = some v := ⟨_, List.getElem?_eq_getElem h⟩
      obtain ⟨v', hv'⟩ : ∃ v', vs'[i]? = some v' := ⟨_, List.getElem?_eq_getElem (by omega)⟩
      have hih := ih i v v' sr h hv hv' hpre
      obtain ⟨b1, cs, rfl, h2, n2⟩ := hy3 i v hv
      obtain ⟨b1', cs', rfl, h2', n2'⟩ := hx3 i v' hv'
      have hAgr : ∀ w', Ext C.M wr w' → Agree C.H w' := fun _ he => hAr.ext he C.hH
      (repeat (first | (refine cL ?_; first | (refine cL_guard ?_; refine L_unwanted rfl rfl rfl ?_) | (refine cL_load ?_; refine L_val (R_loadH hAr rfl h2 n2) rfl rfl rfl ?_) | (refine cL_lss ?_; refine L_valB (R_ltI rfl rfl) hb rfl rfl rfl ?_) | (refine cL_indexAddr ?_; refine L_valE (R_ia rfl rfl (by omega) (by omega)) (ia0 _ _) rfl rfl rfl ?_)) | refine r95 ?_))
      (refine G_drawX C.M (.op 0 (.op 1 (.op 2 (.op 3 (.op 4 (.op 5 (.op 6 (.op 7 (.op 8 (.op 9 .nil)))))))))) [(8, 1)] follows (by kernel_rfl) ?_)
      (repeat (first | (refine cX_guard ?_; refine X_unwanted rfl rfl ?_) | (refine cX_load ?_; first | refine X_val0 (fun w he => R_loadB rfl (he.heap hbM h5r) rfl) rfl rfl ?_ | refine X_val0 (fun w he => R_loadH (hAgr w he) rfl h2' n2') rfl rfl ?_) | (refine cX_indexAddr ?_; refine X_valE (fun _ _ => R_ia rfl rfl (by omega) (by omega)) (ia0 _ _) rfl rfl ?_) | refine r98 hAgr ?_))
      refine X_call (Φ := fun w v w' => ∃ r s', v = .bool r ∧ (bif r then pre (i + 1) s' else Q false s') ∧ UW C s' (d + 1) w' ∧ Ext C.M w w') (fun w he => hih w (hwr.ext he)) rfl fun w4 v4 w5 he4 ⟨r, s1, hv4, hq, hw5, x5⟩ => ⟨x5, ?_⟩
      subst hv4
      have h55 := x5.heap hbM (he4.heap (fun x => x) h5r)
      have x35 : Ext C.M w w5 := hxr.trans (he4.of_no.trans x5)
      have hAg5 : ∀ w', Ext C.M w5 w' → Agree C.H w' := fun _ he => hw5.ag.ext he C.hH
      (refine r99 hAg5 ?_)
      refine X_nil fun w6 he6 => ?_
      cases r with
      | false =>
        (refine r94 ?_)
        refine G_ret ?_
        intro tmps htm
        exact nf_leave (fun w => ResV.tmp rfl _ w tmps htm) rfl (he6.heap (fun x => x) h55) (hw5.ext he6) (by omega) hq (x35.trans he6.of_no)
      | true =>
        (repeat (first | (refine cL ?_; first | (refine cL_guard ?_; refine L_unwanted rfl rfl rfl ?_) | (refine cL_add ?_; refine L_valE (R_addI rfl rfl) (succ_i64 h hbd) rfl rfl rfl ?_)) | refine r95 ?_))
        refine G_inv ⟨⟨rfl, _, i + 1, s1, with_self ⟨rfl, rfl, rfl, rfl, rfl, rfl, rfl, rfl, rfl, trivial⟩, h, hq, hw5.ext he6, x35.trans he6.of_no, he6.heap (fun x => x) h55⟩, ?_⟩
        show ((vs.length : Int) - ((i + 1 : Nat) : Int)).toNat < ((vs.length : Int) - (i : Int)).toNat
        omega
    · have hb : decide ((i : Int) < (vs.length : Int)) = false := decide_eq_false (by omega)
      have hil : i = vs.length := by omega
      subst hil
      (repeat (first | (refine cL ?_; first | (refine cL_guard ?_; refine L_unwanted rfl rfl rfl ?_) | (refine cL_lss ?_; refine L_valB (R_ltI rfl rfl) hb rfl rfl rfl ?_)) | refine G_exit rfl ?_ | refine r95 ?_))
      refine L_callQ (identicalOrigin_any wr hAr hob hoa hdb hda hlb hla) rfl rfl fun w1 hw1 => ?_
      (refine r94 ?_)
      refine G_ret ?_
      intro tmps htm
      exact nf_leave (fun w => ResV.tmp rfl _ w tmps htm) rfl (hw1.heap (fun x => x) h5r) (hwr.ext hw1) (by omega) (hend _ hpre) (hxr.trans hw1.of_no)

end Go.Proofs.YtjilnjifegeceaaGreatDoor

/-
  The unifier's 'nify' on two types whose heads are alike, whatever it says of the parts.
-/
namespace Go.Proofs.YtjilnjifegeceaaGreatDoor
set_option maxRecDepth 100000
set_option maxHeartbeats 4000000

variable {σ : Type} {C : UC σ} {s : σ} {d : Nat}

theorem Nf.mono {Q Q' : Bool → σ → Prop} {m : Int} {x y : Value} (h : Nf C m x y d s Q) (hq : ∀ r s', Q r s' → Q' r s') : Nf C m x y d s Q' := fun w hw =>
  Calls.mono (h w hw) fun _ _ ⟨v, he, r, s', hv, h1, h2⟩ => ⟨v, he, r, s', hv, hq _ _ h1, h2⟩

def kTy (k : Int) : Nat :=
  if k = 0 then 156 else if k = 1 then 80 else if k = 2 then 72 else if k = 4 then 95 else if k = 5 then 97 else if k = 6 then 99 else if k = 7 then 101 else if k = 8 then 103 else if k = 9 then 111 else 113

theorem Sh.kTy {E : Env} {H : Hp} {k n c : Int} {b : Bool} {nms : List ByteArray} {vs : List Value} {v : Value} (h : Sh E H k n c b nms vs v) : ∃ a, v = .iface (kTy k) (ptr a) := by
  cases h <;> exact ⟨_, rfl⟩

structure Heads (k n c : Int) (b : Bool) (nms : List ByteArray) (vs : List Value) (n' c' : Int) (b' : Bool) (nms' : List ByteArray) (vs' : List Value) : Prop where
  len : vs.length = vs'.length
  n : k = 0 ∨ k = 1 ∨ k = 2 ∨ k = 6 ∨ k = 8 → n = n'
  c : k = 10 → c = c' ∧ b = b'
  nm : k = 9 → ∀ (i : Nat) (nm nm' : ByteArray), nms[i]? = some nm → nms'[i]? = some nm' → beqB nm nm' = true

theorem nf_gate {Q : Bool → σ → Prop} {m : Int} {T a b : Nat} [PtrEq Tryz.prog T] [CmpT Tryz.prog T] (hd : d + 1 ≤ 50) (hl : LiveH C.H a) (hsame : a = b → Q true s)
    (go : (Nat.beq T T && peq (some ⟨a, 0, none⟩) (some ⟨b, 0, none⟩)) = false → Nf C m (.iface T (ptr a)) (.iface T (ptr b)) d s Q) : Nf C m (.iface T (ptr a)) (.iface T (ptr b)) d s Q := by
  cases hpq : peq (some ⟨a, 0, none⟩) (some ⟨b, 0, none⟩) with
  | true =>
    have hab := peq_true hpq
    subst hab
    exact nf_eq hd (.inr ⟨_, rfl, hl⟩) (.inr ⟨_, rfl, hl⟩) (by rw [nbeq_self, hpq]; rfl) (hsame rfl)
  | false => exact go (by rw [hpq, Bool.and_false])

theorem pre_skip {pre : Nat → σ → Prop} {vs : List Value} (hk : ∀ (i : Nat) (x : Value) (s' : σ), vs[i]? = some x → pre i s' → pre (i + 1) s') (h0 : pre 0 s) : pre vs.length s := by
  have key : ∀ n, n ≤ vs.length → pre n s := by
    intro n
    induction n with
    | zero => intro _; exact h0
    | succ n ih => intro hn; exact hk n _ s (List.getElem?_eq_getElem (by omega)) (ih (by omega))
  exact key _ (Nat.le_refl _)

theorem nf_tup {Q : Bool → σ → Prop} {m m' : Int} {vs vs' : List Value} {x y : Value} (hm : Md m m') (hd : d + 1 ≤ 50) (hx : TupIs C.H vs x) (hy : TupIs C.H vs' y) (hlen : vs.length = vs'.length) (hbd : vs.length < 9223372036854775808) {pre : Nat → σ → Prop} (h0 : pre 0 s)
    (hk : ∀ (i : Nat) (x : Value) (s' : σ), vs[i]? = some x → vs'[i]? = some x → pre i s' → pre (i + 1) s')
    (ih : ∀ i v v' s', i < vs.length → vs[i]? = some v → vs'[i]? = some v' → pre i s' → Nf C m v v' (d + 1) s' fun r s1 => bif r then pre (i + 1) s1 else Q false s1) (hend : ∀ s', pre vs.length s' → Q true s') :
    Nf C m (.iface 115 x) (.iface 115 y) d s Q := by
  rcases hx with ⟨rfl, rfl⟩ | ⟨a, sl, rfl, hx, hs, hne⟩
  · rcases hy with ⟨rfl, rfl⟩ | ⟨b, sl', rfl, hy, hs', hne'⟩
    · exact nf_eq hd (.inl rfl) (.inl rfl) rfl (hend s h0)
    · exact absurd (List.length_eq_zero_iff.1 hlen.symm) hne'
  · rcases hy with ⟨rfl, rfl⟩ | ⟨b, sl', rfl, hy, hs', hne'⟩
    · exact absurd (List.length_eq_zero_iff.1 hlen) hne
    · refine nf_gate hd ⟨_, _, _, hx⟩ (fun hab => ?_) fun e => nf_tuple hm hd hx hy hs hs' e hlen hbd h0 ih hend
      subst hab
      have hvs : vs = vs' := TupIs.same (.inr ⟨_, _, rfl, hx, hs, hne⟩) (.inr ⟨_, _, rfl, hy, hs', hne'⟩)
      subst hvs
      exact hend s (pre_skip (fun i x s' h1 h2 => hk i x s' h1 h1 h2) h0)

theorem nf_alike {E : Env} {Q : Bool → σ → Prop} {m m' k n c n' c' : Int} {b b' : Bool} {nms nms' : List ByteArray} {vs vs' : List Value} {v v' : Value} (hm : Md m m') (hE : EnvOK E C.H) (hp : Props C.H) (hS : Sh E C.H k n c b nms vs v) (hS' : Sh E C.H k n' c' b' nms' vs' v') (hh : Heads k n c b nms vs n' c' b' nms' vs')
    (hd : d + 2 ≤ 50) (hbd : vs.length < 9223372036854775808) (hsame : v = v' → Q true s) {pre : Nat → σ → Prop} (h0 : pre 0 s) (hend : ∀ s', pre vs.length s' → Q true s')
    (hk : ∀ (i : Nat) (x : Value) (s' : σ), vs[i]? = some x → vs'[i]? = some x → pre i s' → pre (i + 1) s')
    (ih : ∀ (i : Nat) (x x' : Value) (s' : σ) (dd : Nat) (mm : Int), vs[i]? = some x → vs'[i]? = some x' → pre i s' → (dd = d + 1 ∨ dd = d + 2) → (mm = m ∨ mm = m') →
      Nf C mm x x' dd s' (fun r s1 => bif r then pre (i + 1) s1 else Q false s1) ∧ Nf C mm x' x dd s' (fun r s1 => bif r then pre (i + 1) s1 else Q false s1)) : Nf C m v v' d s Q := by
  have hmm : Md m' m' := by
    rcases hm with ⟨rfl, rfl⟩ | ⟨rfl, rfl⟩ | ⟨rfl, rfl⟩ | ⟨rfl, rfl⟩ <;> simp [Md]
  have hlast : ∀ {n : Nat} {s' : σ} {dd : Nat} {mm : Int} {x x' : Value}, n + 1 = vs.length → Nf C mm x x' dd s' (fun r s1 => bif r then pre (n + 1) s1 else Q false s1) → Nf C mm x x' dd s' Q := fun hn h => h.mono fun r s' hr => by
    cases r with
    | true => exact hend _ (hn ▸ hr)
    | false => exact hr
  obtain ⟨b0, hb0⟩ := hS'.kTy
  subst hb0
  have hlen := hh.len
  cases hS with
  | basic h h0' =>
    obtain ⟨-, rfl, h0'', i', s', q'⟩ := hS'.inv_basic rfl
    refine nf_gate (by omega) ⟨_, _, _, h⟩ (fun hab => hsame (by rw [hab]; rfl)) fun e => nf_basic hm (by omega) h q' e ?_
    have hn := hh.n (.inl rfl)
    subst hn
    rw [beq_self_eq_true]
    exact hend s h0
  | pointer h =>
    obtain ⟨-, u', rfl, q'⟩ := hS'.inv_pointer rfl
    exact nf_gate (by omega) ⟨_, _, _, h⟩ (fun hab => hsame (by rw [hab]; rfl)) fun e => nf_pointer hm (by omega) h q' e (hlast (n := 0) rfl (ih 0 _ _ s _ _ rfl rfl h0 (.inl rfl) (.inr rfl)).1)
  | slice h =>
    obtain ⟨-, u', rfl, q'⟩ := hS'.inv_slice rfl
    exact nf_gate (by omega) ⟨_, _, _, h⟩ (fun hab => hsame (by rw [hab]; rfl)) fun e => nf_slice hm (by omega) h q' e (hlast (n := 0) rfl (ih 0 _ _ s _ _ rfl rfl h0 (.inl rfl) (.inr rfl)).1)
  | array h h0' =>
    obtain ⟨-, h0'', u', rfl, q'⟩ := hS'.inv_array rfl
    have hn := hh.n (by simp)
    subst hn
    exact nf_gate (by omega) ⟨_, _, _, h⟩ (fun hab => hsame (by rw [hab]; rfl)) fun e => nf_array hm (by omega) h q' h0' e (hlast (n := 0) rfl (ih 0 _ _ s _ _ rfl rfl h0 (.inl rfl) (.inr rfl)).1)
  | chan h h0' h3 =>
    obtain ⟨-, u', rfl, q'⟩ := hS'.inv_chan rfl
    have hn := hh.n (by simp)
    subst hn
    exact nf_gate (by omega) ⟨_, _, _, h⟩ (fun hab => hsame (by rw [hab]; rfl)) fun e => nf_chan hm (by omega) h q' e (hlast (n := 0) rfl (ih 0 _ _ s _ _ rfl rfl h0 (.inl rfl) (.inr rfl)).1)
  | map h =>
    obtain ⟨-, u1', u2', rfl, q'⟩ := hS'.inv_map rfl
    exact nf_gate (by omega) ⟨_, _, _, h⟩ (fun hab => hsame (by rw [hab]; rfl)) fun e => nf_map hm (by omega) h q' e (P1 := pre 1) (ih 0 _ _ s _ _ rfl rfl h0 (.inl rfl) (.inr rfl)).1
      fun s1 h1 => hlast (n := 1) rfl (ih 1 _ _ s1 _ _ rfl rfl h1 (.inl rfl) (.inr rfl)).1
  | param hn h0' =>
    obtain ⟨-, rfl, h0'', q'⟩ := hS'.inv_param rfl
    have hnn := hh.n (by simp)
    subst hnn
    rw [hn] at q'
    injection q' with q'
    subst q'
    exact nf_gate (by omega) (hE.pl _ (List.mem_of_getElem? hn)) (fun hab => hsame rfl) fun e => by rw [nbeq_self, peq_self] at e; cases e
  | struct h hs hn hl =>
    obtain ⟨-, sl', q', hs', hn', hln'⟩ := hS'.inv_struct rfl
    exact nf_gate (by omega) ⟨_, _, _, h⟩ (fun hab => hsame (by rw [hab]; rfl)) fun e => nf_struct hm (by omega) hp h q' hs hs' hn (hh.nm rfl) e hlen hbd h0
      (fun i x x' s' _ h1 h2 h3 => (ih i x x' s' _ _ h1 h2 h3 (.inl rfl) (.inr rfl)).1) hend
  | func h hx hy h0' h1 =>
    obtain ⟨-, x', y', q', hx', hy', h0'', h1'⟩ := hS'.inv_func rfl
    obtain ⟨hc1, hc2⟩ := hh.c rfl
    subst hc1
    subst hc2
    have ht : (vs.take c.toNat).length = c.toNat := by rw [List.length_take]; omega
    have ht' : (vs'.take c.toNat).length = c.toNat := by rw [List.length_take]; omega
    have hdr : (vs.drop c.toNat).length = vs.length - c.toNat := List.length_drop
    have hdr' : (vs'.drop c.toNat).length = vs'.length - c.toNat := List.length_drop
    refine nf_gate (by omega) ⟨_, _, _, h⟩ (fun hab => hsame (by rw [hab]; rfl)) fun e => nf_func hm (by omega) h q' (P1 := pre c.toNat) e ?_ ?_
    · refine nf_tup hmm (by omega) hx hx' (by omega) (by omega) (pre := pre) h0 (fun i z s' e1 e2 e3 => ?_) (fun i z z' s' hi e1 e2 e3 => ?_) (fun s' hs' => by rw [ht] at hs'; exact hs')
      · have hi : i < c.toNat := by have := (List.getElem?_eq_some_iff.1 e1).1; omega
        rw [List.getElem?_take_of_lt hi] at e1 e2
        exact hk i z s' e1 e2 e3
      · have hi : i < c.toNat := by omega
        rw [List.getElem?_take_of_lt hi] at e1 e2
        exact (ih i z z' s' _ _ e1 e2 e3 (.inr rfl) (.inr rfl)).1
    · intro s1 hs1
      refine nf_tup hmm (by omega) hy hy' (by omega) (by omega) (pre := fun i => pre (c.toNat + i)) hs1 (fun i z s' e1 e2 e3 => ?_) (fun i z z' s' hi e1 e2 e3 => ?_) (fun s' hs' => hend s' ?_)
      · rw [List.getElem?_drop] at e1 e2
        exact hk _ z s' e1 e2 e3
      · rw [List.getElem?_drop] at e1 e2
        exact (ih _ z z' s' _ _ e1 e2 e3 (.inr rfl) (.inr rfl)).1
      · have : c.toNat + (vs.drop c.toNat).length = vs.length := by omega
        rw [this] at hs'
        exact hs'
  | named hn h0' ho h hu =>
    obtain ⟨-, h0'', hcs⟩ := hS'.inv_named rfl
    have hnn := hh.n (by simp)
    subst hnn
    obtain ⟨cd, od, rd, g1, g2, g3⟩ := orig_named hE hn
    rcases hcs with ⟨rfl, o', _, _, _, _, _, _, hn', ho', q', hu'⟩ | ⟨u', us', i', tl', d', _, _, _, _, _, _, _, sl', rfl, hn', q', hi', ht', hs', hu'⟩
    · rw [hn] at hn'
      injection hn' with hn'
      subst hn'
      exact nf_gate (by omega) ⟨_, _, _, h⟩ (fun hab => hsame rfl) fun e => by rw [nbeq_self, peq_self] at e; cases e
    · simp at hlen
  | inst hn h0' h hi ht hs hu =>
    obtain ⟨-, h0'', hcs⟩ := hS'.inv_named rfl
    have hnn := hh.n (by simp)
    subst hnn
    obtain ⟨cd, od, rd, g1, g2, g3⟩ := orig_named hE hn
    rcases hcs with ⟨rfl, o', _, _, _, _, _, _, hn', ho', q', hu'⟩ | ⟨u', us', i', tl', d', _, _, _, _, _, _, _, sl', rfl, hn', q', hi', ht', hs', hu'⟩
    · simp at hlen
    · rw [hn] at hn'
      injection hn' with hn'
      subst hn'
      exact nf_gate (by omega) ⟨_, _, _, h⟩ (fun hab => hsame (by rw [hab]; rfl)) fun e => nf_named hm (by omega) (argsOf_inst h hi ht hs) (argsOf_inst q' hi' ht' hs') (.inr ⟨_, _, _, _, _, _, _, _, _, h, hi⟩) (.inr ⟨_, _, _, _, _, _, _, _, _, q', hi'⟩) g2 g2 g3 g3 ⟨_, _, _, h⟩ ⟨_, _, _, q'⟩ e hlen.symm (by omega) h0
        (fun i x x' s' _ e1 e2 e3 => (ih i x' x s' _ _ e2 e1 e3 (.inl rfl) (.inl rfl)).2) (fun s' hs' => by rw [peq_self]; exact hend s' (hlen ▸ hs'))
end Go.Proofs.YtjilnjifegeceaaGreatDoor

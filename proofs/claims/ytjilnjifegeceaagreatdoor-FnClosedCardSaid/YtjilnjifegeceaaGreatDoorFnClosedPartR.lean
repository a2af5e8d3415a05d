/-
  A part of the proof that laws.FnClosed returns true at every input: the walk's own rules and the contracts of functions, in build order.
  Its conditions are those of the statement: see the last text.
-/
import Derived.Test.YtjilnjifegeceaaGreatDoorFnClosedPartQ

/-
  The unifier's 'nify', exactly, on two types without type parameters: it says whether they are identical.
-/
namespace Go.Proofs.YtjilnjifegeceaaGreatDoor
set_option maxRecDepth 100000
set_option maxHeartbeats 4000000

variable {σ : Type}

theorem Sh.liveAt {E : Env} {H : Hp} (hE : EnvOK E H) {k n c : Int} {b : Bool} {nms : List ByteArray} {vs : List Value} {v : Value} (h : Sh E H k n c b nms vs v) {T a : Nat} (hv : v = .iface T (ptr a)) : LiveH H a := by
  obtain ⟨T', a', e, hl⟩ := h.live hE
  rw [e] at hv
  injection hv with _ hv
  have := ptr_inj hv
  subst this
  exact hl

theorem Sh.kinds {E : Env} {H : Hp} {k n c : Int} {b : Bool} {nms : List ByteArray} {vs : List Value} {v : Value} (h : Sh E H k n c b nms vs v) (h2 : k ≠ 2) : k = 1 ∨ k = 0 ∨ k = 4 ∨ k = 5 ∨ k = 6 ∨ k = 7 ∨ k = 8 ∨ k = 9 ∨ k = 10 := by
  cases h <;> first | exact absurd rfl h2 | simp

theorem kTy_facts {k : Int} (h : k = 1 ∨ k = 0 ∨ k = 4 ∨ k = 5 ∨ k = 6 ∨ k = 7 ∨ k = 8 ∨ k = 9 ∨ k = 10) : PtrEq Tryz.prog (kTy k) ∧ CmpT Tryz.prog (kTy k) ∧ Nat.beq (kTy k) 258 = false ∧ Nat.beq (kTy k) 72 = false ∧ (k ≠ 1 → litT (kTy k) = true ∧ Nat.beq (kTy k) 80 = false) ∧ (k = 1 → kTy k = 80) := by
  rcases h with rfl | rfl | rfl | rfl | rfl | rfl | rfl | rfl | rfl
  · exact ⟨(inferInstance : PtrEq Tryz.prog 80), (inferInstance : CmpT Tryz.prog 80), rfl, rfl, fun h => absurd rfl h, fun _ => rfl⟩
  · exact ⟨(inferInstance : PtrEq Tryz.prog 156), (inferInstance : CmpT Tryz.prog 156), rfl, rfl, fun _ => ⟨rfl, rfl⟩, fun h => by simp at h⟩
  · exact ⟨(inferInstance : PtrEq Tryz.prog 95), (inferInstance : CmpT Tryz.prog 95), rfl, rfl, fun _ => ⟨rfl, rfl⟩, fun h => by simp at h⟩
  · exact ⟨(inferInstance : PtrEq Tryz.prog 97), (inferInstance : CmpT Tryz.prog 97), rfl, rfl, fun _ => ⟨rfl, rfl⟩, fun h => by simp at h⟩
  · exact ⟨(inferInstance : PtrEq Tryz.prog 99), (inferInstance : CmpT Tryz.prog 99), rfl, rfl, fun _ => ⟨rfl, rfl⟩, fun h => by simp at h⟩
  · exact ⟨(inferInstance : PtrEq Tryz.prog 101), (inferInstance : CmpT Tryz.prog 101), rfl, rfl, fun _ => ⟨rfl, rfl⟩, fun h => by simp at h⟩
  · exact ⟨(inferInstance : PtrEq Tryz.prog 103), (inferInstance : CmpT Tryz.prog 103), rfl, rfl, fun _ => ⟨rfl, rfl⟩, fun h => by simp at h⟩
  · exact ⟨(inferInstance : PtrEq Tryz.prog 111), (inferInstance : CmpT Tryz.prog 111), rfl, rfl, fun _ => ⟨rfl, rfl⟩, fun h => by simp at h⟩
  · exact ⟨(inferInstance : PtrEq Tryz.prog 113), (inferInstance : CmpT Tryz.prog 113), rfl, rfl, fun _ => ⟨rfl, rfl⟩, fun h => by simp at h⟩

theorem kTy_ne {k k' : Int} (h : k = 1 ∨ k = 0 ∨ k = 4 ∨ k = 5 ∨ k = 6 ∨ k = 7 ∨ k = 8 ∨ k = 9 ∨ k = 10) (h' : k' = 1 ∨ k' = 0 ∨ k' = 4 ∨ k' = 5 ∨ k' = 6 ∨ k' = 7 ∨ k' = 8 ∨ k' = 9 ∨ k' = 10) (hk : k ≠ k') : Nat.beq (kTy k) (kTy k') = false := by
  rcases h with rfl | rfl | rfl | rfl | rfl | rfl | rfl | rfl | rfl <;> rcases h' with rfl | rfl | rfl | rfl | rfl | rfl | rfl | rfl | rfl <;> first | exact absurd rfl hk | rfl

theorem nf_diffS {E : Env} {C : UC σ} {s : σ} {d : Nat} {Q : Bool → σ → Prop} (hE : EnvOK E C.H) {k n c k' n' c' : Int} {b b' : Bool} {nms nms' : List ByteArray} {vs vs' : List Value} {v v' : Value} (hS : Sh E C.H k n c b nms vs v) (hS' : Sh E C.H k' n' c' b' nms' vs' v') (hk : k ≠ k') (h2 : k ≠ 2) (h2' : k' ≠ 2) (hd : d + 1 ≤ 50) (hq : Q false s) : Nf C 2 v v' d s Q := by
  obtain ⟨a, ha⟩ := hS.kTy
  obtain ⟨a', ha'⟩ := hS'.kTy
  have hl := hS.liveAt hE ha
  have hl' := hS'.liveAt hE ha'
  have hks := hS.kinds h2
  have hks' := hS'.kinds h2'
  have hne := kTy_ne hks hks' hk
  obtain ⟨i1, i2, f1, f2, f3, f4⟩ := kTy_facts hks
  obtain ⟨j1, j2, g1, g2, g3, g4⟩ := kTy_facts hks'
  rw [ha, ha']
  by_cases e : k = 1
  · have e' : k' ≠ 1 := fun h => hk (e.trans h.symm)
    rw [f4 e]
    exact nf_diffNB (g3 e').1 hd hl hl' hq
  · by_cases e' : k' = 1
    · rw [g4 e']
      exact nf_diffN (f3 e).1 hd hl hl' hq
    · exact nf_diff (f3 e).1 hne g1 g2 (g3 e').2 hd hl hl' hq

theorem ident_comm (t u : Ty) : ident t u = ident u t := by
  cases h : ident t u with
  | true => exact (ident_symm _ _ h).symm
  | false =>
    cases h' : ident u t with
    | false => rfl
    | true => rw [ident_symm _ _ h'] at h; cases h

theorem nify_closed {E : Env} {ds : List (Int × Ty)} : ∀ (N : Nat) (t u : Ty), Ty.size t + Ty.size u ≤ N → ∀ (C : UC σ) (s : σ) (d : Nat) (v v' : Value), EnvOK E C.H → Props C.H → shapedB ds 0 0 t = true → shapedB ds 0 0 u = true → Rep E C.H t v → Rep E C.H u v' → d + 2 * Ty.size t ≤ 50 → d + 2 * Ty.size u ≤ 50 →
    Nf C 2 v v' d s fun r s' => r = ident t u ∧ s' = s := by
  intro N
  induction N with
  | zero => intro t u h; cases t; simp only [Ty.size] at h; omega
  | succ N ih =>
  intro t u hN C s d v v' hE hp ht hu hr hr' hdt hdu
  obtain ⟨k, n, c, b, nm, es⟩ := t
  obtain ⟨k', n', c', b', nm', es'⟩ := u
  have m2 : Md 2 2 := by simp [Md]
  have hkt : k ≠ 2 := closed_k ht
  have hku : k' ≠ 2 := closed_k hu
  have hsame0 := fun hvv : v = v' => ident_same hE _ _ _ hr (hvv ▸ hr')
  simp only [Rep] at hr hr'
  obtain ⟨vs, hL, hS⟩ := hr
  obtain ⟨vs', hL', hS'⟩ := hr'
  have hl := hL.length
  have hl' := hL'.length
  simp only [Ty.size] at hN hdt hdu
  have hle := Ty.len_sizeL es
  have hle' := Ty.len_sizeL es'
  obtain ⟨QQ, hQQ⟩ : ∃ QQ : Bool → σ → Prop, QQ = fun r s' => r = ident (.mk k n c b nm es) (.mk k' n' c' b' nm' es') ∧ s' = s := ⟨_, rfl⟩
  rw [← hQQ]
  have qf : ident (.mk k n c b nm es) (.mk k' n' c' b' nm' es') = false → QQ false s := fun h => by rw [hQQ]; exact ⟨h.symm, rfl⟩
  have qt : ident (.mk k n c b nm es) (.mk k' n' c' b' nm' es') = true → QQ true s := fun h => by rw [hQQ]; exact ⟨h.symm, rfl⟩
  have hno : ∀ {p : Prop}, (ident (.mk k n c b nm es) (.mk k' n' c' b' nm' es') = true → p) → ¬ p → ident (.mk k n c b nm es) (.mk k' n' c' b' nm' es') = false := fun {p} h hn => by
    cases hh : ident (.mk k n c b nm es) (.mk k' n' c' b' nm' es') with
    | false => rfl
    | true => exact absurd (h hh) hn
  by_cases hk : k = k'
  rotate_left
  · exact nf_diffS hE hS hS' hk hkt hku (by omega) (qf (hno (fun h => (ident_iff.1 h).1) hk))
  subst hk
  have hsame := fun hvv : v = v' => qt (hsame0 hvv)
  obtain ⟨pre, hpre⟩ : ∃ pre : Nat → σ → Prop, pre = fun i s' => s' = s ∧ ∀ (j : Nat) (e e' : Ty), j < i → es[j]? = some e → es'[j]? = some e' → ident e e' = true := ⟨_, rfl⟩
  have pre0 : pre 0 s := by rw [hpre]; exact ⟨rfl, fun j e e' hj => absurd hj (Nat.not_lt_zero j)⟩
  have hend : es.length = es'.length → (k = 9 → namesEq es es' = true) → (k = 10 → c = c' ∧ b = b') → (k ≠ 9 → k ≠ 10 → ¬ (k = 4 ∨ k = 5 ∨ k = 7) → n = n') → ∀ s', pre vs.length s' → QQ true s' := by
    intro e1 e2 e3 e4 s' h
    rw [hpre] at h
    rw [hQQ]
    refine ⟨(ident_iff.2 ⟨rfl, e1, e2, e3, e4, (identL_iff e1).2 fun i e e' he he' => h.2 i e e' ?_ he he'⟩).symm, h.1⟩
    have := (List.getElem?_eq_some_iff.1 he).1
    omega
  have hst : es.length = es'.length → ∀ (i : Nat) (x x' : Value) (s' : σ) (dd : Nat), vs[i]? = some x → vs'[i]? = some x' → pre i s' → (dd = d + 1 ∨ dd = d + 2) →
      Nf C 2 x x' dd s' (fun r s1 => bif r then pre (i + 1) s1 else QQ false s1) ∧ Nf C 2 x' x dd s' (fun r s1 => bif r then pre (i + 1) s1 else QQ false s1) := by
    intro hlen i x x' s' dd h1 h2 h3 hdd
    rw [hpre] at h3
    obtain ⟨hs', h3⟩ := h3
    subst hs'
    obtain ⟨e, he, hre⟩ := hL.get h1
    obtain ⟨e', he', hre'⟩ := hL'.get h2
    have z1 := Ty.size_mem (List.mem_of_getElem? he)
    have z2 := Ty.size_mem (List.mem_of_getElem? he')
    have key : ∀ (r : Bool) (s1 : σ), (r = ident e e' ∧ s1 = s') → bif r then pre (i + 1) s1 else QQ false s1 := by
      rintro r s1 ⟨hr, rfl⟩
      cases r with
      | false =>
        refine qf (hno (fun h => (identL_iff hlen).1 (ident_iff.1 h).2.2.2.2.2 i e e' he he') ?_)
        rw [← hr]
        simp
      | true =>
        rw [hpre]
        refine ⟨rfl, fun j x1 x2 hj hx1 hx2 => ?_⟩
        rcases Nat.lt_succ_iff_lt_or_eq.1 hj with hj | rfl
        · exact h3 j x1 x2 hj hx1 hx2
        · rw [he] at hx1
          rw [he'] at hx2
          injection hx1 with hx1
          injection hx2 with hx2
          subst hx1
          subst hx2
          exact hr.symm
    have st := shaped_part ht (List.mem_of_getElem? he)
    have su := shaped_part hu (List.mem_of_getElem? he')
    exact ⟨(ih e e' (by omega) C s' dd x x' hE hp st su hre hre' (by omega) (by omega)).mono key, (ih e' e (by omega) C s' dd x' x hE hp su st hre' hre (by omega) (by omega)).mono fun r s1 h => key r s1 (by rw [ident_comm]; exact h)⟩
  have hkk : ∀ (i : Nat) (z : Value) (s' : σ), vs[i]? = some z → vs'[i]? = some z → pre i s' → pre (i + 1) s' := by
    intro i z s' e1 e2 e3
    rw [hpre] at e3 ⊢
    refine ⟨e3.1, fun j x1 x2 hj hx1 hx2 => ?_⟩
    rcases Nat.lt_succ_iff_lt_or_eq.1 hj with hj | rfl
    · exact e3.2 j x1 x2 hj hx1 hx2
    · obtain ⟨e, he, hre⟩ := hL.get e1
      obtain ⟨e', he', hre'⟩ := hL'.get e2
      rw [he] at hx1
      rw [he'] at hx2
      injection hx1 with hx1
      injection hx2 with hx2
      subst hx1
      subst hx2
      exact ident_same hE _ _ _ hre hre'
  have hlast : ∀ {m : Nat} {dd : Nat} {x x' : Value}, m + 1 = vs.length → (∀ s', pre vs.length s' → QQ true s') → Nf C 2 x x' dd s (fun r s1 => bif r then pre (m + 1) s1 else QQ false s1) → Nf C 2 x x' dd s QQ := fun hn he h => h.mono fun r s' hr => by
    cases r with
    | true => exact he _ (hn ▸ hr)
    | false => exact hr
  obtain ⟨b0, hb0⟩ := hS'.kTy
  subst hb0
  have idn : k ≠ 9 → k ≠ 10 → ¬ (k = 4 ∨ k = 5 ∨ k = 7) → n ≠ n' → QQ false s := fun h9 h10 h4 hn => qf (hno (fun h => (ident_iff.1 h).2.2.2.2.1 h9 h10 h4) hn)
  have idl : es.length ≠ es'.length → QQ false s := fun hn => qf (hno (fun h => (ident_iff.1 h).2.1) hn)
  cases hS with
  | param => exact absurd rfl hkt
  | basic h h0 =>
    obtain ⟨-, rfl, h0', i', s', q'⟩ := hS'.inv_basic rfl
    refine nf_gate (by omega) ⟨_, _, _, h⟩ (fun hab => hsame (by rw [hab]; rfl)) fun e => nf_basic m2 (by omega) h q' e ?_
    by_cases hn : n = n'
    · subst hn
      rw [beq_self_eq_true]
      exact hend (hl.trans hl'.symm) (by simp) (by simp) (fun _ _ _ => rfl) s (by simpa using pre0)
    · have : (n + 1 == n' + 1) = false := by simp; omega
      rw [this]
      exact idn (by simp) (by simp) (by simp) hn
  | pointer h =>
    obtain ⟨-, u', rfl, q'⟩ := hS'.inv_pointer rfl
    have he := hend (hl.trans hl'.symm) (by simp) (by simp) (by simp)
    exact nf_gate (by omega) ⟨_, _, _, h⟩ (fun hab => hsame (by rw [hab]; rfl)) fun e => nf_pointer m2 (by omega) h q' e (hlast (m := 0) rfl he (hst (hl.trans hl'.symm) 0 _ _ s _ rfl rfl pre0 (.inl rfl)).1)
  | slice h =>
    obtain ⟨-, u', rfl, q'⟩ := hS'.inv_slice rfl
    have he := hend (hl.trans hl'.symm) (by simp) (by simp) (by simp)
    exact nf_gate (by omega) ⟨_, _, _, h⟩ (fun hab => hsame (by rw [hab]; rfl)) fun e => nf_slice m2 (by omega) h q' e (hlast (m := 0) rfl he (hst (hl.trans hl'.symm) 0 _ _ s _ rfl rfl pre0 (.inl rfl)).1)
  | array h h0 =>
    obtain ⟨-, h0', u', rfl, q'⟩ := hS'.inv_array rfl
    by_cases hn : n = n'
    · subst hn
      have he := hend (hl.trans hl'.symm) (by simp) (by simp) (fun _ _ _ => rfl)
      exact nf_gate (by omega) ⟨_, _, _, h⟩ (fun hab => hsame (by rw [hab]; rfl)) fun e => nf_array m2 (by omega) h q' h0 e (hlast (m := 0) rfl he (hst (hl.trans hl'.symm) 0 _ _ s _ rfl rfl pre0 (.inl rfl)).1)
    · exact nf_gate (by omega) ⟨_, _, _, h⟩ (fun hab => hsame (by rw [hab]; rfl)) fun e => nf_arrayNe (by omega) h q' h0 h0' hn e (idn (by simp) (by simp) (by simp) hn)
  | chan h h0 h3 =>
    obtain ⟨-, u', rfl, q'⟩ := hS'.inv_chan rfl
    by_cases hn : n = n'
    · subst hn
      have he := hend (hl.trans hl'.symm) (by simp) (by simp) (fun _ _ _ => rfl)
      exact nf_gate (by omega) ⟨_, _, _, h⟩ (fun hab => hsame (by rw [hab]; rfl)) fun e => nf_chan m2 (by omega) h q' e (hlast (m := 0) rfl he (hst (hl.trans hl'.symm) 0 _ _ s _ rfl rfl pre0 (.inl rfl)).1)
    · exact nf_gate (by omega) ⟨_, _, _, h⟩ (fun hab => hsame (by rw [hab]; rfl)) fun e => nf_chanNe (by omega) h q' hn e (idn (by simp) (by simp) (by simp) hn)
  | map h =>
    obtain ⟨-, u1', u2', rfl, q'⟩ := hS'.inv_map rfl
    have hle2 : es.length = es'.length := hl.trans hl'.symm
    have he := hend hle2 (by simp) (by simp) (by simp)
    refine nf_gate (by omega) ⟨_, _, _, h⟩ (fun hab => hsame (by rw [hab]; rfl)) fun e => nf_map m2 (by omega) h q' (P1 := pre 1) e (hst hle2 0 _ _ s _ rfl rfl pre0 (.inl rfl)).1 fun s1 h1 => ?_
    have hs1 : s1 = s := by rw [hpre] at h1; exact h1.1
    subst hs1
    exact hlast (m := 1) rfl he (hst hle2 1 _ _ s1 _ rfl rfl h1 (.inl rfl)).1
  | struct h hs hn hln =>
    obtain ⟨-, sl', q', hs', hn', hln'⟩ := hS'.inv_struct rfl
    by_cases hlen : vs.length = vs'.length
    · have hle2 : es.length = es'.length := by omega
      refine nf_gate (by omega) ⟨_, _, _, h⟩ (fun hab => hsame (by rw [hab]; rfl)) fun e => nf_structX (by omega) hp h q' hs hs' hn e hlen (by omega) (pre := fun i s' => pre i s' ∧ ∀ (j : Nat) (x x' : Ty), j < i → es[j]? = some x → es'[j]? = some x' → beqB x.nm x'.nm = true) ⟨pre0, fun j x x' hj => absurd hj (Nat.not_lt_zero j)⟩ (fun i x x' s' _ h1 h2 h3 h4 => ((hst hle2 i x x' s' _ h1 h2 h3.1 (.inl rfl)).1).mono fun r s1 hr => ?_) (fun i a a' h1 h2 hb s' hpr => ?_) (fun s' hpr => hend hle2 (fun _ => (namesEq_iff hle2).2 fun i x x' hx hx' => hpr.2 i x x' (by have := (List.getElem?_eq_some_iff.1 hx).1; omega) hx hx') (by simp) (by simp) s' hpr.1)
      · cases r with
        | false => exact hr
        | true =>
          refine ⟨hr, fun j y y' hj hy hy' => ?_⟩
          rcases Nat.lt_succ_iff_lt_or_eq.1 hj with hj | rfl
          · exact h3.2 j y y' hj hy hy'
          · exact h4 _ _ (by rw [List.getElem?_map, hy]; rfl) (by rw [List.getElem?_map, hy']; rfl)
      · have hp1 := hpr.1
        rw [hpre] at hp1
        rw [hp1.1]
        rw [List.getElem?_map] at h1 h2
        obtain ⟨x, hx, rfl⟩ := Option.map_eq_some_iff.1 h1
        obtain ⟨x', hx', rfl⟩ := Option.map_eq_some_iff.1 h2
        exact qf (hno (fun h => (namesEq_iff hle2).1 ((ident_iff.1 h).2.2.1 rfl) i x x' hx hx') (by rw [hb]; simp))
    · exact nf_gate (by omega) ⟨_, _, _, h⟩ (fun hab => hsame (by rw [hab]; rfl)) fun e => nf_structNe (by omega) h q' hs hs' e hlen (idl (by omega))
  | func h hx hy h0 h1 =>
    obtain ⟨-, x', y', q', hx', hy', h0', h1'⟩ := hS'.inv_func rfl
    by_cases hb : b = b'
    rotate_left
    · exact nf_gate (by omega) ⟨_, _, _, h⟩ (fun hab => hsame (by rw [hab]; rfl)) fun e => nf_funcNe (by omega) h q' hb e (qf (hno (fun h => ((ident_iff.1 h).2.2.2.1 rfl).2) hb))
    subst hb
    have ht1 : (vs.take c.toNat).length = c.toNat := by rw [List.length_take]; omega
    have ht2 : (vs'.take c'.toNat).length = c'.toNat := by rw [List.length_take]; omega
    have hd1 : (vs.drop c.toNat).length = vs.length - c.toNat := List.length_drop
    have hd2 : (vs'.drop c'.toNat).length = vs'.length - c'.toNat := List.length_drop
    by_cases hc : c = c'
    rotate_left
    · refine nf_gate (by omega) ⟨_, _, _, h⟩ (fun hab => hsame (by rw [hab]; rfl)) fun e => nf_func m2 (by omega) h q' (P1 := fun _ => False) e (nf_tupleNe (by omega) hx hx' (by omega) (qf (hno (fun h => ((ident_iff.1 h).2.2.2.1 rfl).1) hc))) fun s1 h => h.elim
    subst hc
    by_cases hlen : vs.length = vs'.length
    rotate_left
    · have hqf : QQ false s := idl (by omega)
      refine nf_gate (by omega) ⟨_, _, _, h⟩ (fun hab => hsame (by rw [hab]; rfl)) fun e => nf_func m2 (by omega) h q' (P1 := fun s1 => s1 = s) e ?_ fun s1 hs1 => by
        subst hs1
        exact nf_tupleNe (by omega) hy hy' (by omega) hqf
      refine nf_tup m2 (by omega) hx hx' (by omega) (by omega) (pre := fun _ s' => s' = s) rfl (fun i z s' _ _ h => h) (fun i z z' s' hi e1 e2 e3 => ?_) (fun s' hs' => hs')
      subst e3
      rw [List.getElem?_take_of_lt (by omega)] at e1 e2
      obtain ⟨x1, hx1, hrx1⟩ := hL.get e1
      obtain ⟨x2, hx2, hrx2⟩ := hL'.get e2
      have z1 := Ty.size_mem (List.mem_of_getElem? hx1)
      have z2 := Ty.size_mem (List.mem_of_getElem? hx2)
      refine (ih x1 x2 (by omega) C s' (d + 1 + 1) z z' hE hp (shaped_part ht (List.mem_of_getElem? hx1)) (shaped_part hu (List.mem_of_getElem? hx2)) hrx1 hrx2 (by omega) (by omega)).mono ?_
      rintro r s1 ⟨-, rfl⟩
      cases r with
      | true => rfl
      | false => exact hqf
    have hle2 : es.length = es'.length := by omega
    refine nf_gate (by omega) ⟨_, _, _, h⟩ (fun hab => hsame (by rw [hab]; rfl)) fun e => nf_func m2 (by omega) h q' (P1 := pre c.toNat) e ?_ ?_
    · refine nf_tup m2 (by omega) hx hx' (by omega) (by omega) (pre := pre) pre0 (fun i z s' e1 e2 e3 => ?_) (fun i z z' s' hi e1 e2 e3 => ?_) (fun s' hs' => by rw [ht1] at hs'; exact hs')
      · have hi : i < c.toNat := by have := (List.getElem?_eq_some_iff.1 e1).1; omega
        rw [List.getElem?_take_of_lt hi] at e1 e2
        exact hkk i z s' e1 e2 e3
      · rw [List.getElem?_take_of_lt (by omega)] at e1 e2
        exact (hst hle2 i z z' s' _ e1 e2 e3 (.inr rfl)).1
    · intro s1 hs1
      refine nf_tup m2 (by omega) hy hy' (by omega) (by omega) (pre := fun i => pre (c.toNat + i)) hs1 (fun i z s' e1 e2 e3 => ?_) (fun i z z' s' hi e1 e2 e3 => ?_) (fun s' hs' => hend hle2 (by simp) (fun _ => ⟨rfl, rfl⟩) (by simp) s' ?_)
      · rw [List.getElem?_drop] at e1 e2
        exact hkk _ z s' e1 e2 e3
      · rw [List.getElem?_drop] at e1 e2
        exact (hst hle2 _ z z' s' _ e1 e2 e3 (.inr rfl)).1
      · have : c.toNat + (vs.drop c.toNat).length = vs.length := by omega
        rw [this] at hs'
        exact hs'
  | named hn h0 ho h hu' =>
    obtain ⟨cd, od, rd, g1, g2, g3⟩ := orig_named hE hn
    obtain ⟨-, h0', hcs⟩ := hS'.inv_named rfl
    rcases hcs with ⟨rfl, o', _, _, _, _, _, _, hn', ho', q', hu'⟩ | ⟨u', us', i', tl', d', _, _, _, _, _, _, _, sl', rfl, hn', q', hi', ht', hs', hu'⟩
    · obtain ⟨cd', od', rd', g1', g2', g3'⟩ := orig_named hE hn'
      refine nf_gate (by omega) ⟨_, _, _, h⟩ (fun hab => hsame (by rw [hab]; rfl)) fun e => nf_named m2 (by omega) (argsOf_none h) (argsOf_none q') (.inl ⟨rfl, _, _, _, _, _, _, _, h⟩) (.inl ⟨rfl, _, _, _, _, _, _, _, q'⟩) g2 g2' g3 g3' ⟨_, _, _, h⟩ ⟨_, _, _, q'⟩ e rfl (by simp) pre0 (fun i x x' s' hi => absurd hi (by simp)) (fun s' hs' => ?_)
      have hs0 : s' = s := by rw [hpre] at hs'; exact hs'.1
      subst hs0
      have hne : n ≠ n' := fun hnn => by
        subst hnn
        rw [hn] at hn'
        injection hn' with hn'
        subst hn'
        rw [nbeq_self, peq_self] at e
        cases e
      have hoo : od' ≠ od := fun ho2 => hne (toNat_inj h0 h0' (nodup_inj hE.on g1 (ho2 ▸ g1')))
      rw [peq_false hoo]
      exact idn (by simp) (by simp) (by simp) hne
    · exact nf_gate (by omega) ⟨_, _, _, h⟩ (fun hab => hsame (by rw [hab]; rfl)) fun e => nf_namedNe (by omega) (argsOf_none h) (argsOf_inst q' hi' ht' hs') ⟨_, _, _, h⟩ ⟨_, _, _, q'⟩ e (by simp) (idl (by rw [hl, hl']; simp))
  | inst hn h0 h hi htl hs hu' =>
    obtain ⟨cd, od, rd, g1, g2, g3⟩ := orig_named hE hn
    obtain ⟨-, h0', hcs⟩ := hS'.inv_named rfl
    rcases hcs with ⟨rfl, o', _, _, _, _, _, _, hn', ho', q', hu'⟩ | ⟨u', us', i', tl', d', _, _, _, _, _, _, _, sl', rfl, hn', q', hi', ht', hs', hu'⟩
    · exact nf_gate (by omega) ⟨_, _, _, h⟩ (fun hab => hsame (by rw [hab]; rfl)) fun e => nf_namedNe (by omega) (argsOf_inst h hi htl hs) (argsOf_none q') ⟨_, _, _, h⟩ ⟨_, _, _, q'⟩ e (by simp) (idl (by rw [hl, hl']; simp))
    · obtain ⟨cd', od', rd', g1', g2', g3'⟩ := orig_named hE hn'
      by_cases hlen : es.length = es'.length
      · refine nf_gate (by omega) ⟨_, _, _, h⟩ (fun hab => hsame (by rw [hab]; rfl)) fun e => nf_named m2 (by omega) (argsOf_inst h hi htl hs) (argsOf_inst q' hi' ht' hs') (.inr ⟨_, _, _, _, _, _, _, _, _, h, hi⟩) (.inr ⟨_, _, _, _, _, _, _, _, _, q', hi'⟩) g2 g2' g3 g3' ⟨_, _, _, h⟩ ⟨_, _, _, q'⟩ e (by omega) (by omega) pre0
          (fun i x x' s' _ e1 e2 e3 => (hst hlen i x' x s' _ e2 e1 e3 (.inl rfl)).2) (fun s' hs' => ?_)
        rw [← hl', ← hlen, hl] at hs'
        have hs0 : s' = s := by rw [hpre] at hs'; exact hs'.1
        by_cases hnn : n = n'
        · subst hnn
          rw [g1] at g1'
          injection g1' with g1'
          subst g1'
          rw [peq_self]
          exact hend hlen (by simp) (by simp) (fun _ _ _ => rfl) s' hs'
        · have hoo : od' ≠ od := fun ho2 => hnn (toNat_inj h0 h0' (nodup_inj hE.on g1 (ho2 ▸ g1')))
          rw [peq_false hoo, hs0]
          exact idn (by simp) (by simp) (by simp) hnn
      · exact nf_gate (by omega) ⟨_, _, _, h⟩ (fun hab => hsame (by rw [hab]; rfl)) fun e => nf_namedNe (by omega) (argsOf_inst h hi htl hs) (argsOf_inst q' hi' ht' hs') ⟨_, _, _, h⟩ ⟨_, _, _, q'⟩ e (by omega) (idl hlen)
end Go.Proofs.YtjilnjifegeceaaGreatDoor

/-
  Identical types, first part: one pointer; types of different kinds.
-/
namespace Go.Proofs.YtjilnjifegeceaaGreatDoor
set_option maxRecDepth 100000
set_option maxHeartbeats 4000000
attribute [local irreducible] Calls execOp

theorem r137 {G G' : Prop} (k : G') (h : Hid G' → G := by intro k_; (first | (refine cL ?_; first | (refine cL_guard ?_; refine L_unwanted rfl rfl rfl ?_) | (refine cL_move ?_; refine L_val R_move rfl rfl rfl ?_) | (refine cL_load ?_; first | refine L_val (R_loadB rfl (by assumption) (by rfl)) rfl rfl rfl ?_ | refine L_val (R_loadH (by assumption) rfl (by assumption) (by rfl)) rfl rfl rfl ?_) | (refine cL_fieldAddr ?_; refine L_val (R_fa rfl) rfl rfl rfl ?_) | (refine cL_nilCheck ?_; refine L_val (R_nil rfl) rfl rfl rfl ?_) | (refine cL_assign ?_; refine L_val R_assign rfl rfl rfl ?_) | (refine cL_extract ?_; refine L_val (R_extract rfl rfl) rfl rfl rfl ?_) | (refine cL_typeAssert ?_; first | refine L_val (R_taY rfl) rfl rfl rfl ?_ | refine L_val (R_taN rfl rfl) rfl rfl rfl ?_ | refine L_val (R_taNil rfl) rfl rfl rfl ?_) | (refine cL_call ?_; refine L_val (R_len rfl) rfl rfl rfl ?_) | (refine cL_pick ?_; first | refine L_val (R_pickT rfl) rfl rfl rfl ?_ | refine L_val (R_pickF rfl) rfl rfl rfl ?_) | (refine cL_eql ?_; first | refine L_val (R_eqPN rfl rfl) rfl rfl rfl ?_ | refine L_val (R_eqI rfl rfl) rfl rfl rfl ?_ | refine L_val (R_eqB rfl rfl) rfl rfl rfl ?_ | refine L_val (R_eqIfN rfl rfl) rfl rfl rfl ?_ | refine L_val (R_eqIfNN rfl) rfl rfl rfl ?_) | (refine cL_neq ?_; first | refine L_val (R_nePN rfl rfl) rfl rfl rfl ?_ | refine L_val (R_neI rfl rfl) rfl rfl rfl ?_ | refine L_val (R_neB rfl rfl) rfl rfl rfl ?_ | refine L_val (R_neIfN rfl rfl) rfl rfl rfl ?_ | refine L_val (R_neIfNN rfl) rfl rfl rfl ?_) | (refine cL_lss ?_; refine L_val (R_ltI rfl rfl) rfl rfl rfl ?_) | (refine cL_makeInterface ?_; refine L_val R_mkI rfl rfl rfl ?_) | (refine cL_not ?_; refine L_val (R_not rfl) rfl rfl rfl ?_) | (refine cL_add ?_; refine L_val (R_addI rfl rfl) rfl rfl rfl ?_) | refine L_nil ?_) | refine G_seq ?_ | refine G_region ?_ | refine G_skip ?_ | refine G_block ?_ | refine G_end ?_ | refine G_true rfl ?_ | refine G_false rfl ?_); exact k_.out) : G := h ⟨k⟩

abbrev IdSays (c : Nat) (x y : Value) (r : Bool) (w : World) : Prop := Calls Tryz.prog 37 #[ptr c, x, y, .pointer none] w (Ret (Qt (.bool r) w))

/-- the comparer -/
def Cmp (H : Hp) (c : Nat) : Prop := H c = some (Ob [.bool false, .bool false] 91)

theorem id_eq {H : Hp} {c a T : Nat} [PtrEq Tryz.prog T] [CmpT Tryz.prog T] (w : World) (hA : Agree H w) (hl : LiveH H a) (hT : Nat.beq T 258 = false) : IdSays c (.iface T (ptr a)) (.iface T (ptr a)) true w := by
  have e : (Nat.beq T T && peq (some ⟨a, 0, none⟩) (some ⟨a, 0, none⟩)) = true := by rw [peq_self, nbeq_self]; rfl
  (refine calls_enter Tryz.func37 Tryz.ntmps37 rfl rfl ?_)
  (repeat (first | (refine cL ?_; first | (refine cL_guard ?_; refine L_unwanted rfl rfl rfl ?_) | (refine cL_call ?_; refine L_callI (unalias_any T _ _ hT) rfl rfl ?_) | (refine cL_eql ?_; refine L_valB (R_eqIf rfl rfl (hA.live hl) (hA.live hl)) e rfl rfl rfl ?_)) | refine r137 ?_))
  (refine G_retF rfl ?_)
  exact ⟨_, rfl, rfl, Ext.refl _ _⟩

section
variable {H : Hp} {c a b T : Nat} (w : World) (hA : Agree H w) (hc : Cmp H c) (hl : LiveH H a) (hl' : LiveH H b)
include hA hc hl hl'

theorem id_ne_basic (hT : Nat.beq T 258 = false) (hne : Nat.beq T 156 = false) (hne' : Nat.beq 156 T = false) : IdSays c (.iface 156 (ptr a)) (.iface T (ptr b)) false w := by
  have e : (Nat.beq 156 T && peq (some ⟨a, 0, none⟩) (some ⟨b, 0, none⟩)) = false := by rw [hne', Bool.false_and]
  unfold Cmp at hc
  (refine calls_enter Tryz.func37 Tryz.ntmps37 rfl rfl ?_)
  (repeat (first | (refine cL ?_; first | (refine cL_guard ?_; refine L_unwanted rfl rfl rfl ?_) | (refine cL_typeAssert ?_; refine L_val (R_taN rfl hne) rfl rfl rfl ?_) | (refine cL_call ?_; first | refine L_callI (unalias_any _ _ _ rfl) rfl rfl ?_ | refine L_callI (unalias_any _ _ _ hT) rfl rfl ?_) | (refine cL_eql ?_; refine L_valB (R_eqIf rfl rfl (hA.live hl) (hA.live hl')) e rfl rfl rfl ?_)) | refine r137 ?_))
  (refine G_retF rfl ?_)
  exact ⟨_, rfl, rfl, Ext.refl _ _⟩

theorem id_ne_array (hT : Nat.beq T 258 = false) (hne : Nat.beq T 99 = false) (hne' : Nat.beq 99 T = false) : IdSays c (.iface 99 (ptr a)) (.iface T (ptr b)) false w := by
  have e : (Nat.beq 99 T && peq (some ⟨a, 0, none⟩) (some ⟨b, 0, none⟩)) = false := by rw [hne', Bool.false_and]
  unfold Cmp at hc
  (refine calls_enter Tryz.func37 Tryz.ntmps37 rfl rfl ?_)
  (repeat (first | (refine cL ?_; first | (refine cL_guard ?_; refine L_unwanted rfl rfl rfl ?_) | (refine cL_typeAssert ?_; refine L_val (R_taN rfl hne) rfl rfl rfl ?_) | (refine cL_call ?_; first | refine L_callI (unalias_any _ _ _ rfl) rfl rfl ?_ | refine L_callI (unalias_any _ _ _ hT) rfl rfl ?_) | (refine cL_eql ?_; refine L_valB (R_eqIf rfl rfl (hA.live hl) (hA.live hl')) e rfl rfl rfl ?_)) | refine r137 ?_))
  (refine G_retF rfl ?_)
  exact ⟨_, rfl, rfl, Ext.refl _ _⟩

theorem id_ne_slice (hT : Nat.beq T 258 = false) (hne : Nat.beq T 97 = false) (hne' : Nat.beq 97 T = false) : IdSays c (.iface 97 (ptr a)) (.iface T (ptr b)) false w := by
  have e : (Nat.beq 97 T && peq (some ⟨a, 0, none⟩) (some ⟨b, 0, none⟩)) = false := by rw [hne', Bool.false_and]
  unfold Cmp at hc
  (refine calls_enter Tryz.func37 Tryz.ntmps37 rfl rfl ?_)
  (repeat (first | (refine cL ?_; first | (refine cL_guard ?_; refine L_unwanted rfl rfl rfl ?_) | (refine cL_typeAssert ?_; refine L_val (R_taN rfl hne) rfl rfl rfl ?_) | (refine cL_call ?_; first | refine L_callI (unalias_any _ _ _ rfl) rfl rfl ?_ | refine L_callI (unalias_any _ _ _ hT) rfl rfl ?_) | (refine cL_eql ?_; refine L_valB (R_eqIf rfl rfl (hA.live hl) (hA.live hl')) e rfl rfl rfl ?_)) | refine r137 ?_))
  (refine G_retF rfl ?_)
  exact ⟨_, rfl, rfl, Ext.refl _ _⟩

theorem id_ne_struct (hT : Nat.beq T 258 = false) (hne : Nat.beq T 111 = false) (hne' : Nat.beq 111 T = false) : IdSays c (.iface 111 (ptr a)) (.iface T (ptr b)) false w := by
  have e : (Nat.beq 111 T && peq (some ⟨a, 0, none⟩) (some ⟨b, 0, none⟩)) = false := by rw [hne', Bool.false_and]
  unfold Cmp at hc
  (refine calls_enter Tryz.func37 Tryz.ntmps37 rfl rfl ?_)
  (repeat (first | (refine cL ?_; first | (refine cL_guard ?_; refine L_unwanted rfl rfl rfl ?_) | (refine cL_typeAssert ?_; refine L_val (R_taN rfl hne) rfl rfl rfl ?_) | (refine cL_call ?_; first | refine L_callI (unalias_any _ _ _ rfl) rfl rfl ?_ | refine L_callI (unalias_any _ _ _ hT) rfl rfl ?_) | (refine cL_eql ?_; refine L_valB (R_eqIf rfl rfl (hA.live hl) (hA.live hl')) e rfl rfl rfl ?_)) | refine r137 ?_))
  (refine G_retF rfl ?_)
  exact ⟨_, rfl, rfl, Ext.refl _ _⟩

theorem id_ne_pointer (hT : Nat.beq T 258 = false) (hne : Nat.beq T 95 = false) (hne' : Nat.beq 95 T = false) : IdSays c (.iface 95 (ptr a)) (.iface T (ptr b)) false w := by
  have e : (Nat.beq 95 T && peq (some ⟨a, 0, none⟩) (some ⟨b, 0, none⟩)) = false := by rw [hne', Bool.false_and]
  unfold Cmp at hc
  (refine calls_enter Tryz.func37 Tryz.ntmps37 rfl rfl ?_)
  (repeat (first | (refine cL ?_; first | (refine cL_guard ?_; refine L_unwanted rfl rfl rfl ?_) | (refine cL_typeAssert ?_; refine L_val (R_taN rfl hne) rfl rfl rfl ?_) | (refine cL_call ?_; first | refine L_callI (unalias_any _ _ _ rfl) rfl rfl ?_ | refine L_callI (unalias_any _ _ _ hT) rfl rfl ?_) | (refine cL_eql ?_; refine L_valB (R_eqIf rfl rfl (hA.live hl) (hA.live hl')) e rfl rfl rfl ?_)) | refine r137 ?_))
  (refine G_retF rfl ?_)
  exact ⟨_, rfl, rfl, Ext.refl _ _⟩

theorem id_ne_func (hT : Nat.beq T 258 = false) (hne : Nat.beq T 113 = false) (hne' : Nat.beq 113 T = false) : IdSays c (.iface 113 (ptr a)) (.iface T (ptr b)) false w := by
  have e : (Nat.beq 113 T && peq (some ⟨a, 0, none⟩) (some ⟨b, 0, none⟩)) = false := by rw [hne', Bool.false_and]
  unfold Cmp at hc
  (refine calls_enter Tryz.func37 Tryz.ntmps37 rfl rfl ?_)
  (repeat (first | (refine cL ?_; first | (refine cL_guard ?_; refine L_unwanted rfl rfl rfl ?_) | (refine cL_typeAssert ?_; refine L_val (R_taN rfl hne) rfl rfl rfl ?_) | (refine cL_call ?_; first | refine L_callI (unalias_any _ _ _ rfl) rfl rfl ?_ | refine L_callI (unalias_any _ _ _ hT) rfl rfl ?_) | (refine cL_eql ?_; refine L_valB (R_eqIf rfl rfl (hA.live hl) (hA.live hl')) e rfl rfl rfl ?_)) | refine r137 ?_))
  (refine G_retF rfl ?_)
  exact ⟨_, rfl, rfl, Ext.refl _ _⟩

theorem id_ne_map (hT : Nat.beq T 258 = false) (hne : Nat.beq T 101 = false) (hne' : Nat.beq 101 T = false) : IdSays c (.iface 101 (ptr a)) (.iface T (ptr b)) false w := by
  have e : (Nat.beq 101 T && peq (some ⟨a, 0, none⟩) (some ⟨b, 0, none⟩)) = false := by rw [hne', Bool.false_and]
  unfold Cmp at hc
  (refine calls_enter Tryz.func37 Tryz.ntmps37 rfl rfl ?_)
  (repeat (first | (refine cL ?_; first | (refine cL_guard ?_; refine L_unwanted rfl rfl rfl ?_) | (refine cL_typeAssert ?_; refine L_val (R_taN rfl hne) rfl rfl rfl ?_) | (refine cL_call ?_; first | refine L_callI (unalias_any _ _ _ rfl) rfl rfl ?_ | refine L_callI (unalias_any _ _ _ hT) rfl rfl ?_) | (refine cL_eql ?_; refine L_valB (R_eqIf rfl rfl (hA.live hl) (hA.live hl')) e rfl rfl rfl ?_)) | refine r137 ?_))
  (refine G_retF rfl ?_)
  exact ⟨_, rfl, rfl, Ext.refl _ _⟩

theorem id_ne_chan (hT : Nat.beq T 258 = false) (hne : Nat.beq T 103 = false) (hne' : Nat.beq 103 T = false) : IdSays c (.iface 103 (ptr a)) (.iface T (ptr b)) false w := by
  have e : (Nat.beq 103 T && peq (some ⟨a, 0, none⟩) (some ⟨b, 0, none⟩)) = false := by rw [hne', Bool.false_and]
  unfold Cmp at hc
  (refine calls_enter Tryz.func37 Tryz.ntmps37 rfl rfl ?_)
  (repeat (first | (refine cL ?_; first | (refine cL_guard ?_; refine L_unwanted rfl rfl rfl ?_) | (refine cL_typeAssert ?_; refine L_val (R_taN rfl hne) rfl rfl rfl ?_) | (refine cL_call ?_; first | refine L_callI (unalias_any _ _ _ rfl) rfl rfl ?_ | refine L_callI (unalias_any _ _ _ hT) rfl rfl ?_) | (refine cL_eql ?_; refine L_valB (R_eqIf rfl rfl (hA.live hl) (hA.live hl')) e rfl rfl rfl ?_)) | refine r137 ?_))
  (refine G_retF rfl ?_)
  exact ⟨_, rfl, rfl, Ext.refl _ _⟩

theorem id_ne_named (hT : Nat.beq T 258 = false) (hne : Nat.beq T 80 = false) (hne' : Nat.beq 80 T = false) : IdSays c (.iface 80 (ptr a)) (.iface T (ptr b)) false w := by
  have e : (Nat.beq 80 T && peq (some ⟨a, 0, none⟩) (some ⟨b, 0, none⟩)) = false := by rw [hne', Bool.false_and]
  unfold Cmp at hc
  (refine calls_enter Tryz.func37 Tryz.ntmps37 rfl rfl ?_)
  (repeat (first | (refine cL ?_; first | (refine cL_guard ?_; refine L_unwanted rfl rfl rfl ?_) | (refine cL_typeAssert ?_; refine L_val (R_taN rfl hne) rfl rfl rfl ?_) | (refine cL_call ?_; first | refine L_callI (unalias_any _ _ _ rfl) rfl rfl ?_ | refine L_callI (unalias_any _ _ _ hT) rfl rfl ?_ | refine L_callI (asNamed_no _ _ _ hT hne) rfl rfl ?_) | (refine cL_eql ?_; refine L_valB (R_eqIf rfl rfl (hA.live hl) (hA.live hl')) e rfl rfl rfl ?_)) | refine r137 ?_))
  (refine G_retF rfl ?_)
  exact ⟨_, rfl, rfl, Ext.refl _ _⟩

theorem id_ne_param (hT : Nat.beq T 258 = false) (e : (Nat.beq 72 T && peq (some ⟨a, 0, none⟩) (some ⟨b, 0, none⟩)) = false) : IdSays c (.iface 72 (ptr a)) (.iface T (ptr b)) false w := by
  unfold Cmp at hc
  (refine calls_enter Tryz.func37 Tryz.ntmps37 rfl rfl ?_)
  (repeat (first | (refine cL ?_; first | (refine cL_guard ?_; refine L_unwanted rfl rfl rfl ?_) | (refine cL_call ?_; first | refine L_callI (unalias_any _ _ _ rfl) rfl rfl ?_ | refine L_callI (unalias_any _ _ _ hT) rfl rfl ?_) | (refine cL_eql ?_; refine L_valB (R_eqIf rfl rfl (hA.live hl) (hA.live hl')) e rfl rfl rfl ?_)) | refine r137 ?_))
  (refine G_retF rfl ?_)
  exact ⟨_, rfl, rfl, Ext.refl _ _⟩
end
end Go.Proofs.YtjilnjifegeceaaGreatDoor

/-
  Identical types, second part: types of one kind without lists.
  Said in full.
-/
namespace Go.Proofs.YtjilnjifegeceaaGreatDoor
set_option maxRecDepth 100000
set_option maxHeartbeats 4000000
attribute [local irreducible] Calls execOp

section
variable {H : Hp} {c a b : Nat} (w : World) (hA : Agree H w) (hc : Cmp H c)
include hA hc

theorem id_basic {n n' : Int} {i i' s s' : Value} (hx : H a = some (Ob [.int .i64 n, i, s] 173)) (hy : H b = some (Ob [.int .i64 n', i', s'] 173)) (e : (Nat.beq 156 156 && peq (some ⟨a, 0, none⟩) (some ⟨b, 0, none⟩)) = false) :
    IdSays c (.iface 156 (ptr a)) (.iface 156 (ptr b)) (n == n') w := by
  have hl : LiveH H a := ⟨_, _, _, hx⟩
  have hl' : LiveH H b := ⟨_, _, _, hy⟩
  have hAg : ∀ w', Ext No w w' → Agree H w' := fun _ he => hA.ext0 he
  unfold Cmp at hc
  (refine calls_enter Tryz.func37 Tryz.ntmps37 rfl rfl ?_)
  (repeat (first | (refine cL ?_; first | (refine cL_guard ?_; refine L_unwanted rfl rfl rfl ?_) | (refine cL_move ?_; refine L_val R_move rfl rfl rfl ?_) | (refine cL_load ?_; first | refine L_val (R_loadB rfl (by assumption) (by rfl)) rfl rfl rfl ?_ | refine L_val (R_loadH (by assumption) rfl (by assumption) (by rfl)) rfl rfl rfl ?_) | (refine cL_fieldAddr ?_; refine L_val (R_fa rfl) rfl rfl rfl ?_) | (refine cL_nilCheck ?_; refine L_val (R_nil rfl) rfl rfl rfl ?_) | (refine cL_assign ?_; refine L_val R_assign rfl rfl rfl ?_) | (refine cL_extract ?_; refine L_val (R_extract rfl rfl) rfl rfl rfl ?_) | (refine cL_typeAssert ?_; first | refine L_val (R_taY rfl) rfl rfl rfl ?_ | refine L_val (R_taN rfl rfl) rfl rfl rfl ?_ | refine L_val (R_taNil rfl) rfl rfl rfl ?_) | (refine cL_call ?_; first | refine L_callI (unalias_any _ _ _ rfl) rfl rfl ?_ | refine L_val (R_len rfl) rfl rfl rfl ?_) | (refine cL_pick ?_; first | refine L_val (R_pickT rfl) rfl rfl rfl ?_ | refine L_val (R_pickF rfl) rfl rfl rfl ?_) | (refine cL_eql ?_; first | refine L_valB (R_eqIf rfl rfl (hA.live hl) (hA.live hl')) e rfl rfl rfl ?_ | refine L_val (R_eqPN rfl rfl) rfl rfl rfl ?_ | refine L_val (R_eqI rfl rfl) rfl rfl rfl ?_ | refine L_val (R_eqB rfl rfl) rfl rfl rfl ?_ | refine L_val (R_eqIfN rfl rfl) rfl rfl rfl ?_ | refine L_val (R_eqIfNN rfl) rfl rfl rfl ?_) | (refine cL_neq ?_; first | refine L_val (R_nePN rfl rfl) rfl rfl rfl ?_ | refine L_val (R_neI rfl rfl) rfl rfl rfl ?_ | refine L_val (R_neB rfl rfl) rfl rfl rfl ?_ | refine L_val (R_neIfN rfl rfl) rfl rfl rfl ?_ | refine L_val (R_neIfNN rfl) rfl rfl rfl ?_) | (refine cL_lss ?_; refine L_val (R_ltI rfl rfl) rfl rfl rfl ?_) | (refine cL_makeInterface ?_; refine L_val R_mkI rfl rfl rfl ?_) | (refine cL_not ?_; refine L_val (R_not rfl) rfl rfl rfl ?_) | (refine cL_add ?_; refine L_val (R_addI rfl rfl) rfl rfl rfl ?_) | refine L_nil ?_) | refine G_seq ?_ | refine G_region ?_ | refine G_skip ?_ | refine G_block ?_ | refine G_end ?_ | refine G_true rfl ?_ | refine G_false rfl ?_))
  (refine G_draw No (0 :: 1 :: 2 :: 3 :: 4 :: 5 :: 6 :: 7 :: 8 :: 9 :: []) [] follows (by kernel_rfl) rfl ?_)
  (repeat (first | (refine cD_guard ?_; refine D_unwanted rfl rfl ?_) | (refine cD_move ?_; refine D_val0 (fun _ _ => R_move) rfl rfl ?_) | (refine cD_load ?_; refine D_val0 (fun w he => R_loadH (hAg w he) rfl (by assumption) (by rfl)) rfl rfl ?_) | (refine cD_fieldAddr ?_; refine D_val0 (fun _ _ => R_fa rfl) rfl rfl ?_) | (refine cD_nilCheck ?_; refine D_val0 (fun _ _ => R_nil rfl) rfl rfl ?_) | (refine cD_assign ?_; refine D_val0 (fun _ _ => R_assign) rfl rfl ?_) | (refine cD_extract ?_; refine D_val0 (fun _ _ => R_extract rfl rfl) rfl rfl ?_) | (refine cD_typeAssert ?_; first | refine D_val0 (fun _ _ => R_taY rfl) rfl rfl ?_ | refine D_val0 (fun _ _ => R_taN rfl rfl) rfl rfl ?_ | refine D_val0 (fun _ _ => R_taNil rfl) rfl rfl ?_) | (refine cD_call ?_; refine D_val0 (fun _ _ => R_len rfl) rfl rfl ?_) | (refine cD_pick ?_; first | refine D_val0 (fun _ _ => R_pickT rfl) rfl rfl ?_ | refine D_val0 (fun _ _ => R_pickF rfl) rfl rfl ?_) | (refine cD_eql ?_; first | refine D_val0 (fun _ _ => R_eqPN rfl rfl) rfl rfl ?_ | refine D_val0 (fun _ _ => R_eqI rfl rfl) rfl rfl ?_ | refine D_val0 (fun _ _ => R_eqB rfl rfl) rfl rfl ?_ | refine D_val0 (fun _ _ => R_eqIfN rfl rfl) rfl rfl ?_ | refine D_val0 (fun _ _ => R_eqIfNN rfl) rfl rfl ?_) | (refine cD_neq ?_; first | refine D_val0 (fun _ _ => R_nePN rfl rfl) rfl rfl ?_ | refine D_val0 (fun _ _ => R_neI rfl rfl) rfl rfl ?_ | refine D_val0 (fun _ _ => R_neB rfl rfl) rfl rfl ?_ | refine D_val0 (fun _ _ => R_neIfN rfl rfl) rfl rfl ?_ | refine D_val0 (fun _ _ => R_neIfNN rfl) rfl rfl ?_) | (refine cD_lss ?_; refine D_val0 (fun _ _ => R_ltI rfl rfl) rfl rfl ?_) | (refine cD_makeInterface ?_; refine D_val0 (fun _ _ => R_mkI) rfl rfl ?_) | (refine cD_not ?_; refine D_val0 (fun _ _ => R_not rfl) rfl rfl ?_) | (refine cD_add ?_; refine D_val0 (fun _ _ => R_addI rfl rfl) rfl rfl ?_)))
  refine D_nil fun w1 hw1 => ?_
  (repeat (first | (refine cL ?_; first | (refine cL_guard ?_; refine L_unwanted rfl rfl rfl ?_) | (refine cL_move ?_; refine L_val R_move rfl rfl rfl ?_) | (refine cL_load ?_; first | refine L_val (R_loadB rfl (by assumption) (by rfl)) rfl rfl rfl ?_ | refine L_val (R_loadH (by assumption) rfl (by assumption) (by rfl)) rfl rfl rfl ?_) | (refine cL_fieldAddr ?_; refine L_val (R_fa rfl) rfl rfl rfl ?_) | (refine cL_nilCheck ?_; refine L_val (R_nil rfl) rfl rfl rfl ?_) | (refine cL_assign ?_; refine L_val R_assign rfl rfl rfl ?_) | (refine cL_extract ?_; refine L_val (R_extract rfl rfl) rfl rfl rfl ?_) | (refine cL_typeAssert ?_; first | refine L_val (R_taY rfl) rfl rfl rfl ?_ | refine L_val (R_taN rfl rfl) rfl rfl rfl ?_ | refine L_val (R_taNil rfl) rfl rfl rfl ?_) | (refine cL_call ?_; refine L_val (R_len rfl) rfl rfl rfl ?_) | (refine cL_pick ?_; first | refine L_val (R_pickT rfl) rfl rfl rfl ?_ | refine L_val (R_pickF rfl) rfl rfl rfl ?_) | (refine cL_eql ?_; first | refine L_val (R_eqPN rfl rfl) rfl rfl rfl ?_ | refine L_val (R_eqI rfl rfl) rfl rfl rfl ?_ | refine L_val (R_eqB rfl rfl) rfl rfl rfl ?_ | refine L_val (R_eqIfN rfl rfl) rfl rfl rfl ?_ | refine L_val (R_eqIfNN rfl) rfl rfl rfl ?_) | (refine cL_neq ?_; first | refine L_val (R_nePN rfl rfl) rfl rfl rfl ?_ | refine L_val (R_neI rfl rfl) rfl rfl rfl ?_ | refine L_val (R_neB rfl rfl) rfl rfl rfl ?_ | refine L_val (R_neIfN rfl rfl) rfl rfl rfl ?_ | refine L_val (R_neIfNN rfl) rfl rfl rfl ?_) | (refine cL_lss ?_; refine L_val (R_ltI rfl rfl) rfl rfl rfl ?_) | (refine cL_makeInterface ?_; refine L_val R_mkI rfl rfl rfl ?_) | (refine cL_not ?_; refine L_val (R_not rfl) rfl rfl rfl ?_) | (refine cL_add ?_; refine L_val (R_addI rfl rfl) rfl rfl rfl ?_) | refine L_nil ?_) | refine G_seq ?_ | refine G_region ?_ | refine G_skip ?_ | refine G_block ?_ | refine G_end ?_ | refine G_true rfl ?_ | refine G_false rfl ?_))
  (refine G_retF rfl ?_)
  exact ⟨_, rfl, rfl, hw1⟩

theorem id_slice {v v' : Value} {r : Bool} (hx : H a = some (Ob [v] 179)) (hy : H b = some (Ob [v'] 179)) (e : (Nat.beq 97 97 && peq (some ⟨a, 0, none⟩) (some ⟨b, 0, none⟩)) = false)
    (ih : ∀ w', Agree H w' → IdSays c v v' r w') : IdSays c (.iface 97 (ptr a)) (.iface 97 (ptr b)) r w := by
  have hl : LiveH H a := ⟨_, _, _, hx⟩
  have hl' : LiveH H b := ⟨_, _, _, hy⟩
  have hAg : ∀ w', Ext No w w' → Agree H w' := fun _ he => hA.ext0 he
  unfold Cmp at hc
  (refine calls_enter Tryz.func37 Tryz.ntmps37 rfl rfl ?_)
  (repeat (first | (refine cL ?_; first | (refine cL_guard ?_; refine L_unwanted rfl rfl rfl ?_) | (refine cL_move ?_; refine L_val R_move rfl rfl rfl ?_) | (refine cL_load ?_; first | refine L_val (R_loadB rfl (by assumption) (by rfl)) rfl rfl rfl ?_ | refine L_val (R_loadH (by assumption) rfl (by assumption) (by rfl)) rfl rfl rfl ?_) | (refine cL_fieldAddr ?_; refine L_val (R_fa rfl) rfl rfl rfl ?_) | (refine cL_nilCheck ?_; refine L_val (R_nil rfl) rfl rfl rfl ?_) | (refine cL_assign ?_; refine L_val R_assign rfl rfl rfl ?_) | (refine cL_extract ?_; refine L_val (R_extract rfl rfl) rfl rfl rfl ?_) | (refine cL_typeAssert ?_; first | refine L_val (R_taY rfl) rfl rfl rfl ?_ | refine L_val (R_taN rfl rfl) rfl rfl rfl ?_ | refine L_val (R_taNil rfl) rfl rfl rfl ?_) | (refine cL_call ?_; first | refine L_callI (unalias_any _ _ _ rfl) rfl rfl ?_ | refine L_val (R_len rfl) rfl rfl rfl ?_) | (refine cL_pick ?_; first | refine L_val (R_pickT rfl) rfl rfl rfl ?_ | refine L_val (R_pickF rfl) rfl rfl rfl ?_) | (refine cL_eql ?_; first | refine L_valB (R_eqIf rfl rfl (hA.live hl) (hA.live hl')) e rfl rfl rfl ?_ | refine L_val (R_eqPN rfl rfl) rfl rfl rfl ?_ | refine L_val (R_eqI rfl rfl) rfl rfl rfl ?_ | refine L_val (R_eqB rfl rfl) rfl rfl rfl ?_ | refine L_val (R_eqIfN rfl rfl) rfl rfl rfl ?_ | refine L_val (R_eqIfNN rfl) rfl rfl rfl ?_) | (refine cL_neq ?_; first | refine L_val (R_nePN rfl rfl) rfl rfl rfl ?_ | refine L_val (R_neI rfl rfl) rfl rfl rfl ?_ | refine L_val (R_neB rfl rfl) rfl rfl rfl ?_ | refine L_val (R_neIfN rfl rfl) rfl rfl rfl ?_ | refine L_val (R_neIfNN rfl) rfl rfl rfl ?_) | (refine cL_lss ?_; refine L_val (R_ltI rfl rfl) rfl rfl rfl ?_) | (refine cL_makeInterface ?_; refine L_val R_mkI rfl rfl rfl ?_) | (refine cL_not ?_; refine L_val (R_not rfl) rfl rfl rfl ?_) | (refine cL_add ?_; refine L_val (R_addI rfl rfl) rfl rfl rfl ?_) | refine L_nil ?_) | refine G_seq ?_ | refine G_region ?_ | refine G_skip ?_ | refine G_block ?_ | refine G_end ?_ | refine G_true rfl ?_ | refine G_false rfl ?_))
  (refine G_draw No (0 :: 1 :: 2 :: 3 :: 4 :: 5 :: 6 :: 7 :: 8 :: 9 :: 10 :: 11 :: []) [] follows (by kernel_rfl) rfl ?_)
  (repeat (first | (refine cD_guard ?_; refine D_unwanted rfl rfl ?_) | (refine cD_move ?_; refine D_val0 (fun _ _ => R_move) rfl rfl ?_) | (refine cD_load ?_; refine D_val0 (fun w he => R_loadH (hAg w he) rfl (by assumption) (by rfl)) rfl rfl ?_) | (refine cD_fieldAddr ?_; refine D_val0 (fun _ _ => R_fa rfl) rfl rfl ?_) | (refine cD_nilCheck ?_; refine D_val0 (fun _ _ => R_nil rfl) rfl rfl ?_) | (refine cD_assign ?_; refine D_val0 (fun _ _ => R_assign) rfl rfl ?_) | (refine cD_extract ?_; refine D_val0 (fun _ _ => R_extract rfl rfl) rfl rfl ?_) | (refine cD_typeAssert ?_; first | refine D_val0 (fun _ _ => R_taY rfl) rfl rfl ?_ | refine D_val0 (fun _ _ => R_taN rfl rfl) rfl rfl ?_ | refine D_val0 (fun _ _ => R_taNil rfl) rfl rfl ?_) | (refine cD_call ?_; first | refine D_callQ (fun w he => ih w (hAg w he)) rfl ?_ | refine D_val0 (fun _ _ => R_len rfl) rfl rfl ?_) | (refine cD_pick ?_; first | refine D_val0 (fun _ _ => R_pickT rfl) rfl rfl ?_ | refine D_val0 (fun _ _ => R_pickF rfl) rfl rfl ?_) | (refine cD_eql ?_; first | refine D_val0 (fun _ _ => R_eqPN rfl rfl) rfl rfl ?_ | refine D_val0 (fun _ _ => R_eqI rfl rfl) rfl rfl ?_ | refine D_val0 (fun _ _ => R_eqB rfl rfl) rfl rfl ?_ | refine D_val0 (fun _ _ => R_eqIfN rfl rfl) rfl rfl ?_ | refine D_val0 (fun _ _ => R_eqIfNN rfl) rfl rfl ?_) | (refine cD_neq ?_; first | refine D_val0 (fun _ _ => R_nePN rfl rfl) rfl rfl ?_ | refine D_val0 (fun _ _ => R_neI rfl rfl) rfl rfl ?_ | refine D_val0 (fun _ _ => R_neB rfl rfl) rfl rfl ?_ | refine D_val0 (fun _ _ => R_neIfN rfl rfl) rfl rfl ?_ | refine D_val0 (fun _ _ => R_neIfNN rfl) rfl rfl ?_) | (refine cD_lss ?_; refine D_val0 (fun _ _ => R_ltI rfl rfl) rfl rfl ?_) | (refine cD_makeInterface ?_; refine D_val0 (fun _ _ => R_mkI) rfl rfl ?_) | (refine cD_not ?_; refine D_val0 (fun _ _ => R_not rfl) rfl rfl ?_) | (refine cD_add ?_; refine D_val0 (fun _ _ => R_addI rfl rfl) rfl rfl ?_)))
  refine D_nil fun w1 hw1 => ?_
  (repeat (first | (refine cL ?_; first | (refine cL_guard ?_; refine L_unwanted rfl rfl rfl ?_) | (refine cL_move ?_; refine L_val R_move rfl rfl rfl ?_) | (refine cL_load ?_; first | refine L_val (R_loadB rfl (by assumption) (by rfl)) rfl rfl rfl ?_ | refine L_val (R_loadH (by assumption) rfl (by assumption) (by rfl)) rfl rfl rfl ?_) | (refine cL_fieldAddr ?_; refine L_val (R_fa rfl) rfl rfl rfl ?_) | (refine cL_nilCheck ?_; refine L_val (R_nil rfl) rfl rfl rfl ?_) | (refine cL_assign ?_; refine L_val R_assign rfl rfl rfl ?_) | (refine cL_extract ?_; refine L_val (R_extract rfl rfl) rfl rfl rfl ?_) | (refine cL_typeAssert ?_; first | refine L_val (R_taY rfl) rfl rfl rfl ?_ | refine L_val (R_taN rfl rfl) rfl rfl rfl ?_ | refine L_val (R_taNil rfl) rfl rfl rfl ?_) | (refine cL_call ?_; refine L_val (R_len rfl) rfl rfl rfl ?_) | (refine cL_pick ?_; first | refine L_val (R_pickT rfl) rfl rfl rfl ?_ | refine L_val (R_pickF rfl) rfl rfl rfl ?_) | (refine cL_eql ?_; first | refine L_val (R_eqPN rfl rfl) rfl rfl rfl ?_ | refine L_val (R_eqI rfl rfl) rfl rfl rfl ?_ | refine L_val (R_eqB rfl rfl) rfl rfl rfl ?_ | refine L_val (R_eqIfN rfl rfl) rfl rfl rfl ?_ | refine L_val (R_eqIfNN rfl) rfl rfl rfl ?_) | (refine cL_neq ?_; first | refine L_val (R_nePN rfl rfl) rfl rfl rfl ?_ | refine L_val (R_neI rfl rfl) rfl rfl rfl ?_ | refine L_val (R_neB rfl rfl) rfl rfl rfl ?_ | refine L_val (R_neIfN rfl rfl) rfl rfl rfl ?_ | refine L_val (R_neIfNN rfl) rfl rfl rfl ?_) | (refine cL_lss ?_; refine L_val (R_ltI rfl rfl) rfl rfl rfl ?_) | (refine cL_makeInterface ?_; refine L_val R_mkI rfl rfl rfl ?_) | (refine cL_not ?_; refine L_val (R_not rfl) rfl rfl rfl ?_) | (refine cL_add ?_; refine L_val (R_addI rfl rfl) rfl rfl rfl ?_) | refine L_nil ?_) | refine G_seq ?_ | refine G_region ?_ | refine G_skip ?_ | refine G_block ?_ | refine G_end ?_ | refine G_true rfl ?_ | refine G_false rfl ?_))
  (refine G_retF rfl ?_)
  exact ⟨_, rfl, rfl, hw1⟩

theorem id_pointer {v v' : Value} {r : Bool} (hx : H a = some (Ob [v] 191)) (hy : H b = some (Ob [v'] 191)) (e : (Nat.beq 95 95 && peq (some ⟨a, 0, none⟩) (some ⟨b, 0, none⟩)) = false)
    (ih : ∀ w', Agree H w' → IdSays c v v' r w') : IdSays c (.iface 95 (ptr a)) (.iface 95 (ptr b)) r w := by
  have hl : LiveH H a := ⟨_, _, _, hx⟩
  have hl' : LiveH H b := ⟨_, _, _, hy⟩
  have hAg : ∀ w', Ext No w w' → Agree H w' := fun _ he => hA.ext0 he
  unfold Cmp at hc
  (refine calls_enter Tryz.func37 Tryz.ntmps37 rfl rfl ?_)
  (repeat (first | (refine cL ?_; first | (refine cL_guard ?_; refine L_unwanted rfl rfl rfl ?_) | (refine cL_move ?_; refine L_val R_move rfl rfl rfl ?_) | (refine cL_load ?_; first | refine L_val (R_loadB rfl (by assumption) (by rfl)) rfl rfl rfl ?_ | refine L_val (R_loadH (by assumption) rfl (by assumption) (by rfl)) rfl rfl rfl ?_) | (refine cL_fieldAddr ?_; refine L_val (R_fa rfl) rfl rfl rfl ?_) | (refine cL_nilCheck ?_; refine L_val (R_nil rfl) rfl rfl rfl ?_) | (refine cL_assign ?_; refine L_val R_assign rfl rfl rfl ?_) | (refine cL_extract ?_; refine L_val (R_extract rfl rfl) rfl rfl rfl ?_) | (refine cL_typeAssert ?_; first | refine L_val (R_taY rfl) rfl rfl rfl ?_ | refine L_val (R_taN rfl rfl) rfl rfl rfl ?_ | refine L_val (R_taNil rfl) rfl rfl rfl ?_) | (refine cL_call ?_; first | refine L_callI (unalias_any _ _ _ rfl) rfl rfl ?_ | refine L_val (R_len rfl) rfl rfl rfl ?_) | (refine cL_pick ?_; first | refine L_val (R_pickT rfl) rfl rfl rfl ?_ | refine L_val (R_pickF rfl) rfl rfl rfl ?_) | (refine cL_eql ?_; first | refine L_valB (R_eqIf rfl rfl (hA.live hl) (hA.live hl')) e rfl rfl rfl ?_ | refine L_val (R_eqPN rfl rfl) rfl rfl rfl ?_ | refine L_val (R_eqI rfl rfl) rfl rfl rfl ?_ | refine L_val (R_eqB rfl rfl) rfl rfl rfl ?_ | refine L_val (R_eqIfN rfl rfl) rfl rfl rfl ?_ | refine L_val (R_eqIfNN rfl) rfl rfl rfl ?_) | (refine cL_neq ?_; first | refine L_val (R_nePN rfl rfl) rfl rfl rfl ?_ | refine L_val (R_neI rfl rfl) rfl rfl rfl ?_ | refine L_val (R_neB rfl rfl) rfl rfl rfl ?_ | refine L_val (R_neIfN rfl rfl) rfl rfl rfl ?_ | refine L_val (R_neIfNN rfl) rfl rfl rfl ?_) | (refine cL_lss ?_; refine L_val (R_ltI rfl rfl) rfl rfl rfl ?_) | (refine cL_makeInterface ?_; refine L_val R_mkI rfl rfl rfl ?_) | (refine cL_not ?_; refine L_val (R_not rfl) rfl rfl rfl ?_) | (refine cL_add ?_; refine L_val (R_addI rfl rfl) rfl rfl rfl ?_) | refine L_nil ?_) | refine G_seq ?_ | refine G_region ?_ | refine G_skip ?_ | refine G_block ?_ | refine G_end ?_ | refine G_true rfl ?_ | refine G_false rfl ?_))
  (refine G_draw No (0 :: 1 :: 2 :: 3 :: 4 :: 5 :: 6 :: 7 :: 8 :: 9 :: 10 :: 11 :: []) [] follows (by kernel_rfl) rfl ?_)
  (repeat (first | (refine cD_guard ?_; refine D_unwanted rfl rfl ?_) | (refine cD_move ?_; refine D_val0 (fun _ _ => R_move) rfl rfl ?_) | (refine cD_load ?_; refine D_val0 (fun w he => R_loadH (hAg w he) rfl (by assumption) (by rfl)) rfl rfl ?_) | (refine cD_fieldAddr ?_; refine D_val0 (fun _ _ => R_fa rfl) rfl rfl ?_) | (refine cD_nilCheck ?_; refine D_val0 (fun _ _ => R_nil rfl) rfl rfl ?_) | (refine cD_assign ?_; refine D_val0 (fun _ _ => R_assign) rfl rfl ?_) | (refine cD_extract ?_; refine D_val0 (fun _ _ => R_extract rfl rfl) rfl rfl ?_) | (refine cD_typeAssert ?_; first | refine D_val0 (fun _ _ => R_taY rfl) rfl rfl ?_ | refine D_val0 (fun _ _ => R_taN rfl rfl) rfl rfl ?_ | refine D_val0 (fun _ _ => R_taNil rfl) rfl rfl ?_) | (refine cD_call ?_; first | refine D_callQ (fun w he => ih w (hAg w he)) rfl ?_ | refine D_val0 (fun _ _ => R_len rfl) rfl rfl ?_) | (refine cD_pick ?_; first | refine D_val0 (fun _ _ => R_pickT rfl) rfl rfl ?_ | refine D_val0 (fun _ _ => R_pickF rfl) rfl rfl ?_) | (refine cD_eql ?_; first | refine D_val0 (fun _ _ => R_eqPN rfl rfl) rfl rfl ?_ | refine D_val0 (fun _ _ => R_eqI rfl rfl) rfl rfl ?_ | refine D_val0 (fun _ _ => R_eqB rfl rfl) rfl rfl ?_ | refine D_val0 (fun _ _ => R_eqIfN rfl rfl) rfl rfl ?_ | refine D_val0 (fun _ _ => R_eqIfNN rfl) rfl rfl ?_) | (refine cD_neq ?_; first | refine D_val0 (fun _ _ => R_nePN rfl rfl) rfl rfl ?_ | refine D_val0 (fun _ _ => R_neI rfl rfl) rfl rfl ?_ | refine D_val0 (fun _ _ => R_neB rfl rfl) rfl rfl ?_ | refine D_val0 (fun _ _ => R_neIfN rfl rfl) rfl rfl ?_ | refine D_val0 (fun _ _ => R_neIfNN rfl) rfl rfl ?_) | (refine cD_lss ?_; refine D_val0 (fun _ _ => R_ltI rfl rfl) rfl rfl ?_) | (refine cD_makeInterface ?_; refine D_val0 (fun _ _ => R_mkI) rfl rfl ?_) | (refine cD_not ?_; refine D_val0 (fun _ _ => R_not rfl) rfl rfl ?_) | (refine cD_add ?_; refine D_val0 (fun _ _ => R_addI rfl rfl) rfl rfl ?_)))
  refine D_nil fun w1 hw1 => ?_
  (repeat (first | (refine cL ?_; first | (refine cL_guard ?_; refine L_unwanted rfl rfl rfl ?_) | (refine cL_move ?_; refine L_val R_move rfl rfl rfl ?_) | (refine cL_load ?_; first | refine L_val (R_loadB rfl (by assumption) (by rfl)) rfl rfl rfl ?_ | refine L_val (R_loadH (by assumption) rfl (by assumption) (by rfl)) rfl rfl rfl ?_) | (refine cL_fieldAddr ?_; refine L_val (R_fa rfl) rfl rfl rfl ?_) | (refine cL_nilCheck ?_; refine L_val (R_nil rfl) rfl rfl rfl ?_) | (refine cL_assign ?_; refine L_val R_assign rfl rfl rfl ?_) | (refine cL_extract ?_; refine L_val (R_extract rfl rfl) rfl rfl rfl ?_) | (refine cL_typeAssert ?_; first | refine L_val (R_taY rfl) rfl rfl rfl ?_ | refine L_val (R_taN rfl rfl) rfl rfl rfl ?_ | refine L_val (R_taNil rfl) rfl rfl rfl ?_) | (refine cL_call ?_; refine L_val (R_len rfl) rfl rfl rfl ?_) | (refine cL_pick ?_; first | refine L_val (R_pickT rfl) rfl rfl rfl ?_ | refine L_val (R_pickF rfl) rfl rfl rfl ?_) | (refine cL_eql ?_; first | refine L_val (R_eqPN rfl rfl) rfl rfl rfl ?_ | refine L_val (R_eqI rfl rfl) rfl rfl rfl ?_ | refine L_val (R_eqB rfl rfl) rfl rfl rfl ?_ | refine L_val (R_eqIfN rfl rfl) rfl rfl rfl ?_ | refine L_val (R_eqIfNN rfl) rfl rfl rfl ?_) | (refine cL_neq ?_; first | refine L_val (R_nePN rfl rfl) rfl rfl rfl ?_ | refine L_val (R_neI rfl rfl) rfl rfl rfl ?_ | refine L_val (R_neB rfl rfl) rfl rfl rfl ?_ | refine L_val (R_neIfN rfl rfl) rfl rfl rfl ?_ | refine L_val (R_neIfNN rfl) rfl rfl rfl ?_) | (refine cL_lss ?_; refine L_val (R_ltI rfl rfl) rfl rfl rfl ?_) | (refine cL_makeInterface ?_; refine L_val R_mkI rfl rfl rfl ?_) | (refine cL_not ?_; refine L_val (R_not rfl) rfl rfl rfl ?_) | (refine cL_add ?_; refine L_val (R_addI rfl rfl) rfl rfl rfl ?_) | refine L_nil ?_) | refine G_seq ?_ | refine G_region ?_ | refine G_skip ?_ | refine G_block ?_ | refine G_end ?_ | refine G_true rfl ?_ | refine G_false rfl ?_))
  (refine G_retF rfl ?_)
  exact ⟨_, rfl, rfl, hw1⟩

theorem id_array {n n' : Int} {v v' : Value} {r : Bool} (hx : H a = some (Ob [.int .i64 n, v] 176)) (hy : H b = some (Ob [.int .i64 n', v'] 176)) (h0 : 0 ≤ n) (h1 : 0 ≤ n') (e : (Nat.beq 99 99 && peq (some ⟨a, 0, none⟩) (some ⟨b, 0, none⟩)) = false)
    (ih : ∀ w', Agree H w' → IdSays c v v' r w') : IdSays c (.iface 99 (ptr a)) (.iface 99 (ptr b)) (n == n' && r) w := by
  have hl : LiveH H a := ⟨_, _, _, hx⟩
  have hl' : LiveH H b := ⟨_, _, _, hy⟩
  have hAg : ∀ w', Ext No w w' → Agree H w' := fun _ he => hA.ext0 he
  unfold Cmp at hc
  have l0 : decide (n < 0) = false := decide_eq_false (by omega)
  have l1 : decide (n' < 0) = false := decide_eq_false (by omega)
  cases e0 : (n == n') with
  | true =>
    (refine calls_enter Tryz.func37 Tryz.ntmps37 rfl rfl ?_)
    (repeat (first | (refine cL ?_; first | (refine cL_guard ?_; refine L_unwanted rfl rfl rfl ?_) | (refine cL_move ?_; refine L_val R_move rfl rfl rfl ?_) | (refine cL_load ?_; first | refine L_val (R_loadB rfl (by assumption) (by rfl)) rfl rfl rfl ?_ | refine L_val (R_loadH (by assumption) rfl (by assumption) (by rfl)) rfl rfl rfl ?_) | (refine cL_fieldAddr ?_; refine L_val (R_fa rfl) rfl rfl rfl ?_) | (refine cL_nilCheck ?_; refine L_val (R_nil rfl) rfl rfl rfl ?_) | (refine cL_assign ?_; refine L_val R_assign rfl rfl rfl ?_) | (refine cL_extract ?_; refine L_val (R_extract rfl rfl) rfl rfl rfl ?_) | (refine cL_typeAssert ?_; first | refine L_val (R_taY rfl) rfl rfl rfl ?_ | refine L_val (R_taN rfl rfl) rfl rfl rfl ?_ | refine L_val (R_taNil rfl) rfl rfl rfl ?_) | (refine cL_call ?_; first | refine L_callI (unalias_any _ _ _ rfl) rfl rfl ?_ | refine L_val (R_len rfl) rfl rfl rfl ?_) | (refine cL_pick ?_; first | refine L_val (R_pickT rfl) rfl rfl rfl ?_ | refine L_val (R_pickF rfl) rfl rfl rfl ?_) | (refine cL_eql ?_; first | refine L_valB (R_eqIf rfl rfl (hA.live hl) (hA.live hl')) e rfl rfl rfl ?_ | refine L_val (R_eqPN rfl rfl) rfl rfl rfl ?_ | refine L_val (R_eqI rfl rfl) rfl rfl rfl ?_ | refine L_val (R_eqB rfl rfl) rfl rfl rfl ?_ | refine L_val (R_eqIfN rfl rfl) rfl rfl rfl ?_ | refine L_val (R_eqIfNN rfl) rfl rfl rfl ?_) | (refine cL_neq ?_; first | refine L_val (R_nePN rfl rfl) rfl rfl rfl ?_ | refine L_val (R_neI rfl rfl) rfl rfl rfl ?_ | refine L_val (R_neB rfl rfl) rfl rfl rfl ?_ | refine L_val (R_neIfN rfl rfl) rfl rfl rfl ?_ | refine L_val (R_neIfNN rfl) rfl rfl rfl ?_) | (refine cL_lss ?_; refine L_val (R_ltI rfl rfl) rfl rfl rfl ?_) | (refine cL_makeInterface ?_; refine L_val R_mkI rfl rfl rfl ?_) | (refine cL_not ?_; refine L_val (R_not rfl) rfl rfl rfl ?_) | (refine cL_add ?_; refine L_val (R_addI rfl rfl) rfl rfl rfl ?_) | refine L_nil ?_) | refine G_seq ?_ | refine G_region ?_ | refine G_skip ?_ | refine G_block ?_ | refine G_end ?_ | refine G_true rfl ?_ | refine G_false rfl ?_))
    (refine G_draw No (0 :: 1 :: 2 :: 3 :: 4 :: 5 :: 6 :: 7 :: 8 :: 9 :: 10 :: 11 :: 12 :: 13 :: 14 :: 15 :: 16 :: 17 :: 18 :: 19 :: 20 :: 21 :: 22 :: 23 :: 24 :: 25 :: 26 :: 27 :: 28 :: 29 :: 30 :: 31 :: 32 :: 33 :: 34 :: 35 :: 36 :: []) [] follows (by kernel_rfl) rfl ?_)
    (repeat (first | (refine cD_guard ?_; refine D_unwanted rfl rfl ?_) | (refine cD_move ?_; refine D_val0 (fun _ _ => R_move) rfl rfl ?_) | (refine cD_load ?_; refine D_val0 (fun w he => R_loadH (hAg w he) rfl (by assumption) (by rfl)) rfl rfl ?_) | (refine cD_fieldAddr ?_; refine D_val0 (fun _ _ => R_fa rfl) rfl rfl ?_) | (refine cD_nilCheck ?_; refine D_val0 (fun _ _ => R_nil rfl) rfl rfl ?_) | (refine cD_assign ?_; refine D_val0 (fun _ _ => R_assign) rfl rfl ?_) | (refine cD_extract ?_; refine D_val0 (fun _ _ => R_extract rfl rfl) rfl rfl ?_) | (refine cD_typeAssert ?_; first | refine D_val0 (fun _ _ => R_taY rfl) rfl rfl ?_ | refine D_val0 (fun _ _ => R_taN rfl rfl) rfl rfl ?_ | refine D_val0 (fun _ _ => R_taNil rfl) rfl rfl ?_) | (refine cD_call ?_; first | refine D_callQ (fun w he => ih w (hAg w he)) rfl ?_ | refine D_val0 (fun _ _ => R_len rfl) rfl rfl ?_) | (refine cD_pick ?_; first | refine D_val0 (fun _ _ => R_pickT rfl) rfl rfl ?_ | refine D_val0 (fun _ _ => R_pickF rfl) rfl rfl ?_) | (refine cD_eql ?_; first | refine D_valB (fun _ _ => R_eqI rfl rfl) e0 rfl rfl ?_ | refine D_val0 (fun _ _ => R_eqPN rfl rfl) rfl rfl ?_ | refine D_val0 (fun _ _ => R_eqI rfl rfl) rfl rfl ?_ | refine D_val0 (fun _ _ => R_eqB rfl rfl) rfl rfl ?_ | refine D_val0 (fun _ _ => R_eqIfN rfl rfl) rfl rfl ?_ | refine D_val0 (fun _ _ => R_eqIfNN rfl) rfl rfl ?_) | (refine cD_neq ?_; first | refine D_val0 (fun _ _ => R_nePN rfl rfl) rfl rfl ?_ | refine D_val0 (fun _ _ => R_neI rfl rfl) rfl rfl ?_ | refine D_val0 (fun _ _ => R_neB rfl rfl) rfl rfl ?_ | refine D_val0 (fun _ _ => R_neIfN rfl rfl) rfl rfl ?_ | refine D_val0 (fun _ _ => R_neIfNN rfl) rfl rfl ?_) | (refine cD_lss ?_; first | refine D_valB (fun _ _ => R_ltI rfl rfl) l0 rfl rfl ?_ | refine D_valB (fun _ _ => R_ltI rfl rfl) l1 rfl rfl ?_ | refine D_val0 (fun _ _ => R_ltI rfl rfl) rfl rfl ?_) | (refine cD_makeInterface ?_; refine D_val0 (fun _ _ => R_mkI) rfl rfl ?_) | (refine cD_not ?_; refine D_val0 (fun _ _ => R_not rfl) rfl rfl ?_) | (refine cD_add ?_; refine D_val0 (fun _ _ => R_addI rfl rfl) rfl rfl ?_)))
    refine D_nil fun w1 hw1 => ?_
    (repeat (first | (refine cL ?_; first | (refine cL_guard ?_; refine L_unwanted rfl rfl rfl ?_) | (refine cL_move ?_; refine L_val R_move rfl rfl rfl ?_) | (refine cL_load ?_; first | refine L_val (R_loadB rfl (by assumption) (by rfl)) rfl rfl rfl ?_ | refine L_val (R_loadH (by assumption) rfl (by assumption) (by rfl)) rfl rfl rfl ?_) | (refine cL_fieldAddr ?_; refine L_val (R_fa rfl) rfl rfl rfl ?_) | (refine cL_nilCheck ?_; refine L_val (R_nil rfl) rfl rfl rfl ?_) | (refine cL_assign ?_; refine L_val R_assign rfl rfl rfl ?_) | (refine cL_extract ?_; refine L_val (R_extract rfl rfl) rfl rfl rfl ?_) | (refine cL_typeAssert ?_; first | refine L_val (R_taY rfl) rfl rfl rfl ?_ | refine L_val (R_taN rfl rfl) rfl rfl rfl ?_ | refine L_val (R_taNil rfl) rfl rfl rfl ?_) | (refine cL_call ?_; refine L_val (R_len rfl) rfl rfl rfl ?_) | (refine cL_pick ?_; first | refine L_val (R_pickT rfl) rfl rfl rfl ?_ | refine L_val (R_pickF rfl) rfl rfl rfl ?_) | (refine cL_eql ?_; first | refine L_val (R_eqPN rfl rfl) rfl rfl rfl ?_ | refine L_val (R_eqI rfl rfl) rfl rfl rfl ?_ | refine L_val (R_eqB rfl rfl) rfl rfl rfl ?_ | refine L_val (R_eqIfN rfl rfl) rfl rfl rfl ?_ | refine L_val (R_eqIfNN rfl) rfl rfl rfl ?_) | (refine cL_neq ?_; first | refine L_val (R_nePN rfl rfl) rfl rfl rfl ?_ | refine L_val (R_neI rfl rfl) rfl rfl rfl ?_ | refine L_val (R_neB rfl rfl) rfl rfl rfl ?_ | refine L_val (R_neIfN rfl rfl) rfl rfl rfl ?_ | refine L_val (R_neIfNN rfl) rfl rfl rfl ?_) | (refine cL_lss ?_; refine L_val (R_ltI rfl rfl) rfl rfl rfl ?_) | (refine cL_makeInterface ?_; refine L_val R_mkI rfl rfl rfl ?_) | (refine cL_not ?_; refine L_val (R_not rfl) rfl rfl rfl ?_) | (refine cL_add ?_; refine L_val (R_addI rfl rfl) rfl rfl rfl ?_) | refine L_nil ?_) | refine G_seq ?_ | refine G_region ?_ | refine G_skip ?_ | refine G_block ?_ | refine G_end ?_ | refine G_true rfl ?_ | refine G_false rfl ?_))
    (refine G_retF rfl ?_)
    exact ⟨_, rfl, rfl, hw1⟩
  | false =>
    (refine calls_enter Tryz.func37 Tryz.ntmps37 rfl rfl ?_)
    (repeat (first | (refine cL ?_; first | (refine cL_guard ?_; refine L_unwanted rfl rfl rfl ?_) | (refine cL_move ?_; refine L_val R_move rfl rfl rfl ?_) | (refine cL_load ?_; first | refine L_val (R_loadB rfl (by assumption) (by rfl)) rfl rfl rfl ?_ | refine L_val (R_loadH (by assumption) rfl (by assumption) (by rfl)) rfl rfl rfl ?_) | (refine cL_fieldAddr ?_; refine L_val (R_fa rfl) rfl rfl rfl ?_) | (refine cL_nilCheck ?_; refine L_val (R_nil rfl) rfl rfl rfl ?_) | (refine cL_assign ?_; refine L_val R_assign rfl rfl rfl ?_) | (refine cL_extract ?_; refine L_val (R_extract rfl rfl) rfl rfl rfl ?_) | (refine cL_typeAssert ?_; first | refine L_val (R_taY rfl) rfl rfl rfl ?_ | refine L_val (R_taN rfl rfl) rfl rfl rfl ?_ | refine L_val (R_taNil rfl) rfl rfl rfl ?_) | (refine cL_call ?_; first | refine L_callI (unalias_any _ _ _ rfl) rfl rfl ?_ | refine L_val (R_len rfl) rfl rfl rfl ?_) | (refine cL_pick ?_; first | refine L_val (R_pickT rfl) rfl rfl rfl ?_ | refine L_val (R_pickF rfl) rfl rfl rfl ?_) | (refine cL_eql ?_; first | refine L_valB (R_eqIf rfl rfl (hA.live hl) (hA.live hl')) e rfl rfl rfl ?_ | refine L_val (R_eqPN rfl rfl) rfl rfl rfl ?_ | refine L_val (R_eqI rfl rfl) rfl rfl rfl ?_ | refine L_val (R_eqB rfl rfl) rfl rfl rfl ?_ | refine L_val (R_eqIfN rfl rfl) rfl rfl rfl ?_ | refine L_val (R_eqIfNN rfl) rfl rfl rfl ?_) | (refine cL_neq ?_; first | refine L_val (R_nePN rfl rfl) rfl rfl rfl ?_ | refine L_val (R_neI rfl rfl) rfl rfl rfl ?_ | refine L_val (R_neB rfl rfl) rfl rfl rfl ?_ | refine L_val (R_neIfN rfl rfl) rfl rfl rfl ?_ | refine L_val (R_neIfNN rfl) rfl rfl rfl ?_) | (refine cL_lss ?_; refine L_val (R_ltI rfl rfl) rfl rfl rfl ?_) | (refine cL_makeInterface ?_; refine L_val R_mkI rfl rfl rfl ?_) | (refine cL_not ?_; refine L_val (R_not rfl) rfl rfl rfl ?_) | (refine cL_add ?_; refine L_val (R_addI rfl rfl) rfl rfl rfl ?_) | refine L_nil ?_) | refine G_seq ?_ | refine G_region ?_ | refine G_skip ?_ | refine G_block ?_ | refine G_end ?_ | refine G_true rfl ?_ | refine G_false rfl ?_))
    (refine G_draw No (0 :: 1 :: 2 :: 3 :: 4 :: 5 :: 6 :: 7 :: 8 :: 9 :: 10 :: 11 :: 12 :: 13 :: 14 :: 15 :: 16 :: 17 :: 18 :: 19 :: 20 :: 21 :: 22 :: 23 :: 24 :: 25 :: 26 :: 27 :: 28 :: 29 :: 30 :: 31 :: 32 :: 33 :: 34 :: 35 :: 36 :: []) [] follows (by kernel_rfl) rfl ?_)
    (repeat (first | (refine cD_guard ?_; refine D_unwanted rfl rfl ?_) | (refine cD_move ?_; refine D_val0 (fun _ _ => R_move) rfl rfl ?_) | (refine cD_load ?_; refine D_val0 (fun w he => R_loadH (hAg w he) rfl (by assumption) (by rfl)) rfl rfl ?_) | (refine cD_fieldAddr ?_; refine D_val0 (fun _ _ => R_fa rfl) rfl rfl ?_) | (refine cD_nilCheck ?_; refine D_val0 (fun _ _ => R_nil rfl) rfl rfl ?_) | (refine cD_assign ?_; refine D_val0 (fun _ _ => R_assign) rfl rfl ?_) | (refine cD_extract ?_; refine D_val0 (fun _ _ => R_extract rfl rfl) rfl rfl ?_) | (refine cD_typeAssert ?_; first | refine D_val0 (fun _ _ => R_taY rfl) rfl rfl ?_ | refine D_val0 (fun _ _ => R_taN rfl rfl) rfl rfl ?_ | refine D_val0 (fun _ _ => R_taNil rfl) rfl rfl ?_) | (refine cD_call ?_; refine D_val0 (fun _ _ => R_len rfl) rfl rfl ?_) | (refine cD_pick ?_; first | refine D_val0 (fun _ _ => R_pickT rfl) rfl rfl ?_ | refine D_val0 (fun _ _ => R_pickF rfl) rfl rfl ?_) | (refine cD_eql ?_; first | refine D_valB (fun _ _ => R_eqI rfl rfl) e0 rfl rfl ?_ | refine D_val0 (fun _ _ => R_eqPN rfl rfl) rfl rfl ?_ | refine D_val0 (fun _ _ => R_eqI rfl rfl) rfl rfl ?_ | refine D_val0 (fun _ _ => R_eqB rfl rfl) rfl rfl ?_ | refine D_val0 (fun _ _ => R_eqIfN rfl rfl) rfl rfl ?_ | refine D_val0 (fun _ _ => R_eqIfNN rfl) rfl rfl ?_) | (refine cD_neq ?_; first | refine D_val0 (fun _ _ => R_nePN rfl rfl) rfl rfl ?_ | refine D_val0 (fun _ _ => R_neI rfl rfl) rfl rfl ?_ | refine D_val0 (fun _ _ => R_neB rfl rfl) rfl rfl ?_ | refine D_val0 (fun _ _ => R_neIfN rfl rfl) rfl rfl ?_ | refine D_val0 (fun _ _ => R_neIfNN rfl) rfl rfl ?_) | (refine cD_lss ?_; first | refine D_valB (fun _ _ => R_ltI rfl rfl) l0 rfl rfl ?_ | refine D_valB (fun _ _ => R_ltI rfl rfl) l1 rfl rfl ?_ | refine D_val0 (fun _ _ => R_ltI rfl rfl) rfl rfl ?_) | (refine cD_makeInterface ?_; refine D_val0 (fun _ _ => R_mkI) rfl rfl ?_) | (refine cD_not ?_; refine D_val0 (fun _ _ => R_not rfl) rfl rfl ?_) | (refine cD_add ?_; refine D_val0 (fun _ _ => R_addI rfl rfl) rfl rfl ?_)))
    refine D_nil fun w1 hw1 => ?_
    (repeat (first | (refine cL ?_; first | (refine cL_guard ?_; refine L_unwanted rfl rfl rfl ?_) | (refine cL_move ?_; refine L_val R_move rfl rfl rfl ?_) | (refine cL_load ?_; first | refine L_val (R_loadB rfl (by assumption) (by rfl)) rfl rfl rfl ?_ | refine L_val (R_loadH (by assumption) rfl (by assumption) (by rfl)) rfl rfl rfl ?_) | (refine cL_fieldAddr ?_; refine L_val (R_fa rfl) rfl rfl rfl ?_) | (refine cL_nilCheck ?_; refine L_val (R_nil rfl) rfl rfl rfl ?_) | (refine cL_assign ?_; refine L_val R_assign rfl rfl rfl ?_) | (refine cL_extract ?_; refine L_val (R_extract rfl rfl) rfl rfl rfl ?_) | (refine cL_typeAssert ?_; first | refine L_val (R_taY rfl) rfl rfl rfl ?_ | refine L_val (R_taN rfl rfl) rfl rfl rfl ?_ | refine L_val (R_taNil rfl) rfl rfl rfl ?_) | (refine cL_call ?_; refine L_val (R_len rfl) rfl rfl rfl ?_) | (refine cL_pick ?_; first | refine L_val (R_pickT rfl) rfl rfl rfl ?_ | refine L_val (R_pickF rfl) rfl rfl rfl ?_) | (refine cL_eql ?_; first | refine L_val (R_eqPN rfl rfl) rfl rfl rfl ?_ | refine L_val (R_eqI rfl rfl) rfl rfl rfl ?_ | refine L_val (R_eqB rfl rfl) rfl rfl rfl ?_ | refine L_val (R_eqIfN rfl rfl) rfl rfl rfl ?_ | refine L_val (R_eqIfNN rfl) rfl rfl rfl ?_) | (refine cL_neq ?_; first | refine L_val (R_nePN rfl rfl) rfl rfl rfl ?_ | refine L_val (R_neI rfl rfl) rfl rfl rfl ?_ | refine L_val (R_neB rfl rfl) rfl rfl rfl ?_ | refine L_val (R_neIfN rfl rfl) rfl rfl rfl ?_ | refine L_val (R_neIfNN rfl) rfl rfl rfl ?_) | (refine cL_lss ?_; refine L_val (R_ltI rfl rfl) rfl rfl rfl ?_) | (refine cL_makeInterface ?_; refine L_val R_mkI rfl rfl rfl ?_) | (refine cL_not ?_; refine L_val (R_not rfl) rfl rfl rfl ?_) | (refine cL_add ?_; refine L_val (R_addI rfl rfl) rfl rfl rfl ?_) | refine L_nil ?_) | refine G_seq ?_ | refine G_region ?_ | refine G_skip ?_ | refine G_block ?_ | refine G_end ?_ | refine G_true rfl ?_ | refine G_false rfl ?_))
    (refine G_retF rfl ?_)
    exact ⟨_, rfl, rfl, hw1⟩

theorem id_map {v v' u u' : Value} {r q : Bool} (hx : H a = some (Ob [v, u] 212)) (hy : H b = some (Ob [v', u'] 212)) (e : (Nat.beq 101 101 && peq (some ⟨a, 0, none⟩) (some ⟨b, 0, none⟩)) = false)
    (ih : ∀ w', Agree H w' → IdSays c v v' r w') (ih2 : ∀ w', Agree H w' → IdSays c u u' q w') : IdSays c (.iface 101 (ptr a)) (.iface 101 (ptr b)) (r && q) w := by
  have hl : LiveH H a := ⟨_, _, _, hx⟩
  have hl' : LiveH H b := ⟨_, _, _, hy⟩
  have hAg : ∀ w', Ext No w w' → Agree H w' := fun _ he => hA.ext0 he
  unfold Cmp at hc
  cases r with
  | true =>
    (refine calls_enter Tryz.func37 Tryz.ntmps37 rfl rfl ?_)
    (repeat (first | (refine cL ?_; first | (refine cL_guard ?_; refine L_unwanted rfl rfl rfl ?_) | (refine cL_move ?_; refine L_val R_move rfl rfl rfl ?_) | (refine cL_load ?_; first | refine L_val (R_loadB rfl (by assumption) (by rfl)) rfl rfl rfl ?_ | refine L_val (R_loadH (by assumption) rfl (by assumption) (by rfl)) rfl rfl rfl ?_) | (refine cL_fieldAddr ?_; refine L_val (R_fa rfl) rfl rfl rfl ?_) | (refine cL_nilCheck ?_; refine L_val (R_nil rfl) rfl rfl rfl ?_) | (refine cL_assign ?_; refine L_val R_assign rfl rfl rfl ?_) | (refine cL_extract ?_; refine L_val (R_extract rfl rfl) rfl rfl rfl ?_) | (refine cL_typeAssert ?_; first | refine L_val (R_taY rfl) rfl rfl rfl ?_ | refine L_val (R_taN rfl rfl) rfl rfl rfl ?_ | refine L_val (R_taNil rfl) rfl rfl rfl ?_) | (refine cL_call ?_; first | refine L_callI (unalias_any _ _ _ rfl) rfl rfl ?_ | refine L_val (R_len rfl) rfl rfl rfl ?_) | (refine cL_pick ?_; first | refine L_val (R_pickT rfl) rfl rfl rfl ?_ | refine L_val (R_pickF rfl) rfl rfl rfl ?_) | (refine cL_eql ?_; first | refine L_valB (R_eqIf rfl rfl (hA.live hl) (hA.live hl')) e rfl rfl rfl ?_ | refine L_val (R_eqPN rfl rfl) rfl rfl rfl ?_ | refine L_val (R_eqI rfl rfl) rfl rfl rfl ?_ | refine L_val (R_eqB rfl rfl) rfl rfl rfl ?_ | refine L_val (R_eqIfN rfl rfl) rfl rfl rfl ?_ | refine L_val (R_eqIfNN rfl) rfl rfl rfl ?_) | (refine cL_neq ?_; first | refine L_val (R_nePN rfl rfl) rfl rfl rfl ?_ | refine L_val (R_neI rfl rfl) rfl rfl rfl ?_ | refine L_val (R_neB rfl rfl) rfl rfl rfl ?_ | refine L_val (R_neIfN rfl rfl) rfl rfl rfl ?_ | refine L_val (R_neIfNN rfl) rfl rfl rfl ?_) | (refine cL_lss ?_; refine L_val (R_ltI rfl rfl) rfl rfl rfl ?_) | (refine cL_makeInterface ?_; refine L_val R_mkI rfl rfl rfl ?_) | (refine cL_not ?_; refine L_val (R_not rfl) rfl rfl rfl ?_) | (refine cL_add ?_; refine L_val (R_addI rfl rfl) rfl rfl rfl ?_) | refine L_nil ?_) | refine G_seq ?_ | refine G_region ?_ | refine G_skip ?_ | refine G_block ?_ | refine G_end ?_ | refine G_true rfl ?_ | refine G_false rfl ?_))
    (refine G_draw No (0 :: 1 :: 2 :: 3 :: 4 :: 5 :: 6 :: 7 :: 8 :: 9 :: 10 :: 11 :: 12 :: 13 :: 14 :: 15 :: 16 :: 17 :: 18 :: 19 :: 20 :: 21 :: 22 :: 23 :: 24 :: []) [] follows (by kernel_rfl) rfl ?_)
    (repeat (first | (refine cD_guard ?_; refine D_unwanted rfl rfl ?_) | (refine cD_move ?_; refine D_val0 (fun _ _ => R_move) rfl rfl ?_) | (refine cD_load ?_; refine D_val0 (fun w he => R_loadH (hAg w he) rfl (by assumption) (by rfl)) rfl rfl ?_) | (refine cD_fieldAddr ?_; refine D_val0 (fun _ _ => R_fa rfl) rfl rfl ?_) | (refine cD_nilCheck ?_; refine D_val0 (fun _ _ => R_nil rfl) rfl rfl ?_) | (refine cD_assign ?_; refine D_val0 (fun _ _ => R_assign) rfl rfl ?_) | (refine cD_extract ?_; refine D_val0 (fun _ _ => R_extract rfl rfl) rfl rfl ?_) | (refine cD_typeAssert ?_; first | refine D_val0 (fun _ _ => R_taY rfl) rfl rfl ?_ | refine D_val0 (fun _ _ => R_taN rfl rfl) rfl rfl ?_ | refine D_val0 (fun _ _ => R_taNil rfl) rfl rfl ?_) | (refine cD_call ?_; first | refine D_callQ (fun w he => ih w (hAg w he)) rfl ?_ | refine D_callQ (fun w he => ih2 w (hAg w he)) rfl ?_ | refine D_val0 (fun _ _ => R_len rfl) rfl rfl ?_) | (refine cD_pick ?_; first | refine D_val0 (fun _ _ => R_pickT rfl) rfl rfl ?_ | refine D_val0 (fun _ _ => R_pickF rfl) rfl rfl ?_) | (refine cD_eql ?_; first | refine D_val0 (fun _ _ => R_eqPN rfl rfl) rfl rfl ?_ | refine D_val0 (fun _ _ => R_eqI rfl rfl) rfl rfl ?_ | refine D_val0 (fun _ _ => R_eqB rfl rfl) rfl rfl ?_ | refine D_val0 (fun _ _ => R_eqIfN rfl rfl) rfl rfl ?_ | refine D_val0 (fun _ _ => R_eqIfNN rfl) rfl rfl ?_) | (refine cD_neq ?_; first | refine D_val0 (fun _ _ => R_nePN rfl rfl) rfl rfl ?_ | refine D_val0 (fun _ _ => R_neI rfl rfl) rfl rfl ?_ | refine D_val0 (fun _ _ => R_neB rfl rfl) rfl rfl ?_ | refine D_val0 (fun _ _ => R_neIfN rfl rfl) rfl rfl ?_ | refine D_val0 (fun _ _ => R_neIfNN rfl) rfl rfl ?_) | (refine cD_lss ?_; refine D_val0 (fun _ _ => R_ltI rfl rfl) rfl rfl ?_) | (refine cD_makeInterface ?_; refine D_val0 (fun _ _ => R_mkI) rfl rfl ?_) | (refine cD_not ?_; refine D_val0 (fun _ _ => R_not rfl) rfl rfl ?_) | (refine cD_add ?_; refine D_val0 (fun _ _ => R_addI rfl rfl) rfl rfl ?_)))
    refine D_nil fun w1 hw1 => ?_
    (repeat (first | (refine cL ?_; first | (refine cL_guard ?_; refine L_unwanted rfl rfl rfl ?_) | (refine cL_move ?_; refine L_val R_move rfl rfl rfl ?_) | (refine cL_load ?_; first | refine L_val (R_loadB rfl (by assumption) (by rfl)) rfl rfl rfl ?_ | refine L_val (R_loadH (by assumption) rfl (by assumption) (by rfl)) rfl rfl rfl ?_) | (refine cL_fieldAddr ?_; refine L_val (R_fa rfl) rfl rfl rfl ?_) | (refine cL_nilCheck ?_; refine L_val (R_nil rfl) rfl rfl rfl ?_) | (refine cL_assign ?_; refine L_val R_assign rfl rfl rfl ?_) | (refine cL_extract ?_; refine L_val (R_extract rfl rfl) rfl rfl rfl ?_) | (refine cL_typeAssert ?_; first | refine L_val (R_taY rfl) rfl rfl rfl ?_ | refine L_val (R_taN rfl rfl) rfl rfl rfl ?_ | refine L_val (R_taNil rfl) rfl rfl rfl ?_) | (refine cL_call ?_; refine L_val (R_len rfl) rfl rfl rfl ?_) | (refine cL_pick ?_; first | refine L_val (R_pickT rfl) rfl rfl rfl ?_ | refine L_val (R_pickF rfl) rfl rfl rfl ?_) | (refine cL_eql ?_; first | refine L_val (R_eqPN rfl rfl) rfl rfl rfl ?_ | refine L_val (R_eqI rfl rfl) rfl rfl rfl ?_ | refine L_val (R_eqB rfl rfl) rfl rfl rfl ?_ | refine L_val (R_eqIfN rfl rfl) rfl rfl rfl ?_ | refine L_val (R_eqIfNN rfl) rfl rfl rfl ?_) | (refine cL_neq ?_; first | refine L_val (R_nePN rfl rfl) rfl rfl rfl ?_ | refine L_val (R_neI rfl rfl) rfl rfl rfl ?_ | refine L_val (R_neB rfl rfl) rfl rfl rfl ?_ | refine L_val (R_neIfN rfl rfl) rfl rfl rfl ?_ | refine L_val (R_neIfNN rfl) rfl rfl rfl ?_) | (refine cL_lss ?_; refine L_val (R_ltI rfl rfl) rfl rfl rfl ?_) | (refine cL_makeInterface ?_; refine L_val R_mkI rfl rfl rfl ?_) | (refine cL_not ?_; refine L_val (R_not rfl) rfl rfl rfl ?_) | (refine cL_add ?_; refine L_val (R_addI rfl rfl) rfl rfl rfl ?_) | refine L_nil ?_) | refine G_seq ?_ | refine G_region ?_ | refine G_skip ?_ | refine G_block ?_ | refine G_end ?_ | refine G_true rfl ?_ | refine G_false rfl ?_))
    (refine G_retF rfl ?_)
    exact ⟨_, rfl, rfl, hw1⟩
  | false =>
    (refine calls_enter Tryz.func37 Tryz.ntmps37 rfl rfl ?_)
    (repeat (first | (refine cL ?_; first | (refine cL_guard ?_; refine L_unwanted rfl rfl rfl ?_) | (refine cL_move ?_; refine L_val R_move rfl rfl rfl ?_) | (refine cL_load ?_; first | refine L_val (R_loadB rfl (by assumption) (by rfl)) rfl rfl rfl ?_ | refine L_val (R_loadH (by assumption) rfl (by assumption) (by rfl)) rfl rfl rfl ?_) | (refine cL_fieldAddr ?_; refine L_val (R_fa rfl) rfl rfl rfl ?_) | (refine cL_nilCheck ?_; refine L_val (R_nil rfl) rfl rfl rfl ?_) | (refine cL_assign ?_; refine L_val R_assign rfl rfl rfl ?_) | (refine cL_extract ?_; refine L_val (R_extract rfl rfl) rfl rfl rfl ?_) | (refine cL_typeAssert ?_; first | refine L_val (R_taY rfl) rfl rfl rfl ?_ | refine L_val (R_taN rfl rfl) rfl rfl rfl ?_ | refine L_val (R_taNil rfl) rfl rfl rfl ?_) | (refine cL_call ?_; first | refine L_callI (unalias_any _ _ _ rfl) rfl rfl ?_ | refine L_val (R_len rfl) rfl rfl rfl ?_) | (refine cL_pick ?_; first | refine L_val (R_pickT rfl) rfl rfl rfl ?_ | refine L_val (R_pickF rfl) rfl rfl rfl ?_) | (refine cL_eql ?_; first | refine L_valB (R_eqIf rfl rfl (hA.live hl) (hA.live hl')) e rfl rfl rfl ?_ | refine L_val (R_eqPN rfl rfl) rfl rfl rfl ?_ | refine L_val (R_eqI rfl rfl) rfl rfl rfl ?_ | refine L_val (R_eqB rfl rfl) rfl rfl rfl ?_ | refine L_val (R_eqIfN rfl rfl) rfl rfl rfl ?_ | refine L_val (R_eqIfNN rfl) rfl rfl rfl ?_) | (refine cL_neq ?_; first | refine L_val (R_nePN rfl rfl) rfl rfl rfl ?_ | refine L_val (R_neI rfl rfl) rfl rfl rfl ?_ | refine L_val (R_neB rfl rfl) rfl rfl rfl ?_ | refine L_val (R_neIfN rfl rfl) rfl rfl rfl ?_ | refine L_val (R_neIfNN rfl) rfl rfl rfl ?_) | (refine cL_lss ?_; refine L_val (R_ltI rfl rfl) rfl rfl rfl ?_) | (refine cL_makeInterface ?_; refine L_val R_mkI rfl rfl rfl ?_) | (refine cL_not ?_; refine L_val (R_not rfl) rfl rfl rfl ?_) | (refine cL_add ?_; refine L_val (R_addI rfl rfl) rfl rfl rfl ?_) | refine L_nil ?_) | refine G_seq ?_ | refine G_region ?_ | refine G_skip ?_ | refine G_block ?_ | refine G_end ?_ | refine G_true rfl ?_ | refine G_false rfl ?_))
    (refine G_draw No (0 :: 1 :: 2 :: 3 :: 4 :: 5 :: 6 :: 7 :: 8 :: 9 :: 10 :: 11 :: 12 :: 13 :: 14 :: 15 :: 16 :: 17 :: 18 :: 19 :: 20 :: 21 :: 22 :: 23 :: 24 :: []) [] follows (by kernel_rfl) rfl ?_)
    (repeat (first | (refine cD_guard ?_; refine D_unwanted rfl rfl ?_) | (refine cD_move ?_; refine D_val0 (fun _ _ => R_move) rfl rfl ?_) | (refine cD_load ?_; refine D_val0 (fun w he => R_loadH (hAg w he) rfl (by assumption) (by rfl)) rfl rfl ?_) | (refine cD_fieldAddr ?_; refine D_val0 (fun _ _ => R_fa rfl) rfl rfl ?_) | (refine cD_nilCheck ?_; refine D_val0 (fun _ _ => R_nil rfl) rfl rfl ?_) | (refine cD_assign ?_; refine D_val0 (fun _ _ => R_assign) rfl rfl ?_) | (refine cD_extract ?_; refine D_val0 (fun _ _ => R_extract rfl rfl) rfl rfl ?_) | (refine cD_typeAssert ?_; first | refine D_val0 (fun _ _ => R_taY rfl) rfl rfl ?_ | refine D_val0 (fun _ _ => R_taN rfl rfl) rfl rfl ?_ | refine D_val0 (fun _ _ => R_taNil rfl) rfl rfl ?_) | (refine cD_call ?_; first | refine D_callQ (fun w he => ih w (hAg w he)) rfl ?_ | refine D_val0 (fun _ _ => R_len rfl) rfl rfl ?_) | (refine cD_pick ?_; first | refine D_val0 (fun _ _ => R_pickT rfl) rfl rfl ?_ | refine D_val0 (fun _ _ => R_pickF rfl) rfl rfl ?_) | (refine cD_eql ?_; first | refine D_val0 (fun _ _ => R_eqPN rfl rfl) rfl rfl ?_ | refine D_val0 (fun _ _ => R_eqI rfl rfl) rfl rfl ?_ | refine D_val0 (fun _ _ => R_eqB rfl rfl) rfl rfl ?_ | refine D_val0 (fun _ _ => R_eqIfN rfl rfl) rfl rfl ?_ | refine D_val0 (fun _ _ => R_eqIfNN rfl) rfl rfl ?_) | (refine cD_neq ?_; first | refine D_val0 (fun _ _ => R_nePN rfl rfl) rfl rfl ?_ | refine D_val0 (fun _ _ => R_neI rfl rfl) rfl rfl ?_ | refine D_val0 (fun _ _ => R_neB rfl rfl) rfl rfl ?_ | refine D_val0 (fun _ _ => R_neIfN rfl rfl) rfl rfl ?_ | refine D_val0 (fun _ _ => R_neIfNN rfl) rfl rfl ?_) | (refine cD_lss ?_; refine D_val0 (fun _ _ => R_ltI rfl rfl) rfl rfl ?_) | (refine cD_makeInterface ?_; refine D_val0 (fun _ _ => R_mkI) rfl rfl ?_) | (refine cD_not ?_; refine D_val0 (fun _ _ => R_not rfl) rfl rfl ?_) | (refine cD_add ?_; refine D_val0 (fun _ _ => R_addI rfl rfl) rfl rfl ?_)))
    refine D_nil fun w1 hw1 => ?_
    (repeat (first | (refine cL ?_; first | (refine cL_guard ?_; refine L_unwanted rfl rfl rfl ?_) | (refine cL_move ?_; refine L_val R_move rfl rfl rfl ?_) | (refine cL_load ?_; first | refine L_val (R_loadB rfl (by assumption) (by rfl)) rfl rfl rfl ?_ | refine L_val (R_loadH (by assumption) rfl (by assumption) (by rfl)) rfl rfl rfl ?_) | (refine cL_fieldAddr ?_; refine L_val (R_fa rfl) rfl rfl rfl ?_) | (refine cL_nilCheck ?_; refine L_val (R_nil rfl) rfl rfl rfl ?_) | (refine cL_assign ?_; refine L_val R_assign rfl rfl rfl ?_) | (refine cL_extract ?_; refine L_val (R_extract rfl rfl) rfl rfl rfl ?_) | (refine cL_typeAssert ?_; first | refine L_val (R_taY rfl) rfl rfl rfl ?_ | refine L_val (R_taN rfl rfl) rfl rfl rfl ?_ | refine L_val (R_taNil rfl) rfl rfl rfl ?_) | (refine cL_call ?_; refine L_val (R_len rfl) rfl rfl rfl ?_) | (refine cL_pick ?_; first | refine L_val (R_pickT rfl) rfl rfl rfl ?_ | refine L_val (R_pickF rfl) rfl rfl rfl ?_) | (refine cL_eql ?_; first | refine L_val (R_eqPN rfl rfl) rfl rfl rfl ?_ | refine L_val (R_eqI rfl rfl) rfl rfl rfl ?_ | refine L_val (R_eqB rfl rfl) rfl rfl rfl ?_ | refine L_val (R_eqIfN rfl rfl) rfl rfl rfl ?_ | refine L_val (R_eqIfNN rfl) rfl rfl rfl ?_) | (refine cL_neq ?_; first | refine L_val (R_nePN rfl rfl) rfl rfl rfl ?_ | refine L_val (R_neI rfl rfl) rfl rfl rfl ?_ | refine L_val (R_neB rfl rfl) rfl rfl rfl ?_ | refine L_val (R_neIfN rfl rfl) rfl rfl rfl ?_ | refine L_val (R_neIfNN rfl) rfl rfl rfl ?_) | (refine cL_lss ?_; refine L_val (R_ltI rfl rfl) rfl rfl rfl ?_) | (refine cL_makeInterface ?_; refine L_val R_mkI rfl rfl rfl ?_) | (refine cL_not ?_; refine L_val (R_not rfl) rfl rfl rfl ?_) | (refine cL_add ?_; refine L_val (R_addI rfl rfl) rfl rfl rfl ?_) | refine L_nil ?_) | refine G_seq ?_ | refine G_region ?_ | refine G_skip ?_ | refine G_block ?_ | refine G_end ?_ | refine G_true rfl ?_ | refine G_false rfl ?_))
    (refine G_retF rfl ?_)
    exact ⟨_, rfl, rfl, hw1⟩

theorem id_chan {n n' : Int} {v v' : Value} {r : Bool} (hx : H a = some (Ob [.int .i64 n, v] 215)) (hy : H b = some (Ob [.int .i64 n', v'] 215)) (e : (Nat.beq 103 103 && peq (some ⟨a, 0, none⟩) (some ⟨b, 0, none⟩)) = false)
    (ih : ∀ w', Agree H w' → IdSays c v v' r w') : IdSays c (.iface 103 (ptr a)) (.iface 103 (ptr b)) (n == n' && r) w := by
  have hl : LiveH H a := ⟨_, _, _, hx⟩
  have hl' : LiveH H b := ⟨_, _, _, hy⟩
  have hAg : ∀ w', Ext No w w' → Agree H w' := fun _ he => hA.ext0 he
  unfold Cmp at hc
  cases e0 : (n == n') with
  | true =>
    (refine calls_enter Tryz.func37 Tryz.ntmps37 rfl rfl ?_)
    (repeat (first | (refine cL ?_; first | (refine cL_guard ?_; refine L_unwanted rfl rfl rfl ?_) | (refine cL_move ?_; refine L_val R_move rfl rfl rfl ?_) | (refine cL_load ?_; first | refine L_val (R_loadB rfl (by assumption) (by rfl)) rfl rfl rfl ?_ | refine L_val (R_loadH (by assumption) rfl (by assumption) (by rfl)) rfl rfl rfl ?_) | (refine cL_fieldAddr ?_; refine L_val (R_fa rfl) rfl rfl rfl ?_) | (refine cL_nilCheck ?_; refine L_val (R_nil rfl) rfl rfl rfl ?_) | (refine cL_assign ?_; refine L_val R_assign rfl rfl rfl ?_) | (refine cL_extract ?_; refine L_val (R_extract rfl rfl) rfl rfl rfl ?_) | (refine cL_typeAssert ?_; first | refine L_val (R_taY rfl) rfl rfl rfl ?_ | refine L_val (R_taN rfl rfl) rfl rfl rfl ?_ | refine L_val (R_taNil rfl) rfl rfl rfl ?_) | (refine cL_call ?_; first | refine L_callI (unalias_any _ _ _ rfl) rfl rfl ?_ | refine L_val (R_len rfl) rfl rfl rfl ?_) | (refine cL_pick ?_; first | refine L_val (R_pickT rfl) rfl rfl rfl ?_ | refine L_val (R_pickF rfl) rfl rfl rfl ?_) | (refine cL_eql ?_; first | refine L_valB (R_eqIf rfl rfl (hA.live hl) (hA.live hl')) e rfl rfl rfl ?_ | refine L_val (R_eqPN rfl rfl) rfl rfl rfl ?_ | refine L_val (R_eqI rfl rfl) rfl rfl rfl ?_ | refine L_val (R_eqB rfl rfl) rfl rfl rfl ?_ | refine L_val (R_eqIfN rfl rfl) rfl rfl rfl ?_ | refine L_val (R_eqIfNN rfl) rfl rfl rfl ?_) | (refine cL_neq ?_; first | refine L_val (R_nePN rfl rfl) rfl rfl rfl ?_ | refine L_val (R_neI rfl rfl) rfl rfl rfl ?_ | refine L_val (R_neB rfl rfl) rfl rfl rfl ?_ | refine L_val (R_neIfN rfl rfl) rfl rfl rfl ?_ | refine L_val (R_neIfNN rfl) rfl rfl rfl ?_) | (refine cL_lss ?_; refine L_val (R_ltI rfl rfl) rfl rfl rfl ?_) | (refine cL_makeInterface ?_; refine L_val R_mkI rfl rfl rfl ?_) | (refine cL_not ?_; refine L_val (R_not rfl) rfl rfl rfl ?_) | (refine cL_add ?_; refine L_val (R_addI rfl rfl) rfl rfl rfl ?_) | refine L_nil ?_) | refine G_seq ?_ | refine G_region ?_ | refine G_skip ?_ | refine G_block ?_ | refine G_end ?_ | refine G_true rfl ?_ | refine G_false rfl ?_))
    (refine G_draw No (0 :: 1 :: 2 :: 3 :: 4 :: 5 :: 6 :: 7 :: 8 :: 9 :: 10 :: 11 :: 12 :: 13 :: 14 :: 15 :: 16 :: 17 :: 18 :: 19 :: 20 :: 21 :: 22 :: []) [] follows (by kernel_rfl) rfl ?_)
    (repeat (first | (refine cD_guard ?_; refine D_unwanted rfl rfl ?_) | (refine cD_move ?_; refine D_val0 (fun _ _ => R_move) rfl rfl ?_) | (refine cD_load ?_; refine D_val0 (fun w he => R_loadH (hAg w he) rfl (by assumption) (by rfl)) rfl rfl ?_) | (refine cD_fieldAddr ?_; refine D_val0 (fun _ _ => R_fa rfl) rfl rfl ?_) | (refine cD_nilCheck ?_; refine D_val0 (fun _ _ => R_nil rfl) rfl rfl ?_) | (refine cD_assign ?_; refine D_val0 (fun _ _ => R_assign) rfl rfl ?_) | (refine cD_extract ?_; refine D_val0 (fun _ _ => R_extract rfl rfl) rfl rfl ?_) | (refine cD_typeAssert ?_; first | refine D_val0 (fun _ _ => R_taY rfl) rfl rfl ?_ | refine D_val0 (fun _ _ => R_taN rfl rfl) rfl rfl ?_ | refine D_val0 (fun _ _ => R_taNil rfl) rfl rfl ?_) | (refine cD_call ?_; first | refine D_callQ (fun w he => ih w (hAg w he)) rfl ?_ | refine D_val0 (fun _ _ => R_len rfl) rfl rfl ?_) | (refine cD_pick ?_; first | refine D_val0 (fun _ _ => R_pickT rfl) rfl rfl ?_ | refine D_val0 (fun _ _ => R_pickF rfl) rfl rfl ?_) | (refine cD_eql ?_; first | refine D_valB (fun _ _ => R_eqI rfl rfl) e0 rfl rfl ?_ | refine D_val0 (fun _ _ => R_eqPN rfl rfl) rfl rfl ?_ | refine D_val0 (fun _ _ => R_eqI rfl rfl) rfl rfl ?_ | refine D_val0 (fun _ _ => R_eqB rfl rfl) rfl rfl ?_ | refine D_val0 (fun _ _ => R_eqIfN rfl rfl) rfl rfl ?_ | refine D_val0 (fun _ _ => R_eqIfNN rfl) rfl rfl ?_) | (refine cD_neq ?_; first | refine D_val0 (fun _ _ => R_nePN rfl rfl) rfl rfl ?_ | refine D_val0 (fun _ _ => R_neI rfl rfl) rfl rfl ?_ | refine D_val0 (fun _ _ => R_neB rfl rfl) rfl rfl ?_ | refine D_val0 (fun _ _ => R_neIfN rfl rfl) rfl rfl ?_ | refine D_val0 (fun _ _ => R_neIfNN rfl) rfl rfl ?_) | (refine cD_lss ?_; refine D_val0 (fun _ _ => R_ltI rfl rfl) rfl rfl ?_) | (refine cD_makeInterface ?_; refine D_val0 (fun _ _ => R_mkI) rfl rfl ?_) | (refine cD_not ?_; refine D_val0 (fun _ _ => R_not rfl) rfl rfl ?_) | (refine cD_add ?_; refine D_val0 (fun _ _ => R_addI rfl rfl) rfl rfl ?_)))
    refine D_nil fun w1 hw1 => ?_
    (repeat (first | (refine cL ?_; first | (refine cL_guard ?_; refine L_unwanted rfl rfl rfl ?_) | (refine cL_move ?_; refine L_val R_move rfl rfl rfl ?_) | (refine cL_load ?_; first | refine L_val (R_loadB rfl (by assumption) (by rfl)) rfl rfl rfl ?_ | refine L_val (R_loadH (by assumption) rfl (by assumption) (by rfl)) rfl rfl rfl ?_) | (refine cL_fieldAddr ?_; refine L_val (R_fa rfl) rfl rfl rfl ?_) | (refine cL_nilCheck ?_; refine L_val (R_nil rfl) rfl rfl rfl ?_) | (refine cL_assign ?_; refine L_val R_assign rfl rfl rfl ?_) | (refine cL_extract ?_; refine L_val (R_extract rfl rfl) rfl rfl rfl ?_) | (refine cL_typeAssert ?_; first | refine L_val (R_taY rfl) rfl rfl rfl ?_ | refine L_val (R_taN rfl rfl) rfl rfl rfl ?_ | refine L_val (R_taNil rfl) rfl rfl rfl ?_) | (refine cL_call ?_; refine L_val (R_len rfl) rfl rfl rfl ?_) | (refine cL_pick ?_; first | refine L_val (R_pickT rfl) rfl rfl rfl ?_ | refine L_val (R_pickF rfl) rfl rfl rfl ?_) | (refine cL_eql ?_; first | refine L_val (R_eqPN rfl rfl) rfl rfl rfl ?_ | refine L_val (R_eqI rfl rfl) rfl rfl rfl ?_ | refine L_val (R_eqB rfl rfl) rfl rfl rfl ?_ | refine L_val (R_eqIfN rfl rfl) rfl rfl rfl ?_ | refine L_val (R_eqIfNN rfl) rfl rfl rfl ?_) | (refine cL_neq ?_; first | refine L_val (R_nePN rfl rfl) rfl rfl rfl ?_ | refine L_val (R_neI rfl rfl) rfl rfl rfl ?_ | refine L_val (R_neB rfl rfl) rfl rfl rfl ?_ | refine L_val (R_neIfN rfl rfl) rfl rfl rfl ?_ | refine L_val (R_neIfNN rfl) rfl rfl rfl ?_) | (refine cL_lss ?_; refine L_val (R_ltI rfl rfl) rfl rfl rfl ?_) | (refine cL_makeInterface ?_; refine L_val R_mkI rfl rfl rfl ?_) | (refine cL_not ?_; refine L_val (R_not rfl) rfl rfl rfl ?_) | (refine cL_add ?_; refine L_val (R_addI rfl rfl) rfl rfl rfl ?_) | refine L_nil ?_) | refine G_seq ?_ | refine G_region ?_ | refine G_skip ?_ | refine G_block ?_ | refine G_end ?_ | refine G_true rfl ?_ | refine G_false rfl ?_))
    (refine G_retF rfl ?_)
    exact ⟨_, rfl, rfl, hw1⟩
  | false =>
    (refine calls_enter Tryz.func37 Tryz.ntmps37 rfl rfl ?_)
    (repeat (first | (refine cL ?_; first | (refine cL_guard ?_; refine L_unwanted rfl rfl rfl ?_) | (refine cL_move ?_; refine L_val R_move rfl rfl rfl ?_) | (refine cL_load ?_; first | refine L_val (R_loadB rfl (by assumption) (by rfl)) rfl rfl rfl ?_ | refine L_val (R_loadH (by assumption) rfl (by assumption) (by rfl)) rfl rfl rfl ?_) | (refine cL_fieldAddr ?_; refine L_val (R_fa rfl) rfl rfl rfl ?_) | (refine cL_nilCheck ?_; refine L_val (R_nil rfl) rfl rfl rfl ?_) | (refine cL_assign ?_; refine L_val R_assign rfl rfl rfl ?_) | (refine cL_extract ?_; refine L_val (R_extract rfl rfl) rfl rfl rfl ?_) | (refine cL_typeAssert ?_; first | refine L_val (R_taY rfl) rfl rfl rfl ?_ | refine L_val (R_taN rfl rfl) rfl rfl rfl ?_ | refine L_val (R_taNil rfl) rfl rfl rfl ?_) | (refine cL_call ?_; first | refine L_callI (unalias_any _ _ _ rfl) rfl rfl ?_ | refine L_val (R_len rfl) rfl rfl rfl ?_) | (refine cL_pick ?_; first | refine L_val (R_pickT rfl) rfl rfl rfl ?_ | refine L_val (R_pickF rfl) rfl rfl rfl ?_) | (refine cL_eql ?_; first | refine L_valB (R_eqIf rfl rfl (hA.live hl) (hA.live hl')) e rfl rfl rfl ?_ | refine L_val (R_eqPN rfl rfl) rfl rfl rfl ?_ | refine L_val (R_eqI rfl rfl) rfl rfl rfl ?_ | refine L_val (R_eqB rfl rfl) rfl rfl rfl ?_ | refine L_val (R_eqIfN rfl rfl) rfl rfl rfl ?_ | refine L_val (R_eqIfNN rfl) rfl rfl rfl ?_) | (refine cL_neq ?_; first | refine L_val (R_nePN rfl rfl) rfl rfl rfl ?_ | refine L_val (R_neI rfl rfl) rfl rfl rfl ?_ | refine L_val (R_neB rfl rfl) rfl rfl rfl ?_ | refine L_val (R_neIfN rfl rfl) rfl rfl rfl ?_ | refine L_val (R_neIfNN rfl) rfl rfl rfl ?_) | (refine cL_lss ?_; refine L_val (R_ltI rfl rfl) rfl rfl rfl ?_) | (refine cL_makeInterface ?_; refine L_val R_mkI rfl rfl rfl ?_) | (refine cL_not ?_; refine L_val (R_not rfl) rfl rfl rfl ?_) | (refine cL_add ?_; refine L_val (R_addI rfl rfl) rfl rfl rfl ?_) | refine L_nil ?_) | refine G_seq ?_ | refine G_region ?_ | refine G_skip ?_ | refine G_block ?_ | refine G_end ?_ | refine G_true rfl ?_ | refine G_false rfl ?_))
    (refine G_draw No (0 :: 1 :: 2 :: 3 :: 4 :: 5 :: 6 :: 7 :: 8 :: 9 :: 10 :: 11 :: 12 :: 13 :: 14 :: 15 :: 16 :: 17 :: 18 :: 19 :: 20 :: 21 :: 22 :: []) [] follows (by kernel_rfl) rfl ?_)
    (repeat (first | (refine cD_guard ?_; refine D_unwanted rfl rfl ?_) | (refine cD_move ?_; refine D_val0 (fun _ _ => R_move) rfl rfl ?_) | (refine cD_load ?_; refine D_val0 (fun w he => R_loadH (hAg w he) rfl (by assumption) (by rfl)) rfl rfl ?_) | (refine cD_fieldAddr ?_; refine D_val0 (fun _ _ => R_fa rfl) rfl rfl ?_) | (refine cD_nilCheck ?_; refine D_val0 (fun _ _ => R_nil rfl) rfl rfl ?_) | (refine cD_assign ?_; refine D_val0 (fun _ _ => R_assign) rfl rfl ?_) | (refine cD_extract ?_; refine D_val0 (fun _ _ => R_extract rfl rfl) rfl rfl ?_) | (refine cD_typeAssert ?_; first | refine D_val0 (fun _ _ => R_taY rfl) rfl rfl ?_ | refine D_val0 (fun _ _ => R_taN rfl rfl) rfl rfl ?_ | refine D_val0 (fun _ _ => R_taNil rfl) rfl rfl ?_) | (refine cD_call ?_; refine D_val0 (fun _ _ => R_len rfl) rfl rfl ?_) | (refine cD_pick ?_; first | refine D_val0 (fun _ _ => R_pickT rfl) rfl rfl ?_ | refine D_val0 (fun _ _ => R_pickF rfl) rfl rfl ?_) | (refine cD_eql ?_; first | refine D_valB (fun _ _ => R_eqI rfl rfl) e0 rfl rfl ?_ | refine D_val0 (fun _ _ => R_eqPN rfl rfl) rfl rfl ?_ | refine D_val0 (fun _ _ => R_eqI rfl rfl) rfl rfl ?_ | refine D_val0 (fun _ _ => R_eqB rfl rfl) rfl rfl ?_ | refine D_val0 (fun _ _ => R_eqIfN rfl rfl) rfl rfl ?_ | refine D_val0 (fun _ _ => R_eqIfNN rfl) rfl rfl ?_) | (refine cD_neq ?_; first | refine D_val0 (fun _ _ => R_nePN rfl rfl) rfl rfl ?_ | refine D_val0 (fun _ _ => R_neI rfl rfl) rfl rfl ?_ | refine D_val0 (fun _ _ => R_neB rfl rfl) rfl rfl ?_ | refine D_val0 (fun _ _ => R_neIfN rfl rfl) rfl rfl ?_ | refine D_val0 (fun _ _ => R_neIfNN rfl) rfl rfl ?_) | (refine cD_lss ?_; refine D_val0 (fun _ _ => R_ltI rfl rfl) rfl rfl ?_) | (refine cD_makeInterface ?_; refine D_val0 (fun _ _ => R_mkI) rfl rfl ?_) | (refine cD_not ?_; refine D_val0 (fun _ _ => R_not rfl) rfl rfl ?_) | (refine cD_add ?_; refine D_val0 (fun _ _ => R_addI rfl rfl) rfl rfl ?_)))
    refine D_nil fun w1 hw1 => ?_
    (repeat (first | (refine cL ?_; first | (refine cL_guard ?_; refine L_unwanted rfl rfl rfl ?_) | (refine cL_move ?_; refine L_val R_move rfl rfl rfl ?_) | (refine cL_load ?_; first | refine L_val (R_loadB rfl (by assumption) (by rfl)) rfl rfl rfl ?_ | refine L_val (R_loadH (by assumption) rfl (by assumption) (by rfl)) rfl rfl rfl ?_) | (refine cL_fieldAddr ?_; refine L_val (R_fa rfl) rfl rfl rfl ?_) | (refine cL_nilCheck ?_; refine L_val (R_nil rfl) rfl rfl rfl ?_) | (refine cL_assign ?_; refine L_val R_assign rfl rfl rfl ?_) | (refine cL_extract ?_; refine L_val (R_extract rfl rfl) rfl rfl rfl ?_) | (refine cL_typeAssert ?_; first | refine L_val (R_taY rfl) rfl rfl rfl ?_ | refine L_val (R_taN rfl rfl) rfl rfl rfl ?_ | refine L_val (R_taNil rfl) rfl rfl rfl ?_) | (refine cL_call ?_; refine L_val (R_len rfl) rfl rfl rfl ?_) | (refine cL_pick ?_; first | refine L_val (R_pickT rfl) rfl rfl rfl ?_ | refine L_val (R_pickF rfl) rfl rfl rfl ?_) | (refine cL_eql ?_; first | refine L_val (R_eqPN rfl rfl) rfl rfl rfl ?_ | refine L_val (R_eqI rfl rfl) rfl rfl rfl ?_ | refine L_val (R_eqB rfl rfl) rfl rfl rfl ?_ | refine L_val (R_eqIfN rfl rfl) rfl rfl rfl ?_ | refine L_val (R_eqIfNN rfl) rfl rfl rfl ?_) | (refine cL_neq ?_; first | refine L_val (R_nePN rfl rfl) rfl rfl rfl ?_ | refine L_val (R_neI rfl rfl) rfl rfl rfl ?_ | refine L_val (R_neB rfl rfl) rfl rfl rfl ?_ | refine L_val (R_neIfN rfl rfl) rfl rfl rfl ?_ | refine L_val (R_neIfNN rfl) rfl rfl rfl ?_) | (refine cL_lss ?_; refine L_val (R_ltI rfl rfl) rfl rfl rfl ?_) | (refine cL_makeInterface ?_; refine L_val R_mkI rfl rfl rfl ?_) | (refine cL_not ?_; refine L_val (R_not rfl) rfl rfl rfl ?_) | (refine cL_add ?_; refine L_val (R_addI rfl rfl) rfl rfl rfl ?_) | refine L_nil ?_) | refine G_seq ?_ | refine G_region ?_ | refine G_skip ?_ | refine G_block ?_ | refine G_end ?_ | refine G_true rfl ?_ | refine G_false rfl ?_))
    (refine G_retF rfl ?_)
    exact ⟨_, rfl, rfl, hw1⟩
end
end Go.Proofs.YtjilnjifegeceaaGreatDoor

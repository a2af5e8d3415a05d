/-
  A part of the proof that laws.FnFinds returns true at every input: the walk's own rules and the contracts of functions, in build order.
  Its conditions are those of the statement: see the last text.
-/
import Derived.Test.YtjilnjifegeceaaGreatDoorFnFindsPartM

/-
  Types in the place of bound type parameters; where a type parameter occurs. Plain Lean.
-/
namespace Go.Proofs.YtjilnjifegeceaaGreatDoor

mutual
def applyT (l : List Ty) : Ty → Ty
  | .mk k n c b nm es => if k = 2 then ((l[n.toNat]?).getD (.mk k n c b nm es)).setNm nm else .mk k n c b nm (applyL l es)
def applyL (l : List Ty) : List Ty → List Ty
  | [] => []
  | e :: es => applyT l e :: applyL l es
end

mutual
def occT (p : Int) : Ty → Bool
  | .mk k n _ _ _ es => if k = 2 then n == p else occL p es
def occL (p : Int) : List Ty → Bool
  | [] => false
  | e :: es => occT p e || occL p es
end

theorem applyL_len (l : List Ty) : ∀ es : List Ty, (applyL l es).length = es.length
  | [] => rfl
  | e :: es => by simp [applyL, applyL_len l es]
theorem applyL_get (l : List Ty) : ∀ (es : List Ty) (i : Nat), (applyL l es)[i]? = es[i]?.map (applyT l)
  | [], i => by simp [applyL]
  | e :: es, 0 => rfl
  | e :: es, i + 1 => by simpa [applyL] using applyL_get l es i
theorem applyT_nm (l : List Ty) (t : Ty) : (applyT l t).nm = t.nm := by
  cases t
  unfold applyT
  split
  · rw [setNm_nm]; rfl
  · rfl
theorem applyL_nm (l : List Ty) : ∀ es : List Ty, (applyL l es).map Ty.nm = es.map Ty.nm
  | [] => rfl
  | e :: es => by simp only [applyL, List.map_cons, applyT_nm, applyL_nm l es]
theorem setNm_size (t : Ty) (s : ByteArray) : Ty.size (t.setNm s) = Ty.size t := by cases t; rfl
theorem ident_setNm (t u : Ty) (s : ByteArray) : ident (t.setNm s) u = ident t u := by cases t; cases u; simp [Ty.setNm, ident]
theorem ident_setNm' (t u : Ty) (s : ByteArray) : ident t (u.setNm s) = ident t u := by cases t; cases u; simp [Ty.setNm, ident]
theorem rep_unNm {E : Env} {H : Hp} {t : Ty} {s : ByteArray} {v : Value} (h : Rep E H (t.setNm s) v) : Rep E H t v := by
  cases t
  simp only [Rep, Ty.setNm] at h ⊢
  exact h

theorem occL_iff {p : Int} : ∀ {es : List Ty}, occL p es = true ↔ ∃ (i : Nat) (e : Ty), es[i]? = some e ∧ occT p e = true
  | [] => by simp [occL]
  | e :: es => by
    rw [occL, Bool.or_eq_true, occL_iff]
    constructor
    · rintro (h | ⟨i, x, h1, h2⟩)
      · exact ⟨0, e, rfl, h⟩
      · exact ⟨i + 1, x, by simpa using h1, h2⟩
    · rintro ⟨i, x, h1, h2⟩
      cases i with
      | zero =>
        simp only [List.getElem?_cons_zero, Option.some.injEq] at h1
        subst h1
        exact .inl h2
      | succ i => exact .inr ⟨i, x, by simpa using h1, h2⟩

/-- identical types have the same type parameters -/
theorem occ_ident {p : Int} : ∀ (t u : Ty), ident t u = true → occT p t = true → occT p u = true := by
  refine Ty.ind fun k n c b nm es ih => ?_
  intro u hid ho
  cases u with
  | mk k2 n2 c2 b2 nm2 es2 =>
  rw [ident_iff] at hid
  obtain ⟨rfl, hl, -, -, hn, he⟩ := hid
  rw [identL_iff hl] at he
  simp only [occT] at ho ⊢
  by_cases hk : k = 2
  · rw [if_pos hk] at ho ⊢
    rw [← hn (by omega) (by omega) (by omega)]
    exact ho
  · rw [if_neg hk] at ho ⊢
    obtain ⟨i, e, h1, h2⟩ := occL_iff.1 ho
    obtain ⟨e', h3⟩ : ∃ e', es2[i]? = some e' := ⟨_, List.getElem?_eq_getElem (by have := (List.getElem?_eq_some_iff.1 h1).1; omega)⟩
    exact occL_iff.2 ⟨i, e', h3, ih e (List.mem_of_getElem? h1) e' (he i e e' h1 h3) h2⟩

/-- a type without type parameters -/
theorem occ_closed {ds : List (Int × Ty)} {own p : Int} : ∀ t : Ty, shapedB ds 0 own t = true → occT p t = false := by
  refine Ty.ind fun k n c b nm es ih h => ?_
  simp only [occT]
  by_cases hk : k = 2
  · subst hk
    obtain ⟨h1, h2, -⟩ := headB_param (shaped_head h) (Int.le_refl 0)
    omega
  · rw [if_neg hk]
    cases ho : occL p es with
    | false => rfl
    | true =>
      obtain ⟨i, e, h1, h2⟩ := occL_iff.1 ho
      have := ih e (List.mem_of_getElem? h1) (shaped_part h (List.mem_of_getElem? h1))
      rw [this] at h2
      cases h2
theorem closed_k {ds : List (Int × Ty)} {own : Int} {t : Ty} (h : shapedB ds 0 own t = true) : t.k ≠ 2 := by
  intro hk
  cases t with
  | mk k n c b nm es =>
  have hk' : k = 2 := hk
  subst hk'
  obtain ⟨h1, h2, -⟩ := headB_param (shaped_head h) (Int.le_refl 0)
  omega
/-- nothing is put in the place of what does not occur -/
theorem apply_closed {ds : List (Int × Ty)} {own : Int} {l : List Ty} : ∀ t : Ty, shapedB ds 0 own t = true → applyT l t = t := by
  refine Ty.ind fun k n c b nm es ih h => ?_
  have hk : k ≠ 2 := closed_k h
  unfold applyT
  rw [if_neg hk]
  congr 1
  have : ∀ (es' : List Ty), (∀ e ∈ es', applyT l e = e) → applyL l es' = es' := by
    intro es'
    induction es' with
    | nil => intro _; rfl
    | cons x es' ihl => intro hh; rw [applyL, hh x List.mem_cons_self, ihl fun e he => hh e (List.mem_cons_of_mem _ he)]
  exact this es fun e he => ih e he (shaped_part h he)
/-- a type without type parameters is in order whatever the number of them -/
theorem shaped_more {ds : List (Int × Ty)} {params : Int} (_ : 0 ≤ params) : ∀ t : Ty, shapedB ds 0 0 t = true → shapedB ds params 0 t = true := by
  refine Ty.ind fun k n c b nm es ih h => ?_
  have hk : k ≠ 2 := closed_k h
  have hl : ∀ p, limitL ds.length k p 0 = limitL ds.length k 0 0 := fun p => by simp [limitL, hk]
  have hh := h
  simp only [shapedB, Bool.and_eq_true] at h ⊢
  refine ⟨?_, ?_, h.2.2⟩
  · have h1 := h.1
    simp only [headB] at h1 ⊢
    rw [hl params]
    exact h1
  · have key : ∀ es' : List Ty, (∀ e ∈ es', shapedB ds params 0 e = true) → shapedLB ds params 0 es' = true := by
      intro es'
      induction es' with
      | nil => intro _; rfl
      | cons x es' ihl => intro hx; simp only [shapedLB, Bool.and_eq_true]; exact ⟨hx x List.mem_cons_self, ihl fun e he => hx e (List.mem_cons_of_mem _ he)⟩
    exact key es fun e he => ih e he (shaped_part hh he)

/-- where types without type parameters stand in the place of all type parameters, none occurs -/
theorem app_occ {ds : List (Int × Ty)} {l : List Ty} {m : Nat} (p : Int) (hcl : ∀ a ∈ l, shapedB ds 0 0 a = true) : ∀ t : Ty, l.length = m → shapedB ds (m : Int) 0 t = true → occT p (applyT l t) = false := by
  refine Ty.ind fun k n c b nm es ih => ?_
  intro hl h
  unfold applyT
  by_cases hk : k = 2
  · subst hk
    obtain ⟨h0, h1, -⟩ := headB_param (shaped_head h) (by omega)
    have h1' : n < (m : Int) := h1
    have h0' : 0 ≤ n := h0
    obtain ⟨w, hw⟩ : ∃ w, l[n.toNat]? = some w := ⟨_, List.getElem?_eq_getElem (by omega)⟩
    rw [if_pos rfl, hw]
    have := occ_closed (p := p) w (hcl w (List.mem_of_getElem? hw))
    cases w
    simpa [Ty.setNm, occT] using this
  · rw [if_neg hk]
    simp only [occT, if_neg hk]
    cases ho : occL p (applyL l es) with
    | false => rfl
    | true =>
      obtain ⟨i, e, h1, h2⟩ := occL_iff.1 ho
      rw [applyL_get] at h1
      obtain ⟨e0, h3, rfl⟩ := Option.map_eq_some_iff.1 h1
      rw [ih e0 (List.mem_of_getElem? h3) hl (shaped_part h (List.mem_of_getElem? h3))] at h2
      cases h2
end Go.Proofs.YtjilnjifegeceaaGreatDoor

/-
  A type and what becomes of it if types without type parameters are put in the place of its type parameters: they unify, and these types are inferred.
-/
namespace Go.Proofs.YtjilnjifegeceaaGreatDoor
set_option maxRecDepth 100000
set_option maxHeartbeats 4000000

/-- a type argument is known -/
def kn (s : HS) (p : Nat) : Prop := ∃ h, s.hs[p]? = some h ∧ s.val h ≠ .nilIface

/-- each type parameter has a handle of its own; what lies there is its type argument -/
structure MI (E : Env) (H : Hp) (args : List Ty) (s : HS) : Prop where
  len : s.hs.length = E.params.length
  nd : s.hs.Nodup
  val : ∀ (p h : Nat) (u : Ty), s.hs[p]? = some h → args[p]? = some u → s.val h = .nilIface ∨ Rep E H u (s.val h)

theorem MI.put {E : Env} {H : Hp} {args : List Ty} {s : HS} (hs : MI E H args s) {p h : Nat} {u : Ty} {v : Value} (hh : s.hs[p]? = some h) (hu : args[p]? = some u) (hv : Rep E H u v) : MI E H args (s.put h v) ∧ ∀ q, kn (s.put h v) q ↔ kn s q ∨ q = p := by
  obtain ⟨Tv, av, hvi⟩ := hv.iface
  refine ⟨⟨hs.len, hs.nd, fun q g t hg ht => ?_⟩, fun q => ?_⟩
  · have hg' : s.hs[q]? = some g := hg
    by_cases e : g = h
    · subst e
      have := nodup_inj hs.nd hg' hh
      subst this
      rw [hu] at ht
      injection ht with ht
      subst ht
      exact .inr (by simpa [HS.put] using hv)
    · simpa [HS.put, e] using hs.val q g t hg' ht
  · constructor
    · rintro ⟨g, hg, hn⟩
      have hg' : s.hs[q]? = some g := hg
      by_cases e : g = h
      · subst e
        exact .inr (nodup_inj hs.nd hg' hh)
      · exact .inl ⟨g, hg', by simpa [HS.put, e] using hn⟩
    · rintro (⟨g, hg, hn⟩ | rfl)
      · refine ⟨g, hg, ?_⟩
        by_cases e : g = h
        · simp [HS.put, e, hvi]
        · simpa [HS.put, e] using hn
      · exact ⟨h, hh, by simp [HS.put, hvi]⟩

/-- what 'nify' answers of a type and its instance -/
def MatchQ (E : Env) (H : Hp) (args : List Ty) (s : HS) (o : Nat → Prop) (r : Bool) (s' : HS) : Prop := r = true ∧ MI E H args s' ∧ ∀ q, kn s' q ↔ kn s q ∨ o q

theorem nify_match {E : Env} {H : Hp} {ds : List (Int × Ty)} {args : List Ty} {u hm : Nat} {M : Nat → Prop} {hu : M u} {hH : ∀ b o, H b = some o → ¬ M b} (hE : EnvOK E H) (hP : Props H) (hn : args.length = E.params.length) (hcl : ∀ a ∈ args, shapedB ds 0 0 a = true) :
    ∀ (t : Ty) (s : HS) (d : Nat) (vx vy : Value), shapedB ds (E.params.length : Int) 0 t = true → MI E H args s → Rep E H t vx → Rep E H (applyT args t) vy → d + 2 * Ty.size (applyT args t) + 1 ≤ 50 →
      Nf (mkUC H E.params u hm M hu hH) 2 vx vy d s (MatchQ E H args s fun q => occT (q : Int) t = true) ∧ Nf (mkUC H E.params u hm M hu hH) 2 vy vx d s (MatchQ E H args s fun q => occT (q : Int) t = true) := by
  have m2 : Md 2 2 := by simp [Md]
  refine Ty.ind fun k n c b nm es ih => ?_
  intro s d vx vy hsh hs hx hy hd
  by_cases hk : k = 2
  · subst hk
    obtain ⟨h0, h1, rfl⟩ := headB_param (shaped_head hsh) (by omega)
    obtain ⟨p, rfl⟩ := Int.eq_ofNat_of_zero_le h0
    have h1' : (p : Int) < (E.params.length : Int) := h1
    obtain ⟨w, hw⟩ : ∃ w, args[p]? = some w := ⟨_, List.getElem?_eq_getElem (by omega)⟩
    obtain ⟨h, hh⟩ : ∃ h, s.hs[p]? = some h := ⟨_, List.getElem?_eq_getElem (by have := hs.len; omega)⟩
    have hap : applyT args (.mk 2 (p : Int) c b nm []) = w.setNm nm := by
      unfold applyT
      simp [hw]
    rw [hap] at hy hd
    rw [setNm_size] at hd
    have hy := rep_unNm hy
    have hwc := hcl w (List.mem_of_getElem? hw)
    have hwk := closed_k hwc
    simp only [Rep, RepL] at hx
    obtain ⟨vs, hvs, hS⟩ := hx
    subst hvs
    cases hS with
    | param hp hp0 =>
      have hp' := hp
      simp only [Int.toNat_natCast] at hp'
      cases w with
      | mk k2 n2 c2 b2 nm2 es2 =>
      have hy0 := hy
      simp only [Rep] at hy0
      obtain ⟨vs2, -, hS2⟩ := hy0
      have hq : ∀ {s' : HS}, MI E H args s' → (∀ q, kn s' q ↔ kn s q ∨ q = p) → MatchQ E H args s (fun q => occT (q : Int) (.mk 2 (p : Int) c b nm []) = true) true s' := fun h1 h2 => ⟨rfl, h1, fun q => by
        rw [h2 q]
        have : (occT (q : Int) (.mk 2 (p : Int) c b nm []) = true) ↔ q = p := by simp [occT]; omega
        show _ ↔ (_ ∨ occT (q : Int) (.mk 2 (p : Int) c b nm []) = true)
        rw [this]⟩
      rcases hs.val p h _ hh hw with hnil | hval
      · obtain ⟨g1, g2⟩ := hs.put hh hw hy
        exact nf_setS m2 (by omega) (fun a ha => hE.pl a ha) hE.pn hp' hh hnil hS2 hE hwk (hq g1 g2)
      · obtain ⟨Tv, av, hvi⟩ := hval.iface
        have hval0 := hval
        simp only [Rep] at hval0
        obtain ⟨vs3, -, hS3⟩ := hval0
        have hni := noIfc hS3 hwk
        have hni2 := noIfc hS2 hwk
        have hkn : kn s p := ⟨h, hh, by rw [hvi]; simp⟩
        have hres := hq hs (fun q => ⟨fun h => .inl h, fun h => h.elim id fun e => e ▸ hkn⟩)
        have ih0 := (nify_same _ (mkUC H E.params u hm M hu hH) s (d + 1) 2 2 _ _ hE hP m2 hval hy (by omega)).mono (Q' := MatchQ E H args s fun q => occT (q : Int) (.mk 2 (p : Int) c b nm []) = true) (by rintro r s' ⟨rfl, rfl⟩; exact hres)
        rw [hvi] at ih0 hni
        obtain ⟨_, _, hvv, hl⟩ := hS2.live hE
        cases hS2 with
        | param => exact absurd rfl hwk
        | named =>
          injection hvv with _ hvv
          have := ptr_inj hvv
          subst this
          exact ⟨nf_knownN (by omega) (fun a ha => hE.pl a ha) hE.pn hp' hh hvi hl hni hni2 ih0, nf_knownNB (by omega) (fun a ha => hE.pl a ha) hE.pn hp' hh hvi hl hni hni2 ih0⟩
        | inst =>
          injection hvv with _ hvv
          have := ptr_inj hvv
          subst this
          exact ⟨nf_knownN (by omega) (fun a ha => hE.pl a ha) hE.pn hp' hh hvi hl hni hni2 ih0, nf_knownNB (by omega) (fun a ha => hE.pl a ha) hE.pn hp' hh hvi hl hni hni2 ih0⟩
        | _ =>
          injection hvv with _ hvv
          have := ptr_inj hvv
          subst this
          exact ⟨nf_known rfl rfl rfl (by omega) (fun a ha => hE.pl a ha) hE.pn hp' hh hvi hl hni hni2 ih0, nf_knownB rfl rfl rfl (by omega) (fun a ha => hE.pl a ha) hE.pn hp' hh hvi hl hni hni2 ih0⟩
  · have hap : applyT args (.mk k n c b nm es) = .mk k n c b nm (applyL args es) := by
      unfold applyT
      rw [if_neg hk]
    have hocc : ∀ q : Nat, occT (q : Int) (.mk k n c b nm es) = occL (q : Int) es := fun q => by simp [occT, hk]
    have hx0 := hx
    have hy0 := hy
    rw [hap] at hy0 hd
    simp only [Rep] at hx0 hy0
    obtain ⟨vs, hL, hS⟩ := hx0
    obtain ⟨vs', hL', hS'⟩ := hy0
    have hl := hL.length
    have hl' := hL'.length
    have hal := applyL_len args es
    have hlen : vs.length = vs'.length := by omega
    have hsz := hd
    simp only [Ty.size] at hsz
    have hle := Ty.len_sizeL (applyL args es)
    have hnm : ∀ (i : Nat) (x y : ByteArray), (es.map Ty.nm)[i]? = some x → ((applyL args es).map Ty.nm)[i]? = some y → beqB x y = true := by
      intro i x y h1 h2
      rw [applyL_nm, h1] at h2
      injection h2 with h2
      subst h2
      exact beqB_self x
    have hnm' : ∀ (i : Nat) (x y : ByteArray), ((applyL args es).map Ty.nm)[i]? = some x → (es.map Ty.nm)[i]? = some y → beqB x y = true := by
      intro i x y h1 h2
      rw [applyL_nm, h2] at h1
      injection h1 with h1
      subst h1
      exact beqB_self y
    have hpre0 : MI E H args s ∧ ∀ q, kn s q ↔ kn s q ∨ ∃ (j : Nat) (e : Ty), j < 0 ∧ es[j]? = some e ∧ occT (q : Int) e = true := ⟨hs, fun q => ⟨fun h => .inl h, fun h => h.elim id fun ⟨j, e, h1, _⟩ => absurd h1 (Nat.not_lt_zero j)⟩⟩
    have hend : ∀ s' : HS, (MI E H args s' ∧ ∀ q, kn s' q ↔ kn s q ∨ ∃ (j : Nat) (e : Ty), j < vs.length ∧ es[j]? = some e ∧ occT (q : Int) e = true) → MatchQ E H args s (fun q => occT (q : Int) (.mk k n c b nm es) = true) true s' := fun s' ⟨h1, h2⟩ => ⟨rfl, h1, fun q => by
      rw [h2 q]
      show _ ↔ (_ ∨ occT (q : Int) (.mk k n c b nm es) = true)
      rw [hocc, occL_iff]
      constructor
      · rintro (h | ⟨j, e, h3, h4, h5⟩)
        · exact .inl h
        · exact .inr ⟨j, e, h4, h5⟩
      · rintro (h | ⟨j, e, h4, h5⟩)
        · exact .inl h
        · exact .inr ⟨j, e, by have := (List.getElem?_eq_some_iff.1 h4).1; omega, h4, h5⟩⟩
    have hsame : vx = vy → MatchQ E H args s (fun q => occT (q : Int) (.mk k n c b nm es) = true) true s := fun e => ⟨rfl, hs, fun q => by
      subst e
      have hid := ident_same hE _ _ _ hx hy
      have hno : occT (q : Int) (.mk k n c b nm es) = false := by
        cases ho : occT (q : Int) (.mk k n c b nm es) with
        | false => rfl
        | true =>
          have h1 := occ_ident _ _ hid ho
          have h2 := app_occ (l := args) (q : Int) (fun a ha => hcl a ha) _ hn hsh
          rw [h2] at h1
          cases h1
      show _ ↔ (_ ∨ occT (q : Int) (.mk k n c b nm es) = true)
      rw [hno]
      simp⟩
    have hk1 : ∀ (i : Nat) (x : Value) (s' : HS), vs[i]? = some x → vs'[i]? = some x → (MI E H args s' ∧ ∀ q, kn s' q ↔ kn s q ∨ ∃ (j : Nat) (e : Ty), j < i ∧ es[j]? = some e ∧ occT (q : Int) e = true) → (MI E H args s' ∧ ∀ q, kn s' q ↔ kn s q ∨ ∃ (j : Nat) (e : Ty), j < i + 1 ∧ es[j]? = some e ∧ occT (q : Int) e = true) := by
      rintro i x s' h1 h2 ⟨h3, h4⟩
      refine ⟨h3, fun q => ?_⟩
      rw [h4 q]
      obtain ⟨e, he, hre⟩ := hL.get h1
      obtain ⟨e', he', hre'⟩ := hL'.get h2
      rw [applyL_get, he] at he'
      simp only [Option.map_some, Option.some.injEq] at he'
      subst he'
      have hid := ident_same hE _ _ _ hre hre'
      have hno : occT (q : Int) e = false := by
        cases ho : occT (q : Int) e with
        | false => rfl
        | true =>
          have h5 := occ_ident _ _ hid ho
          rw [app_occ (l := args) (q : Int) (fun a ha => hcl a ha) _ hn (shaped_part hsh (List.mem_of_getElem? he))] at h5
          cases h5
      constructor
      · rintro (h | ⟨j, e2, h5, h6, h7⟩)
        · exact .inl h
        · exact .inr ⟨j, e2, by omega, h6, h7⟩
      · rintro (h | ⟨j, e2, h5, h6, h7⟩)
        · exact .inl h
        · refine .inr ⟨j, e2, ?_, h6, h7⟩
          rcases Nat.lt_succ_iff_lt_or_eq.1 h5 with h8 | h8
          · exact h8
          · subst h8
            rw [he] at h6
            injection h6 with h6
            subst h6
            rw [hno] at h7
            cases h7
    have hstep : ∀ (i : Nat) (x x' : Value) (s' : HS) (dd : Nat) (mm : Int), vs[i]? = some x → vs'[i]? = some x' → (MI E H args s' ∧ ∀ q, kn s' q ↔ kn s q ∨ ∃ (j : Nat) (e : Ty), j < i ∧ es[j]? = some e ∧ occT (q : Int) e = true) → (dd = d + 1 ∨ dd = d + 2) → (mm = 2 ∨ mm = 2) →
        Nf (mkUC H E.params u hm M hu hH) mm x x' dd s' (fun r s1 => bif r then (MI E H args s1 ∧ ∀ q, kn s1 q ↔ kn s q ∨ ∃ (j : Nat) (e : Ty), j < i + 1 ∧ es[j]? = some e ∧ occT (q : Int) e = true) else MatchQ E H args s (fun q => occT (q : Int) (.mk k n c b nm es) = true) false s1) ∧
        Nf (mkUC H E.params u hm M hu hH) mm x' x dd s' (fun r s1 => bif r then (MI E H args s1 ∧ ∀ q, kn s1 q ↔ kn s q ∨ ∃ (j : Nat) (e : Ty), j < i + 1 ∧ es[j]? = some e ∧ occT (q : Int) e = true) else MatchQ E H args s (fun q => occT (q : Int) (.mk k n c b nm es) = true) false s1) := by
      rintro i x x' s' dd mm h1 h2 ⟨h3, h4⟩ hdd hmm
      have hmm' : mm = 2 := hmm.elim id id
      subst hmm'
      obtain ⟨e, he, hre⟩ := hL.get h1
      obtain ⟨e', he', hre'⟩ := hL'.get h2
      have he2 := he'
      rw [applyL_get, he] at he'
      simp only [Option.map_some, Option.some.injEq] at he'
      subst he'
      have hsz2 := Ty.size_mem (List.mem_of_getElem? he2)
      obtain ⟨i1, i2⟩ := ih e (List.mem_of_getElem? he) s' dd x x' (shaped_part hsh (List.mem_of_getElem? he)) h3 hre hre' (by omega)
      have key : ∀ (r : Bool) (s1 : HS), MatchQ E H args s' (fun q => occT (q : Int) e = true) r s1 → bif r then (MI E H args s1 ∧ ∀ q, kn s1 q ↔ kn s q ∨ ∃ (j : Nat) (e : Ty), j < i + 1 ∧ es[j]? = some e ∧ occT (q : Int) e = true) else MatchQ E H args s (fun q => occT (q : Int) (.mk k n c b nm es) = true) false s1 := by
        rintro r s1 ⟨rfl, g1, g2⟩
        refine ⟨g1, fun q => ?_⟩
        rw [g2 q, h4 q]
        constructor
        · rintro ((h | ⟨j, e2, h5, h6, h7⟩) | h)
          · exact .inl h
          · exact .inr ⟨j, e2, by omega, h6, h7⟩
          · exact .inr ⟨i, e, by omega, he, h⟩
        · rintro (h | ⟨j, e2, h5, h6, h7⟩)
          · exact .inl (.inl h)
          · rcases Nat.lt_succ_iff_lt_or_eq.1 h5 with h8 | h8
            · exact .inl (.inr ⟨j, e2, h8, h6, h7⟩)
            · subst h8
              rw [he] at h6
              injection h6 with h6
              subst h6
              exact .inr h7
      exact ⟨i1.mono key, i2.mono key⟩
    constructor
    · exact nf_alike m2 hE hP hS hS' ⟨hlen, fun _ => rfl, fun _ => ⟨rfl, rfl⟩, fun _ => hnm⟩ (by omega) (by omega) hsame (pre := fun i s' => MI E H args s' ∧ ∀ q, kn s' q ↔ kn s q ∨ ∃ (j : Nat) (e : Ty), j < i ∧ es[j]? = some e ∧ occT (q : Int) e = true) hpre0 hend hk1 hstep
    · exact nf_alike m2 hE hP hS' hS ⟨hlen.symm, fun _ => rfl, fun _ => ⟨rfl, rfl⟩, fun _ => hnm'⟩ (by omega) (by omega) (fun e => hsame e.symm) (pre := fun i s' => MI E H args s' ∧ ∀ q, kn s' q ↔ kn s q ∨ ∃ (j : Nat) (e : Ty), j < i ∧ es[j]? = some e ∧ occT (q : Int) e = true) hpre0 (fun s' h => hend s' (by rw [hlen]; exact h)) (fun i x s' h1 h2 h3 => hk1 i x s' h2 h1 h3) (fun i x x' s' dd mm h1 h2 h3 h4 h5 => (hstep i x' x s' dd mm h2 h1 h3 h4 h5).symm)
end Go.Proofs.YtjilnjifegeceaaGreatDoor

/-
  The verifier's 'alike' and 'Identical' on the input's types.
-/
namespace Go.Proofs.YtjilnjifegeceaaGreatDoor
set_option maxRecDepth 100000
set_option maxHeartbeats 4000000
attribute [local irreducible] Calls execOp

theorem r132 {G G' : Prop} (k : G') (h : Hid G' → G := by intro k_; (repeat (first | (refine cL ?_; first | (refine cL_guard ?_; refine L_unwanted rfl rfl rfl ?_) | (refine cL_move ?_; refine L_val R_move rfl rfl rfl ?_) | (refine cL_load ?_; first | refine L_val (R_loadB rfl (by assumption) (by rfl)) rfl rfl rfl ?_ | refine L_val (R_loadH (by assumption) rfl (by assumption) (by rfl)) rfl rfl rfl ?_) | (refine cL_fieldAddr ?_; refine L_val (R_fa rfl) rfl rfl rfl ?_) | (refine cL_assign ?_; refine L_val R_assign rfl rfl rfl ?_) | (refine cL_call ?_; refine L_val (R_len rfl) rfl rfl rfl ?_) | (refine cL_pick ?_; first | refine L_val (R_pickT rfl) rfl rfl rfl ?_ | refine L_val (R_pickF rfl) rfl rfl rfl ?_) | (refine cL_eql ?_; first | refine L_val (R_eqPN rfl rfl) rfl rfl rfl ?_ | refine L_val (R_eqI rfl rfl) rfl rfl rfl ?_ | refine L_val (R_eqB rfl rfl) rfl rfl rfl ?_ | refine L_val (R_eqIfN rfl rfl) rfl rfl rfl ?_ | refine L_val (R_eqIfNN rfl) rfl rfl rfl ?_) | (refine cL_neq ?_; first | refine L_val (R_nePN rfl rfl) rfl rfl rfl ?_ | refine L_val (R_neI rfl rfl) rfl rfl rfl ?_ | refine L_val (R_neB rfl rfl) rfl rfl rfl ?_ | refine L_val (R_neIfN rfl rfl) rfl rfl rfl ?_ | refine L_val (R_neIfNN rfl) rfl rfl rfl ?_) | (refine cL_lss ?_; refine L_val (R_ltI rfl rfl) rfl rfl rfl ?_) | (refine cL_add ?_; refine L_val (R_addI rfl rfl) rfl rfl rfl ?_) | refine L_nil ?_) | refine G_seq ?_ | refine G_region ?_ | refine G_skip ?_ | refine G_block ?_ | refine G_end ?_ | refine G_true rfl ?_ | refine G_false rfl ?_)); exact k_.out) : G := h ⟨k⟩
theorem r133 {G G' : Prop} (k : G') (h : Hid G' → G := by intro k_; (first | (refine cL ?_; first | (refine cL_guard ?_; refine L_unwanted rfl rfl rfl ?_) | (refine cL_move ?_; refine L_val R_move rfl rfl rfl ?_) | (refine cL_load ?_; first | refine L_val (R_loadB rfl (by assumption) (by rfl)) rfl rfl rfl ?_ | refine L_val (R_loadH (by assumption) rfl (by assumption) (by rfl)) rfl rfl rfl ?_) | (refine cL_fieldAddr ?_; refine L_val (R_fa rfl) rfl rfl rfl ?_) | (refine cL_assign ?_; refine L_val R_assign rfl rfl rfl ?_) | (refine cL_call ?_; refine L_val (R_len rfl) rfl rfl rfl ?_) | (refine cL_pick ?_; first | refine L_val (R_pickT rfl) rfl rfl rfl ?_ | refine L_val (R_pickF rfl) rfl rfl rfl ?_) | (refine cL_eql ?_; first | refine L_val (R_eqPN rfl rfl) rfl rfl rfl ?_ | refine L_val (R_eqI rfl rfl) rfl rfl rfl ?_ | refine L_val (R_eqB rfl rfl) rfl rfl rfl ?_ | refine L_val (R_eqIfN rfl rfl) rfl rfl rfl ?_ | refine L_val (R_eqIfNN rfl) rfl rfl rfl ?_) | (refine cL_neq ?_; first | refine L_val (R_nePN rfl rfl) rfl rfl rfl ?_ | refine L_val (R_neI rfl rfl) rfl rfl rfl ?_ | refine L_val (R_neB rfl rfl) rfl rfl rfl ?_ | refine L_val (R_neIfN rfl rfl) rfl rfl rfl ?_ | refine L_val (R_neIfNN rfl) rfl rfl rfl ?_) | (refine cL_lss ?_; refine L_val (R_ltI rfl rfl) rfl rfl rfl ?_) | (refine cL_add ?_; refine L_val (R_addI rfl rfl) rfl rfl rfl ?_) | refine L_nil ?_) | refine G_seq ?_ | refine G_region ?_ | refine G_skip ?_ | refine G_block ?_ | refine G_end ?_ | refine G_true rfl ?_ | refine G_false rfl ?_); exact k_.out) : G := h ⟨k⟩
theorem r134 {G G' A : Prop} (ag : A) (k : G') (h : Hid G' → A → G := by intro k_ ag_; (first | (refine cD_guard ?_; refine D_unwanted rfl rfl ?_) | (refine cD_move ?_; refine D_val0 (fun _ _ => R_move) rfl rfl ?_) | (refine cD_load ?_; refine D_val0 (fun w he => R_loadH (ag_ w he) rfl (by assumption) (by rfl)) rfl rfl ?_) | (refine cD_fieldAddr ?_; refine D_val0 (fun _ _ => R_fa rfl) rfl rfl ?_) | (refine cD_assign ?_; refine D_val0 (fun _ _ => R_assign) rfl rfl ?_) | (refine cD_call ?_; refine D_val0 (fun _ _ => R_len rfl) rfl rfl ?_) | (refine cD_pick ?_; first | refine D_val0 (fun _ _ => R_pickT rfl) rfl rfl ?_ | refine D_val0 (fun _ _ => R_pickF rfl) rfl rfl ?_) | (refine cD_eql ?_; first | refine D_val0 (fun _ _ => R_eqPN rfl rfl) rfl rfl ?_ | refine D_val0 (fun _ _ => R_eqI rfl rfl) rfl rfl ?_ | refine D_val0 (fun _ _ => R_eqB rfl rfl) rfl rfl ?_ | refine D_val0 (fun _ _ => R_eqIfN rfl rfl) rfl rfl ?_ | refine D_val0 (fun _ _ => R_eqIfNN rfl) rfl rfl ?_) | (refine cD_neq ?_; first | refine D_val0 (fun _ _ => R_nePN rfl rfl) rfl rfl ?_ | refine D_val0 (fun _ _ => R_neI rfl rfl) rfl rfl ?_ | refine D_val0 (fun _ _ => R_neB rfl rfl) rfl rfl ?_ | refine D_val0 (fun _ _ => R_neIfN rfl rfl) rfl rfl ?_ | refine D_val0 (fun _ _ => R_neIfNN rfl) rfl rfl ?_) | (refine cD_lss ?_; refine D_val0 (fun _ _ => R_ltI rfl rfl) rfl rfl ?_) | (refine cD_add ?_; refine D_val0 (fun _ _ => R_addI rfl rfl) rfl rfl ?_)); exact k_.out) : G := h ⟨k⟩ ag

def alikeT (x y : Ty) : Bool := alikeP x.k x.n x.c x.b x.es y.k y.n y.c y.b y.es

theorem namesEq_eq : ∀ {es es' : List Ty}, es.length = es'.length → namesEq es es' = (List.range es.length).all fun i => beqB ((es[i]?.map Ty.nm).getD ⟨#[]⟩) ((es'[i]?.map Ty.nm).getD ⟨#[]⟩)
  | [], [], _ => rfl
  | e :: es, e' :: es', h => by
    rw [List.length_cons, List.range_succ_eq_map, List.all_cons, List.all_map, namesEq, namesEq_eq (by simpa using h)]
    rfl
  | [], _ :: _, h => by simp at h
  | _ :: _, [], h => by simp at h

section
variable {H : Hp} {x y : Ty} {cs cs' : List Value} (w : World) (hA : Agree H w) (hx : DTy H x cs) (hy : DTy H y cs')
include hA hx hy

theorem alike_any : Calls Tryz.prog 19 #[.agg cs.toArray, .agg cs'.toArray] w (Ret (Qt (.bool (alikeT x y)) w)) := by
  obtain ⟨p, cap, rfl, -, -, -, hbd, hes⟩ := hx.cells
  obtain ⟨p', cap', rfl, -, -, -, hbd', hes'⟩ := hy.cells
  (refine calls_enter Tryz.func19 Tryz.ntmps19 rfl rfl ?_)
  (refine r132 ?_)
  refine L_box rfl rfl rfl fun b2 w1 hn1 => ?_
  refine L_box rfl rfl rfl fun b3 w2 hn2 => ?_
  obtain ⟨H1, g1, hb2⟩ := Grow.ofNew hA hn1
  obtain ⟨H2, g2, hb3⟩ := Grow.ofNew g1.ag hn2
  have hb2 := g2.le _ _ hb2
  have hA2 := g2.ag
  have hex : Ext No w w2 := hn1.ext.trans hn2.ext
  have hle := Hp.le_trans g1.le g2.le
  cases ek : (x.k != y.k) with
  | true =>
    have hv : alikeT x y = false := by simp at ek; simp [alikeT, alikeP, ek]
    (repeat (first | (refine cL ?_; first | (refine cL_guard ?_; refine L_unwanted rfl rfl rfl ?_) | (refine cL_neq ?_; refine L_valB (R_neI rfl rfl) ek rfl rfl rfl ?_)) | refine r133 ?_))
    (refine G_retF rfl ?_)
    exact ⟨_, rfl, by rw [hv]; rfl, hex⟩
  | false =>
    have hk : x.k = y.k := by simpa using ek
    cases el : ((x.es.length : Int) != (y.es.length : Int)) with
    | true =>
      have hl : x.es.length ≠ y.es.length := by
        simp at el
        omega
      have hv : alikeT x y = false := by simp [alikeT, alikeP, hl]
      (repeat (first | (refine cL ?_; first | (refine cL_guard ?_; refine L_unwanted rfl rfl rfl ?_) | (refine cL_neq ?_; first | refine L_valB (R_neI rfl rfl) ek rfl rfl rfl ?_ | refine L_valB (R_neI rfl rfl) el rfl rfl rfl ?_)) | refine r133 ?_))
      (refine G_retF rfl ?_)
      exact ⟨_, rfl, by rw [hv]; rfl, hex⟩
    | false =>
      have hl : x.es.length = y.es.length := by
        simp at el
        omega
      cases e9 : (x.k == 9) with
      | true =>
        have hk9 : x.k = 9 := by simpa using e9
        have hv : alikeT x y = (List.range x.es.length).all fun i => beqB ((x.es[i]?.map Ty.nm).getD ⟨#[]⟩) ((y.es[i]?.map Ty.nm).getD ⟨#[]⟩) := by
          rw [← namesEq_eq hl]
          simp [alikeT, alikeP, hl, ← hk, hk9]
        rw [hv]
        (repeat (first | (refine cL ?_; first | (refine cL_guard ?_; refine L_unwanted rfl rfl rfl ?_) | (refine cL_eql ?_; refine L_valB (R_eqI rfl rfl) e9 rfl rfl rfl ?_) | (refine cL_neq ?_; first | refine L_valB (R_neI rfl rfl) ek rfl rfl rfl ?_ | refine L_valB (R_neI rfl rfl) el rfl rfl rfl ?_)) | refine r133 ?_))
        refine G_loop (CountI 28 27 x.es.length [(3, ptr b3), (26, .slice p x.es.length cap)] w2 fun i => ∀ j, j < i → beqB ((x.es[j]?.map Ty.nm).getD ⟨#[]⟩) ((y.es[j]?.map Ty.nm).getD ⟨#[]⟩) = true) (fun f _ _ => countM 28 27 f)
          ⟨rfl, Ext.refl _ _, _, 0, with_self ⟨rfl, rfl, rfl, rfl, trivial⟩, Nat.zero_le _, fun j hj => absurd hj (Nat.not_lt_zero j)⟩ ?_
        rintro f ds wr ⟨rfl, hext, f0, i, rfl, hi, hJ⟩
        have hAr := hA2.ext0 hext
        by_cases h : i < x.es.length
        · have hb : decide ((i : Int) < (x.es.length : Int)) = true := decide_eq_true (by omega)
          obtain ⟨e, he⟩ : ∃ v, x.es[i]? = some v := ⟨_, List.getElem?_eq_getElem h⟩
          obtain ⟨e', he'⟩ : ∃ v', y.es[i]? = some v' := ⟨_, List.getElem?_eq_getElem (by omega)⟩
          obtain ⟨bk, off, ec, rfl, hec, hed⟩ := (hes.mono hle).get he
          obtain ⟨bk', off', ec', rfl, hec', hed'⟩ := (hes'.mono hle).get he'
          obtain ⟨q, qcap, rfl, -, -, -, -, -⟩ := hed.cells
          obtain ⟨q', qcap', rfl, -, -, -, -, -⟩ := hed'.cells
          (repeat (first | (refine cL ?_; first | (refine cL_guard ?_; refine L_unwanted rfl rfl rfl ?_) | (refine cL_load ?_; refine L_val (R_loadA rfl rfl fun j v hj => hAr.hcell (hec j v hj)) rfl rfl rfl ?_) | (refine cL_lss ?_; refine L_valB (R_ltI rfl rfl) hb rfl rfl rfl ?_) | (refine cL_indexAddr ?_; refine L_valE (R_ia rfl rfl (by omega) (by omega)) (ia6 _ _ _) rfl rfl rfl ?_)) | refine r133 ?_))
          refine L_allocS rfl rfl fun b6 w3 hn3 => ?_
          (refine r132 ?_)
          refine L_storeA rfl hn3.here rfl rfl rfl rfl rfl rfl fun w4 h4 e4 s4 => ?_
          obtain ⟨H4, g4, hb6⟩ := Grow.ofNew hAr (hn3.store h4 e4 s4)
          have hb3' := g4.le _ _ hb3
          have hAg : ∀ w', Ext No w4 w' → Agree _ w' := fun _ he => g4.ag.ext0 he
          have hec2 := hec'.mono g4.le
          have hnm : (!(e.nm.toList == e'.nm.toList)) = !(beqB ((x.es[i]?.map Ty.nm).getD ⟨#[]⟩) ((y.es[i]?.map Ty.nm).getD ⟨#[]⟩)) := by rw [he, he']; rfl
          (refine r132 ?_)
          (refine G_draw No (0 :: 1 :: 2 :: 3 :: 4 :: 5 :: 6 :: 7 :: 8 :: []) [] follows (by kernel_rfl) rfl ?_)
          cases hbn : beqB ((x.es[i]?.map Ty.nm).getD ⟨#[]⟩) ((y.es[i]?.map Ty.nm).getD ⟨#[]⟩) with
          | false =>
            rw [hbn] at hnm
            (repeat (first | (refine cD_guard ?_; refine D_unwanted rfl rfl ?_) | (refine cD_load ?_; refine D_val0 (fun w he => R_load rfl ((hAg w he).hcell (hec2 5 _ rfl))) rfl rfl ?_) | (refine cD_neq ?_; refine D_valB (fun _ _ => R_neS rfl rfl) hnm rfl rfl ?_) | (refine cD_indexAddr ?_; refine D_valE (fun _ _ => R_ia rfl rfl (by omega) (by omega)) (ia6 _ _ _) rfl rfl ?_) | refine r134 hAg ?_))
            refine D_nil fun w5 hw5 => ?_
            (refine r132 ?_)
            (refine G_retF rfl ?_)
            exact ⟨_, rfl, congrArg Value.bool (allR_false h hbn).symm, hex.trans (hext.trans (g4.ext.trans hw5))⟩
          | true =>
            rw [hbn] at hnm
            (repeat (first | (refine cD_guard ?_; refine D_unwanted rfl rfl ?_) | (refine cD_load ?_; refine D_val0 (fun w he => R_load rfl ((hAg w he).hcell (hec2 5 _ rfl))) rfl rfl ?_) | (refine cD_neq ?_; refine D_valB (fun _ _ => R_neS rfl rfl) hnm rfl rfl ?_) | (refine cD_indexAddr ?_; refine D_valE (fun _ _ => R_ia rfl rfl (by omega) (by omega)) (ia6 _ _ _) rfl rfl ?_) | refine r134 hAg ?_))
            refine D_nil fun w5 hw5 => ?_
            (repeat (first | (refine cL ?_; first | (refine cL_guard ?_; refine L_unwanted rfl rfl rfl ?_) | (refine cL_add ?_; refine L_valE (R_addI rfl rfl) (succ_i64 h (by omega)) rfl rfl rfl ?_)) | refine r133 ?_))
            refine G_inv ⟨⟨rfl, hext.trans (g4.ext.trans hw5), _, i + 1, with_self ⟨rfl, rfl, rfl, rfl, trivial⟩, h, fun j hj => ?_⟩, ?_⟩
            · rcases Nat.lt_succ_iff_lt_or_eq.1 hj with hj | rfl
              · exact hJ j hj
              · exact hbn
            · show ((x.es.length : Int) - ((i + 1 : Nat) : Int)).toNat < ((x.es.length : Int) - (i : Int)).toNat
              omega
        · have hb : decide ((i : Int) < (x.es.length : Int)) = false := decide_eq_false (by omega)
          (repeat (first | (refine cL ?_; first | (refine cL_guard ?_; refine L_unwanted rfl rfl rfl ?_) | (refine cL_lss ?_; refine L_valB (R_ltI rfl rfl) hb rfl rfl rfl ?_)) | refine G_exit rfl ?_ | refine r133 ?_))
          (refine G_retF rfl ?_)
          exact ⟨_, rfl, congrArg Value.bool (allR_true fun j hj => hJ j (by omega)).symm, hex.trans hext⟩
      | false =>
        have hk9 : x.k ≠ 9 := by simpa using e9
        cases e10 : (x.k == 10) with
        | true =>
          have hk10 : x.k = 10 := by simpa using e10
          have hv : alikeT x y = (x.c == y.c && x.b == y.b) := by simp [alikeT, alikeP, hl, ← hk, hk10]
          rw [hv]
          cases ec : (x.c == y.c) with
          | true =>
            (repeat (first | (refine cL ?_; first | (refine cL_guard ?_; refine L_unwanted rfl rfl rfl ?_) | (refine cL_eql ?_; first | refine L_valB (R_eqI rfl rfl) e9 rfl rfl rfl ?_ | refine L_valB (R_eqI rfl rfl) e10 rfl rfl rfl ?_ | refine L_valB (R_eqI rfl rfl) ec rfl rfl rfl ?_) | (refine cL_neq ?_; first | refine L_valB (R_neI rfl rfl) ek rfl rfl rfl ?_ | refine L_valB (R_neI rfl rfl) el rfl rfl rfl ?_)) | refine r133 ?_))
            (refine G_retF rfl ?_)
            exact ⟨_, rfl, rfl, hex⟩
          | false =>
            (repeat (first | (refine cL ?_; first | (refine cL_guard ?_; refine L_unwanted rfl rfl rfl ?_) | (refine cL_eql ?_; first | refine L_valB (R_eqI rfl rfl) e9 rfl rfl rfl ?_ | refine L_valB (R_eqI rfl rfl) e10 rfl rfl rfl ?_ | refine L_valB (R_eqI rfl rfl) ec rfl rfl rfl ?_) | (refine cL_neq ?_; first | refine L_valB (R_neI rfl rfl) ek rfl rfl rfl ?_ | refine L_valB (R_neI rfl rfl) el rfl rfl rfl ?_)) | refine r133 ?_))
            (refine G_retF rfl ?_)
            exact ⟨_, rfl, rfl, hex⟩
        | false =>
          have hk10 : x.k ≠ 10 := by simpa using e10
          cases e4 : (x.k == 4) with
          | true =>
            have hk4 : x.k = 4 := by simpa using e4
            have hv : alikeT x y = true := by simp [alikeT, alikeP, hl, ← hk, hk4]
            rw [hv]
            (repeat (first | (refine cL ?_; first | (refine cL_guard ?_; refine L_unwanted rfl rfl rfl ?_) | (refine cL_eql ?_; first | refine L_valB (R_eqI rfl rfl) e9 rfl rfl rfl ?_ | refine L_valB (R_eqI rfl rfl) e10 rfl rfl rfl ?_ | refine L_valB (R_eqI rfl rfl) e4 rfl rfl rfl ?_) | (refine cL_neq ?_; first | refine L_valB (R_neI rfl rfl) ek rfl rfl rfl ?_ | refine L_valB (R_neI rfl rfl) el rfl rfl rfl ?_)) | refine r133 ?_))
            (refine G_retF rfl ?_)
            exact ⟨_, rfl, rfl, hex⟩
          | false =>
            have hk4 : x.k ≠ 4 := by simpa using e4
            cases e5 : (x.k == 5) with
            | true =>
              have hk5 : x.k = 5 := by simpa using e5
              have hv : alikeT x y = true := by simp [alikeT, alikeP, hl, ← hk, hk5]
              rw [hv]
              (repeat (first | (refine cL ?_; first | (refine cL_guard ?_; refine L_unwanted rfl rfl rfl ?_) | (refine cL_eql ?_; first | refine L_valB (R_eqI rfl rfl) e9 rfl rfl rfl ?_ | refine L_valB (R_eqI rfl rfl) e10 rfl rfl rfl ?_ | refine L_valB (R_eqI rfl rfl) e4 rfl rfl rfl ?_ | refine L_valB (R_eqI rfl rfl) e5 rfl rfl rfl ?_) | (refine cL_neq ?_; first | refine L_valB (R_neI rfl rfl) ek rfl rfl rfl ?_ | refine L_valB (R_neI rfl rfl) el rfl rfl rfl ?_)) | refine r133 ?_))
              (refine G_retF rfl ?_)
              exact ⟨_, rfl, rfl, hex⟩
            | false =>
              have hk5 : x.k ≠ 5 := by simpa using e5
              cases e7 : (x.k == 7) with
              | true =>
                have hk7 : x.k = 7 := by simpa using e7
                have hv : alikeT x y = true := by simp [alikeT, alikeP, hl, ← hk, hk7]
                rw [hv]
                (repeat (first | (refine cL ?_; first | (refine cL_guard ?_; refine L_unwanted rfl rfl rfl ?_) | (refine cL_eql ?_; first | refine L_valB (R_eqI rfl rfl) e9 rfl rfl rfl ?_ | refine L_valB (R_eqI rfl rfl) e10 rfl rfl rfl ?_ | refine L_valB (R_eqI rfl rfl) e4 rfl rfl rfl ?_ | refine L_valB (R_eqI rfl rfl) e5 rfl rfl rfl ?_ | refine L_valB (R_eqI rfl rfl) e7 rfl rfl rfl ?_) | (refine cL_neq ?_; first | refine L_valB (R_neI rfl rfl) ek rfl rfl rfl ?_ | refine L_valB (R_neI rfl rfl) el rfl rfl rfl ?_)) | refine r133 ?_))
                (refine G_retF rfl ?_)
                exact ⟨_, rfl, rfl, hex⟩
              | false =>
                have hk7 : x.k ≠ 7 := by simpa using e7
                have hv : alikeT x y = (x.n == y.n) := by simp [alikeT, alikeP, hl, hk] at hk9 hk10 hk4 hk5 hk7 ⊢; simp [hk9, hk10, hk4, hk5, hk7]
                rw [hv]
                (repeat (first | (refine cL ?_; first | (refine cL_guard ?_; refine L_unwanted rfl rfl rfl ?_) | (refine cL_eql ?_; first | refine L_valB (R_eqI rfl rfl) e9 rfl rfl rfl ?_ | refine L_valB (R_eqI rfl rfl) e10 rfl rfl rfl ?_ | refine L_valB (R_eqI rfl rfl) e4 rfl rfl rfl ?_ | refine L_valB (R_eqI rfl rfl) e5 rfl rfl rfl ?_ | refine L_valB (R_eqI rfl rfl) e7 rfl rfl rfl ?_) | (refine cL_neq ?_; first | refine L_valB (R_neI rfl rfl) ek rfl rfl rfl ?_ | refine L_valB (R_neI rfl rfl) el rfl rfl rfl ?_)) | refine r133 ?_))
                (refine G_retF rfl ?_)
                exact ⟨_, rfl, rfl, hex⟩
end
end Go.Proofs.YtjilnjifegeceaaGreatDoor

/-
  The verifier's 'Identical' on the input's types.
-/
namespace Go.Proofs.YtjilnjifegeceaaGreatDoor
set_option maxRecDepth 100000
set_option maxHeartbeats 4000000
attribute [local irreducible] Calls execOp

theorem r135 {G G' : Prop} (k : G') (h : Hid G' → G := by intro k_; (repeat (first | (refine cL ?_; first | (refine cL_move ?_; refine L_val R_move rfl rfl rfl ?_) | (refine cL_load ?_; first | refine L_val (R_loadB rfl (by assumption) (by rfl)) rfl rfl rfl ?_ | refine L_val (R_loadH (by assumption) rfl (by assumption) (by rfl)) rfl rfl rfl ?_) | (refine cL_fieldAddr ?_; refine L_val (R_fa rfl) rfl rfl rfl ?_) | (refine cL_assign ?_; refine L_val R_assign rfl rfl rfl ?_) | (refine cL_call ?_; refine L_val (R_len rfl) rfl rfl rfl ?_) | (refine cL_lss ?_; refine L_val (R_ltI rfl rfl) rfl rfl rfl ?_) | (refine cL_not ?_; refine L_val (R_not rfl) rfl rfl rfl ?_) | (refine cL_add ?_; refine L_val (R_addI rfl rfl) rfl rfl rfl ?_) | refine L_nil ?_) | refine G_seq ?_ | refine G_region ?_ | refine G_skip ?_ | refine G_block ?_ | refine G_end ?_ | refine G_true rfl ?_ | refine G_false rfl ?_)); exact k_.out) : G := h ⟨k⟩
theorem r136 {G G' : Prop} (k : G') (h : Hid G' → G := by intro k_; (first | (refine cL ?_; first | (refine cL_move ?_; refine L_val R_move rfl rfl rfl ?_) | (refine cL_load ?_; first | refine L_val (R_loadB rfl (by assumption) (by rfl)) rfl rfl rfl ?_ | refine L_val (R_loadH (by assumption) rfl (by assumption) (by rfl)) rfl rfl rfl ?_) | (refine cL_fieldAddr ?_; refine L_val (R_fa rfl) rfl rfl rfl ?_) | (refine cL_assign ?_; refine L_val R_assign rfl rfl rfl ?_) | (refine cL_call ?_; refine L_val (R_len rfl) rfl rfl rfl ?_) | (refine cL_lss ?_; refine L_val (R_ltI rfl rfl) rfl rfl rfl ?_) | (refine cL_not ?_; refine L_val (R_not rfl) rfl rfl rfl ?_) | (refine cL_add ?_; refine L_val (R_addI rfl rfl) rfl rfl rfl ?_) | refine L_nil ?_) | refine G_seq ?_ | refine G_region ?_ | refine G_skip ?_ | refine G_block ?_ | refine G_end ?_ | refine G_true rfl ?_ | refine G_false rfl ?_); exact k_.out) : G := h ⟨k⟩
theorem r137 {G G' A : Prop} (ag : A) (k : G') (h : Hid G' → A → G := by intro k_ ag_; (first | (refine cD_move ?_; refine D_val0 (fun _ _ => R_move) rfl rfl ?_) | (refine cD_load ?_; refine D_val0 (fun w he => R_loadH (ag_ w he) rfl (by assumption) (by rfl)) rfl rfl ?_) | (refine cD_fieldAddr ?_; refine D_val0 (fun _ _ => R_fa rfl) rfl rfl ?_) | (refine cD_assign ?_; refine D_val0 (fun _ _ => R_assign) rfl rfl ?_) | (refine cD_call ?_; refine D_val0 (fun _ _ => R_len rfl) rfl rfl ?_) | (refine cD_lss ?_; refine D_val0 (fun _ _ => R_ltI rfl rfl) rfl rfl ?_) | (refine cD_not ?_; refine D_val0 (fun _ _ => R_not rfl) rfl rfl ?_) | (refine cD_add ?_; refine D_val0 (fun _ _ => R_addI rfl rfl) rfl rfl ?_)); exact k_.out) : G := h ⟨k⟩ ag

theorem ident_eq (x y : Ty) : ident x y = (alikeT x y && identL x.es y.es) := by
  cases x
  cases y
  rfl
theorem alikeT_len {x y : Ty} (h : alikeT x y = true) : x.es.length = y.es.length := by
  simp only [alikeT, alikeP, Bool.and_eq_true, beq_iff_eq] at h
  exact h.1.2

theorem specIdent_any : ∀ (x y : Ty) (cs cs' : List Value) (H : Hp) (w : World), Agree H w → DTy H x cs → DTy H y cs' → Calls Tryz.prog 9 #[.agg cs.toArray, .agg cs'.toArray] w (Ret (Qt (.bool (ident x y)) w)) := by
  refine Ty.ind fun k0 n0 c0 b0 nm0 es0 ih => ?_
  generalize hxx : Ty.mk k0 n0 c0 b0 nm0 es0 = x
  have hese : x.es = es0 := by rw [← hxx]; rfl
  rw [← hese] at ih
  clear hese hxx
  intro y cs cs' H w hA hx hy
  obtain ⟨p, cap, rfl, -, -, -, hbd, hes⟩ := hx.cells
  obtain ⟨p', cap', rfl, -, -, -, hbd', hes'⟩ := hy.cells
  (refine calls_enter Tryz.func9 Tryz.ntmps9 rfl rfl ?_)
  (refine r135 ?_)
  refine L_box rfl rfl rfl fun b2 w1 hn1 => ?_
  refine L_box rfl rfl rfl fun b3 w2 hn2 => ?_
  obtain ⟨H1, g1, hb2⟩ := Grow.ofNew hA hn1
  obtain ⟨H2, g2, hb3⟩ := Grow.ofNew g1.ag hn2
  have hb2 := g2.le _ _ hb2
  have hA2 := g2.ag
  have hex : Ext No w w2 := hn1.ext.trans hn2.ext
  have hle := Hp.le_trans g1.le g2.le
  have hx2 := DTy.mono hle _ _ hx
  have hy2 := DTy.mono hle _ _ hy
  (repeat (first | (refine cL ?_; first | (refine cL_load ?_; first | refine L_val (R_loadAB rfl rfl (hA2 _ _ hb2)) rfl rfl rfl ?_ | refine L_val (R_loadAB rfl rfl (hA2 _ _ hb3)) rfl rfl rfl ?_)) | refine r136 ?_))
  have hal := alike_any w2 hA2 hx2 hy2
  rw [ident_eq]
  cases eal : alikeT x y with
  | false =>
    rw [eal] at hal
    refine L_callQ hal rfl rfl fun w3 hw3 => ?_
    (refine r135 ?_)
    (refine G_retF rfl ?_)
    exact ⟨_, rfl, rfl, hex.trans hw3⟩
  | true =>
    rw [eal] at hal
    have hl := alikeT_len eal
    rw [Bool.true_and, identL_eq hl]
    refine L_callQ hal rfl rfl fun w3 hw3 => ?_
    have hA3 := hA2.ext0 hw3
    (refine r135 ?_)
    refine G_loop (CountI 14 13 x.es.length [(3, ptr b3), (12, .slice p x.es.length cap)] w3 fun i => ∀ j, j < i → identR x.es y.es j = true) (fun f _ _ => countM 14 13 f)
      ⟨rfl, Ext.refl _ _, _, 0, with_self ⟨rfl, rfl, rfl, rfl, trivial⟩, Nat.zero_le _, fun j hj => absurd hj (Nat.not_lt_zero j)⟩ ?_
    rintro f ds wr ⟨rfl, hext, f0, i, rfl, hi, hJ⟩
    have hAr := hA3.ext0 hext
    by_cases h : i < x.es.length
    · have hb : decide ((i : Int) < (x.es.length : Int)) = true := decide_eq_true (by omega)
      obtain ⟨e, he⟩ : ∃ v, x.es[i]? = some v := ⟨_, List.getElem?_eq_getElem h⟩
      obtain ⟨e', he'⟩ : ∃ v', y.es[i]? = some v' := ⟨_, List.getElem?_eq_getElem (by omega)⟩
      obtain ⟨bk, off, ec, rfl, hec, hed⟩ := (hes.mono hle).get he
      obtain ⟨bk', off', ec', rfl, hec', hed'⟩ := (hes'.mono hle).get he'
      obtain ⟨q, qcap, rfl, -, -, -, -, -⟩ := hed.cells
      obtain ⟨q', qcap', rfl, -, -, -, -, -⟩ := hed'.cells
      (repeat (first | (refine cL ?_; first | (refine cL_load ?_; refine L_val (R_loadA rfl rfl fun j v hj => hAr.hcell (hec j v hj)) rfl rfl rfl ?_) | (refine cL_lss ?_; refine L_valB (R_ltI rfl rfl) hb rfl rfl rfl ?_) | (refine cL_indexAddr ?_; refine L_valE (R_ia rfl rfl (by omega) (by omega)) (ia6 _ _ _) rfl rfl rfl ?_)) | refine r136 ?_))
      refine L_allocS rfl rfl fun b6 w4 hn4 => ?_
      (refine r135 ?_)
      refine L_storeA rfl hn4.here rfl rfl rfl rfl rfl rfl fun w5 h5 e5 s5 => ?_
      obtain ⟨H5, g5, hb6⟩ := Grow.ofNew hAr (hn4.store h5 e5 s5)
      have hb3' := g5.le _ _ hb3
      have hAg : ∀ w', Ext No w5 w' → Agree _ w' := fun _ he => g5.ag.ext0 he
      have hec2 := hec'.mono g5.le
      have hr : ident e e' = identR x.es y.es i := by simp [identR, he, he']
      have hih := fun w' hA' => hr ▸ ih e (List.mem_of_getElem? he) e' _ _ H5 w' hA' (DTy.mono g5.le _ _ hed) (DTy.mono g5.le _ _ hed')
      (refine r135 ?_)
      (refine G_draw No (0 :: 1 :: 2 :: 3 :: 4 :: 5 :: 6 :: 7 :: []) [] follows (by kernel_rfl) rfl ?_)
      cases hbn : identR x.es y.es i with
      | false =>
        rw [hbn] at hih
        (repeat (first | (refine cD_load ?_; first | refine D_val0 (fun w he => R_loadA rfl rfl fun j v hj => (hAg w he).hcell (hec2 j v hj)) rfl rfl ?_ | refine D_val0 (fun w he => R_loadAB rfl rfl ((hAg w he) _ _ hb6)) rfl rfl ?_) | (refine cD_call ?_; refine D_callQ (fun w he => hih w (hAg w he)) rfl ?_) | (refine cD_indexAddr ?_; refine D_valE (fun _ _ => R_ia rfl rfl (by omega) (by omega)) (ia6 _ _ _) rfl rfl ?_) | refine r137 hAg ?_))
        refine D_nil fun w6 hw6 => ?_
        (refine r135 ?_)
        (refine G_retF rfl ?_)
        exact ⟨_, rfl, congrArg Value.bool (allR_false h hbn).symm, hex.trans (hw3.trans (hext.trans (g5.ext.trans hw6)))⟩
      | true =>
        rw [hbn] at hih
        (repeat (first | (refine cD_load ?_; first | refine D_val0 (fun w he => R_loadA rfl rfl fun j v hj => (hAg w he).hcell (hec2 j v hj)) rfl rfl ?_ | refine D_val0 (fun w he => R_loadAB rfl rfl ((hAg w he) _ _ hb6)) rfl rfl ?_) | (refine cD_call ?_; refine D_callQ (fun w he => hih w (hAg w he)) rfl ?_) | (refine cD_indexAddr ?_; refine D_valE (fun _ _ => R_ia rfl rfl (by omega) (by omega)) (ia6 _ _ _) rfl rfl ?_) | refine r137 hAg ?_))
        refine D_nil fun w6 hw6 => ?_
        (repeat (first | (refine cL ?_; first | (refine cL_add ?_; refine L_valE (R_addI rfl rfl) (succ_i64 h (by omega)) rfl rfl rfl ?_)) | refine r136 ?_))
        refine G_inv ⟨⟨rfl, hext.trans (g5.ext.trans hw6), _, i + 1, with_self ⟨rfl, rfl, rfl, rfl, trivial⟩, h, fun j hj => ?_⟩, ?_⟩
        · rcases Nat.lt_succ_iff_lt_or_eq.1 hj with hj | rfl
          · exact hJ j hj
          · exact hbn
        · show ((x.es.length : Int) - ((i + 1 : Nat) : Int)).toNat < ((x.es.length : Int) - (i : Int)).toNat
          omega
    · have hb : decide ((i : Int) < (x.es.length : Int)) = false := decide_eq_false (by omega)
      (repeat (first | (refine cL ?_; first | (refine cL_lss ?_; refine L_valB (R_ltI rfl rfl) hb rfl rfl rfl ?_)) | refine G_exit rfl ?_ | refine r136 ?_))
      (refine G_retF rfl ?_)
      exact ⟨_, rfl, congrArg Value.bool (allR_true fun j hj => hJ j (by omega)).symm, hex.trans (hw3.trans hext)⟩
end Go.Proofs.YtjilnjifegeceaaGreatDoor

/-
  The verifier's 'occurs', 'replaced' and 'Applied' on the input's types.
-/
namespace Go.Proofs.YtjilnjifegeceaaGreatDoor
set_option maxRecDepth 100000
set_option maxHeartbeats 4000000
attribute [local irreducible] Calls execOp

theorem r138 {G G' : Prop} (k : G') (h : Hid G' → G := by intro k_; (repeat (first | (refine cL ?_; first | (refine cL_move ?_; refine L_val R_move rfl rfl rfl ?_) | (refine cL_load ?_; first | refine L_val (R_loadB rfl (by assumption) (by rfl)) rfl rfl rfl ?_ | refine L_val (R_loadH (by assumption) rfl (by assumption) (by rfl)) rfl rfl rfl ?_) | (refine cL_fieldAddr ?_; refine L_val (R_fa rfl) rfl rfl rfl ?_) | (refine cL_assign ?_; refine L_val R_assign rfl rfl rfl ?_) | (refine cL_call ?_; refine L_val (R_len rfl) rfl rfl rfl ?_) | (refine cL_eql ?_; first | refine L_val (R_eqPN rfl rfl) rfl rfl rfl ?_ | refine L_val (R_eqI rfl rfl) rfl rfl rfl ?_ | refine L_val (R_eqB rfl rfl) rfl rfl rfl ?_ | refine L_val (R_eqIfN rfl rfl) rfl rfl rfl ?_ | refine L_val (R_eqIfNN rfl) rfl rfl rfl ?_) | (refine cL_lss ?_; refine L_val (R_ltI rfl rfl) rfl rfl rfl ?_) | (refine cL_add ?_; refine L_val (R_addI rfl rfl) rfl rfl rfl ?_) | refine L_nil ?_) | refine G_seq ?_ | refine G_region ?_ | refine G_skip ?_ | refine G_block ?_ | refine G_end ?_ | refine G_true rfl ?_ | refine G_false rfl ?_)); exact k_.out) : G := h ⟨k⟩
theorem r139 {G G' : Prop} (k : G') (h : Hid G' → G := by intro k_; (first | (refine cL ?_; first | (refine cL_move ?_; refine L_val R_move rfl rfl rfl ?_) | (refine cL_load ?_; first | refine L_val (R_loadB rfl (by assumption) (by rfl)) rfl rfl rfl ?_ | refine L_val (R_loadH (by assumption) rfl (by assumption) (by rfl)) rfl rfl rfl ?_) | (refine cL_fieldAddr ?_; refine L_val (R_fa rfl) rfl rfl rfl ?_) | (refine cL_assign ?_; refine L_val R_assign rfl rfl rfl ?_) | (refine cL_call ?_; refine L_val (R_len rfl) rfl rfl rfl ?_) | (refine cL_eql ?_; first | refine L_val (R_eqPN rfl rfl) rfl rfl rfl ?_ | refine L_val (R_eqI rfl rfl) rfl rfl rfl ?_ | refine L_val (R_eqB rfl rfl) rfl rfl rfl ?_ | refine L_val (R_eqIfN rfl rfl) rfl rfl rfl ?_ | refine L_val (R_eqIfNN rfl) rfl rfl rfl ?_) | (refine cL_lss ?_; refine L_val (R_ltI rfl rfl) rfl rfl rfl ?_) | (refine cL_add ?_; refine L_val (R_addI rfl rfl) rfl rfl rfl ?_) | refine L_nil ?_) | refine G_seq ?_ | refine G_region ?_ | refine G_skip ?_ | refine G_block ?_ | refine G_end ?_ | refine G_true rfl ?_ | refine G_false rfl ?_); exact k_.out) : G := h ⟨k⟩
theorem r140 {G G' : Prop} (k : G') (h : Hid G' → G := by intro k_; (repeat (first | (refine cL ?_; first | (refine cL_move ?_; refine L_val R_move rfl rfl rfl ?_) | (refine cL_load ?_; first | refine L_val (R_loadB rfl (by assumption) (by rfl)) rfl rfl rfl ?_ | refine L_val (R_loadH (by assumption) rfl (by assumption) (by rfl)) rfl rfl rfl ?_) | (refine cL_fieldAddr ?_; refine L_val (R_fa rfl) rfl rfl rfl ?_) | (refine cL_call ?_; refine L_val (R_len rfl) rfl rfl rfl ?_) | (refine cL_eql ?_; first | refine L_val (R_eqPN rfl rfl) rfl rfl rfl ?_ | refine L_val (R_eqI rfl rfl) rfl rfl rfl ?_ | refine L_val (R_eqB rfl rfl) rfl rfl rfl ?_ | refine L_val (R_eqIfN rfl rfl) rfl rfl rfl ?_ | refine L_val (R_eqIfNN rfl) rfl rfl rfl ?_) | (refine cL_lss ?_; refine L_val (R_ltI rfl rfl) rfl rfl rfl ?_) | (refine cL_add ?_; refine L_val (R_addI rfl rfl) rfl rfl rfl ?_) | refine L_nil ?_) | refine G_seq ?_ | refine G_region ?_ | refine G_skip ?_ | refine G_block ?_ | refine G_end ?_ | refine G_true rfl ?_ | refine G_false rfl ?_)); exact k_.out) : G := h ⟨k⟩
theorem r141 {G G' : Prop} (k : G') (h : Hid G' → G := by intro k_; (first | (refine cL ?_; first | (refine cL_move ?_; refine L_val R_move rfl rfl rfl ?_) | (refine cL_load ?_; first | refine L_val (R_loadB rfl (by assumption) (by rfl)) rfl rfl rfl ?_ | refine L_val (R_loadH (by assumption) rfl (by assumption) (by rfl)) rfl rfl rfl ?_) | (refine cL_fieldAddr ?_; refine L_val (R_fa rfl) rfl rfl rfl ?_) | (refine cL_call ?_; refine L_val (R_len rfl) rfl rfl rfl ?_) | (refine cL_eql ?_; first | refine L_val (R_eqPN rfl rfl) rfl rfl rfl ?_ | refine L_val (R_eqI rfl rfl) rfl rfl rfl ?_ | refine L_val (R_eqB rfl rfl) rfl rfl rfl ?_ | refine L_val (R_eqIfN rfl rfl) rfl rfl rfl ?_ | refine L_val (R_eqIfNN rfl) rfl rfl rfl ?_) | (refine cL_lss ?_; refine L_val (R_ltI rfl rfl) rfl rfl rfl ?_) | (refine cL_add ?_; refine L_val (R_addI rfl rfl) rfl rfl rfl ?_) | refine L_nil ?_) | refine G_seq ?_ | refine G_region ?_ | refine G_skip ?_ | refine G_block ?_ | refine G_end ?_ | refine G_true rfl ?_ | refine G_false rfl ?_); exact k_.out) : G := h ⟨k⟩
theorem r142 {G G' A : Prop} (ag : A) (k : G') (h : Hid G' → A → G := by intro k_ ag_; (first | (refine cX_move ?_; first | refine X_val0 (fun _ _ => R_move) rfl rfl ?_ | refine X_pure (fun _ => R_move) rfl rfl ?_) | (refine cX_load ?_; refine X_val0 (fun w he => R_loadH (ag_ w he) rfl (by assumption) (by rfl)) rfl rfl ?_) | (refine cX_fieldAddr ?_; first | refine X_val0 (fun _ _ => R_fa rfl) rfl rfl ?_ | refine X_pure (fun _ => R_fa rfl) rfl rfl ?_) | (refine cX_call ?_; first | refine X_val0 (fun _ _ => R_len rfl) rfl rfl ?_ | refine X_pure (fun _ => R_len rfl) rfl rfl ?_) | (refine cX_eql ?_; first | refine X_val0 (fun _ _ => R_eqPN rfl rfl) rfl rfl ?_ | refine X_pure (fun _ => R_eqPN rfl rfl) rfl rfl ?_ | refine X_val0 (fun _ _ => R_eqI rfl rfl) rfl rfl ?_ | refine X_pure (fun _ => R_eqI rfl rfl) rfl rfl ?_ | refine X_val0 (fun _ _ => R_eqB rfl rfl) rfl rfl ?_ | refine X_pure (fun _ => R_eqB rfl rfl) rfl rfl ?_ | refine X_val0 (fun _ _ => R_eqIfN rfl rfl) rfl rfl ?_ | refine X_pure (fun _ => R_eqIfN rfl rfl) rfl rfl ?_ | refine X_val0 (fun _ _ => R_eqIfNN rfl) rfl rfl ?_ | refine X_pure (fun _ => R_eqIfNN rfl) rfl rfl ?_) | (refine cX_lss ?_; first | refine X_val0 (fun _ _ => R_ltI rfl rfl) rfl rfl ?_ | refine X_pure (fun _ => R_ltI rfl rfl) rfl rfl ?_) | (refine cX_add ?_; first | refine X_val0 (fun _ _ => R_addI rfl rfl) rfl rfl ?_ | refine X_pure (fun _ => R_addI rfl rfl) rfl rfl ?_)); exact k_.out) : G := h ⟨k⟩ ag
theorem r143 {G G' A : Prop} (ag : A) (k : G') (h : Hid G' → A → G := by intro k_ ag_; (repeat (first | (refine cX_move ?_; first | refine X_val0 (fun _ _ => R_move) rfl rfl ?_ | refine X_pure (fun _ => R_move) rfl rfl ?_) | (refine cX_load ?_; refine X_val0 (fun w he => R_loadH (ag_ w he) rfl (by assumption) (by rfl)) rfl rfl ?_) | (refine cX_fieldAddr ?_; first | refine X_val0 (fun _ _ => R_fa rfl) rfl rfl ?_ | refine X_pure (fun _ => R_fa rfl) rfl rfl ?_) | (refine cX_call ?_; first | refine X_val0 (fun _ _ => R_len rfl) rfl rfl ?_ | refine X_pure (fun _ => R_len rfl) rfl rfl ?_) | (refine cX_eql ?_; first | refine X_val0 (fun _ _ => R_eqPN rfl rfl) rfl rfl ?_ | refine X_pure (fun _ => R_eqPN rfl rfl) rfl rfl ?_ | refine X_val0 (fun _ _ => R_eqI rfl rfl) rfl rfl ?_ | refine X_pure (fun _ => R_eqI rfl rfl) rfl rfl ?_ | refine X_val0 (fun _ _ => R_eqB rfl rfl) rfl rfl ?_ | refine X_pure (fun _ => R_eqB rfl rfl) rfl rfl ?_ | refine X_val0 (fun _ _ => R_eqIfN rfl rfl) rfl rfl ?_ | refine X_pure (fun _ => R_eqIfN rfl rfl) rfl rfl ?_ | refine X_val0 (fun _ _ => R_eqIfNN rfl) rfl rfl ?_ | refine X_pure (fun _ => R_eqIfNN rfl) rfl rfl ?_) | (refine cX_lss ?_; first | refine X_val0 (fun _ _ => R_ltI rfl rfl) rfl rfl ?_ | refine X_pure (fun _ => R_ltI rfl rfl) rfl rfl ?_) | (refine cX_add ?_; first | refine X_val0 (fun _ _ => R_addI rfl rfl) rfl rfl ?_ | refine X_pure (fun _ => R_addI rfl rfl) rfl rfl ?_))); exact k_.out) : G := h ⟨k⟩ ag
theorem r144 {G G' : Prop} (k : G') (h : Hid G' → G := by intro k_; (first | (refine cL ?_; first | (refine cL_move ?_; refine L_val R_move rfl rfl rfl ?_) | (refine cL_load ?_; first | refine L_val (R_loadB rfl (by assumption) (by rfl)) rfl rfl rfl ?_ | refine L_val (R_loadH (by assumption) rfl (by assumption) (by rfl)) rfl rfl rfl ?_) | refine L_nil ?_) | refine G_seq ?_ | refine G_region ?_ | refine G_skip ?_ | refine G_block ?_ | refine G_end ?_ | refine G_true rfl ?_ | refine G_false rfl ?_); exact k_.out) : G := h ⟨k⟩

def occAt (p : Int) (es : List Ty) (i : Nat) : Bool := match es[i]? with | some e => occT p e | none => false
theorem occL_false {p : Int} {es : List Ty} (h : ∀ j, j < es.length → occAt p es j = false) : occL p es = false := by
  cases ho : occL p es with
  | false => rfl
  | true =>
    obtain ⟨i, e, h1, h2⟩ := occL_iff.1 ho
    have h3 := h i (List.getElem?_eq_some_iff.1 h1).1
    unfold occAt at h3
    rw [h1] at h3
    have h3' : occT p e = false := h3
    rw [h3'] at h2
    cases h2
theorem occL_true {p : Int} {es : List Ty} {i : Nat} (h : occAt p es i = true) : occL p es = true := by
  unfold occAt at h
  cases he : es[i]? with
  | none => rw [he] at h; cases h
  | some e => rw [he] at h; exact occL_iff.2 ⟨i, e, he, h⟩
theorem occT_eq (p : Int) (t : Ty) : occT p t = if t.k = 2 then t.n == p else occL p t.es := by cases t; rfl

theorem occurs_any {p : Int} : ∀ (t : Ty) (cs : List Value) (H : Hp) (w : World), Agree H w → DTy H t cs → Calls Tryz.prog 14 #[.agg cs.toArray, .int .i64 p] w (Ret (Qt (.bool (occT p t)) w)) := by
  refine Ty.ind fun k0 n0 c0 b0 nm0 es0 ih => ?_
  generalize hxx : Ty.mk k0 n0 c0 b0 nm0 es0 = x
  have hese : x.es = es0 := by rw [← hxx]; rfl
  rw [← hese] at ih
  clear hese hxx
  intro cs H w hA hx
  obtain ⟨p', cap, rfl, -, -, -, hbd, hes⟩ := hx.cells
  rw [occT_eq]
  (refine calls_enter Tryz.func14 Tryz.ntmps14 rfl rfl ?_)
  (refine r138 ?_)
  refine L_box rfl rfl rfl fun b2 w1 hn1 => ?_
  obtain ⟨H1, g1, hb1⟩ := Grow.ofNew hA hn1
  have hA1 := g1.ag
  have hes1 := hes.mono g1.le
  have hex1 := g1.ext
  cases ek : (x.k == 2) with
  | true =>
    have hk : x.k = 2 := by simpa using ek
    rw [if_pos hk]
    (repeat (first | (refine cL ?_; first | (refine cL_eql ?_; refine L_valB (R_eqI rfl rfl) ek rfl rfl rfl ?_)) | refine r139 ?_))
    (refine G_retF rfl ?_)
    exact ⟨_, rfl, rfl, hex1⟩
  | false =>
  have hk : x.k ≠ 2 := by simpa using ek
  rw [if_neg hk]
  (repeat (first | (refine cL ?_; first | (refine cL_eql ?_; refine L_valB (R_eqI rfl rfl) ek rfl rfl rfl ?_)) | refine r139 ?_))
  refine G_loop (CountI 17 16 x.es.length [(1, .int .i64 p), (15, .slice p' x.es.length cap)] w1 fun i => ∀ j, j < i → occAt p x.es j = false) (fun f _ _ => countM 17 16 f)
    ⟨rfl, Ext.refl _ _, _, 0, with_self ⟨rfl, rfl, rfl, rfl, trivial⟩, Nat.zero_le _, fun j hj => absurd hj (Nat.not_lt_zero j)⟩ ?_
  rintro f ds0 wr ⟨rfl, hext, f0, i, rfl, hi, hJ⟩
  have hAr := hA1.ext0 hext
  by_cases h : i < x.es.length
  · have hb : decide ((i : Int) < (x.es.length : Int)) = true := decide_eq_true (by omega)
    obtain ⟨e, he⟩ : ∃ v, x.es[i]? = some v := ⟨_, List.getElem?_eq_getElem h⟩
    obtain ⟨bk, off, ec, rfl, hec, hed⟩ := hes1.get he
    obtain ⟨q, qcap, rfl, -, -, -, -, -⟩ := hed.cells
    (repeat (first | (refine cL ?_; first | (refine cL_load ?_; refine L_val (R_loadA rfl rfl fun j v hj => hAr.hcell (hec j v hj)) rfl rfl rfl ?_) | (refine cL_lss ?_; refine L_valB (R_ltI rfl rfl) hb rfl rfl rfl ?_) | (refine cL_indexAddr ?_; refine L_valE (R_ia rfl rfl (by omega) (by omega)) (ia6 _ _ _) rfl rfl rfl ?_)) | refine r139 ?_))
    refine L_allocS rfl rfl fun b5 w3 hn3 => ?_
    refine L_storeA rfl hn3.here rfl rfl rfl rfl rfl rfl fun w4 h4 e4 s4 => ?_
    obtain ⟨H4, g4, hb5⟩ := Grow.ofNew hAr (hn3.store h4 e4 s4)
    have hoc : occT p e = occAt p x.es i := by simp [occAt, he]
    have hih := ih e (List.mem_of_getElem? he) _ H4 w4 g4.ag (DTy.mono g4.le _ _ hed)
    rw [hoc] at hih
    (repeat (first | (refine cL ?_; first | (refine cL_load ?_; refine L_val (R_loadAB rfl rfl (g4.ag _ _ hb5)) rfl rfl rfl ?_)) | refine r139 ?_))
    cases hbn : occAt p x.es i with
    | true =>
      rw [hbn] at hih
      refine L_callQ hih rfl rfl fun w5 hw5 => ?_
      (refine r138 ?_)
      (refine G_retF rfl ?_)
      exact ⟨_, rfl, congrArg Value.bool (occL_true hbn).symm, hex1.trans (hext.trans (g4.ext.trans hw5))⟩
    | false =>
      rw [hbn] at hih
      refine L_callQ hih rfl rfl fun w5 hw5 => ?_
      (repeat (first | (refine cL ?_; first | (refine cL_add ?_; refine L_valE (R_addI rfl rfl) (succ_i64 h (by omega)) rfl rfl rfl ?_)) | refine r139 ?_))
      refine G_inv ⟨⟨rfl, hext.trans (g4.ext.trans hw5), _, i + 1, with_self ⟨rfl, rfl, rfl, rfl, trivial⟩, h, fun j hj => ?_⟩, ?_⟩
      · rcases Nat.lt_succ_iff_lt_or_eq.1 hj with hj | rfl
        · exact hJ j hj
        · exact hbn
      · show ((x.es.length : Int) - ((i + 1 : Nat) : Int)).toNat < ((x.es.length : Int) - (i : Int)).toNat
        omega
  · have hb : decide ((i : Int) < (x.es.length : Int)) = false := decide_eq_false (by omega)
    (repeat (first | (refine cL ?_; first | (refine cL_lss ?_; refine L_valB (R_ltI rfl rfl) hb rfl rfl rfl ?_)) | refine G_exit rfl ?_ | refine r139 ?_))
    (refine G_retF rfl ?_)
    exact ⟨_, rfl, congrArg Value.bool (occL_false fun j hj => hJ j (by omega)).symm, hex1.trans hext⟩

/-! ### types in the place of type parameters -/

theorem DTy.setNm {H : Hp} {t : Ty} {q : Value} (nm : ByteArray) (h : DTy H t (tyCells t.k t.n t.c t.b q t.nm)) : DTy H (t.setNm nm) (tyCells t.k t.n t.c t.b q nm) := by
  cases t
  simp only [DTy, Ty.setNm, Ty.k, Ty.n, Ty.c, Ty.b, Ty.nm, List.cons.injEq, and_true, true_and] at h ⊢
  obtain ⟨p, cap, rfl, h⟩ := h
  exact ⟨p, cap, rfl, h⟩

theorem applyL_snoc {l : List Ty} {es : List Ty} {i : Nat} {e : Ty} (he : es[i]? = some e) : applyL l (es.take (i + 1)) = applyL l (es.take i) ++ [applyT l e] := by
  have htk : es.take (i + 1) = es.take i ++ [e] := by rw [List.take_add_one, he]; rfl
  have key : ∀ a : List Ty, applyL l (a ++ [e]) = applyL l a ++ [applyT l e] := by
    intro a
    induction a with
    | nil => rfl
    | cons x a ih => simp only [List.cons_append, applyL, ih]
  rw [htk, key]

def AppSays (H : Hp) (w : World) (l : List Ty) (t : Ty) : Value → World → Prop := fun r w' => ∃ cs H', r = .agg cs.toArray ∧ Grow H w H' w' ∧ DTy H' (applyT l t) cs

theorem applyT_eq (l : List Ty) (t : Ty) : applyT l t = if t.k = 2 then ((l[t.n.toNat]?).getD t).setNm t.nm else .mk t.k t.n t.c t.b t.nm (applyL l t.es) := by cases t; rfl

mutual
/-- the type parameters in it are among the first m -/
def parB (m : Nat) : Ty → Bool
  | .mk k n _ _ _ es => (!(k == 2) || (decide (0 ≤ n) && decide (n < (m : Int)))) && parBL m es
def parBL (m : Nat) : List Ty → Bool
  | [] => true
  | e :: es => parB m e && parBL m es
end

theorem parBL_mem {m : Nat} {e : Ty} : ∀ {es : List Ty}, parBL m es = true → e ∈ es → parB m e = true
  | x :: es, h, he => by
    simp only [parBL, Bool.and_eq_true] at h
    rcases List.mem_cons.1 he with rfl | he
    · exact h.1
    · exact parBL_mem h.2 he
theorem parBL_all {m : Nat} : ∀ {es : List Ty}, (∀ e ∈ es, parB m e = true) → parBL m es = true
  | [], _ => rfl
  | x :: es, h => by
    simp only [parBL, Bool.and_eq_true]
    exact ⟨h x List.mem_cons_self, parBL_all fun e he => h e (List.mem_cons_of_mem _ he)⟩
theorem parB_param {m : Nat} {n c : Int} {b : Bool} {nm : ByteArray} {es : List Ty} (h : parB m (.mk 2 n c b nm es) = true) : 0 ≤ n ∧ n < (m : Int) := by
  simp only [parB, Bool.and_eq_true] at h
  simpa using h.1
theorem parB_part {m : Nat} {t e : Ty} (h : parB m t = true) (he : e ∈ t.es) : parB m e = true := by
  cases t
  simp only [parB, Bool.and_eq_true] at h
  exact parBL_mem h.2 he
theorem parB_shaped {ds : List (Int × Ty)} {m : Nat} : ∀ t : Ty, shapedB ds (m : Int) 0 t = true → parB m t = true := by
  refine Ty.ind fun k n c b nm es ih => ?_
  intro h
  simp only [parB, Bool.and_eq_true]
  refine ⟨?_, parBL_all fun e he => ih e he (shaped_part h he)⟩
  by_cases hk : k = 2
  · subst hk
    obtain ⟨h0, h1, -⟩ := headB_param (shaped_head h) (by omega)
    have h0' : 0 ≤ n := h0
    have h1' : n < (m : Int) := h1
    simp [h0', h1']
  · simp [hk]

theorem replaced_any {l : List Ty} {q : Option Addr} {qc : Nat} : ∀ (t : Ty) (cs : List Value) (H : Hp) (w : World), Agree H w → DTy H t cs → DSl H l q → parB l.length t = true → Ty.size t ≤ 1000 →
    Calls Tryz.prog 20 #[.agg cs.toArray, .int .i64 2, .slice q l.length qc] w (Ret (AppSays H w l t)) := by
  refine Ty.ind fun k0 n0 c0 b0 nm0 es0 ih => ?_
  generalize hxx : Ty.mk k0 n0 c0 b0 nm0 es0 = x
  have hese : x.es = es0 := by rw [← hxx]; rfl
  rw [← hese] at ih
  clear hese hxx
  intro cs H w hA hx hl hsh hsz
  obtain ⟨p', cap, rfl, hik, hin, hic, hbd, hes⟩ := hx.cells
  have hsz2 : Ty.sizeL x.es + 1 ≤ 1000 := by cases x; simpa [Ty.size, Ty.es, Nat.add_comm] using hsz
  have hle0 := Ty.len_sizeL x.es
  have hap := applyT_eq l x
  (refine calls_enter Tryz.func20 Tryz.ntmps20 rfl rfl ?_)
  (refine r140 ?_)
  refine L_box rfl rfl rfl fun b3 w1 hn1 => ?_
  obtain ⟨H1, g1, hb3⟩ := Grow.ofNew hA hn1
  have hA1 := g1.ag
  refine L_allocS rfl rfl fun b6 w2 hn2 => ?_
  have hA2 := hA1.ext0 hn2.ext
  cases ek : (x.k == 2) with
  | true =>
    have hk : x.k = 2 := by simpa using ek
    rw [if_pos hk] at hap
    cases x with
    | mk k n c b nm es =>
    have hk' : k = 2 := hk
    subst hk'
    obtain ⟨h0, h1⟩ := parB_param hsh
    obtain ⟨i, rfl⟩ := Int.eq_ofNat_of_zero_le h0
    have h1' : (i : Int) < (l.length : Int) := h1
    obtain ⟨a, ha⟩ : ∃ a, l[i]? = some a := ⟨_, List.getElem?_eq_getElem (by omega)⟩
    obtain ⟨bk, off, acs, rfl, hac, had⟩ := (hl.mono g1.le).get ha
    obtain ⟨aq, acap, rfl, -⟩ := had.cells
    have hres : applyT l (.mk 2 (i : Int) c b nm es) = a.setNm nm := by
      rw [hap]
      simp [Ty.n, Ty.nm, ha]
    (repeat (first | (refine cL ?_; first | (refine cL_load ?_; refine L_val (R_loadA rfl rfl fun j v hj => hA2.hcell (hac j v hj)) rfl rfl rfl ?_) | (refine cL_eql ?_; refine L_valB (R_eqI rfl rfl) ek rfl rfl rfl ?_) | (refine cL_indexAddr ?_; refine L_valE (R_ia rfl rfl h0 h1') (ia6 _ _ _) rfl rfl rfl ?_)) | refine r141 ?_))
    refine L_allocS rfl rfl fun b7 w3 hn3 => ?_
    refine L_storeA (vs := tyCells a.k a.n a.c a.b (.slice aq a.es.length acap) a.nm) rfl hn3.here rfl rfl rfl rfl rfl rfl fun w4 h4 e4 s4 => ?_
    have hn4 := hn3.store h4 e4 s4
    have hA4 := hA2.ext0 hn4.ext
    (refine r140 ?_)
    refine L_store rfl h4 rfl rfl rfl fun w5 h5 e5 s5 => ?_
    have hn5 := hn4.store h5 e5 s5
    have h5' : w5.heap[b7]? = some (Ob (tyCells a.k a.n a.c a.b (.slice aq a.es.length acap) nm) 26) := h5
    have h65 := hn5.ext.heap (fun x => x) hn2.here
    (repeat (first | (refine cL ?_; first | (refine cL_load ?_; refine L_val (R_loadAB rfl rfl h5') rfl rfl rfl ?_)) | refine r141 ?_))
    refine L_storeA (vs := tyCells a.k a.n a.c a.b (.slice aq a.es.length acap) nm) rfl h65 rfl rfl rfl rfl rfl rfl fun w6 h6 e6 s6 => ?_
    (refine r140 ?_)
    refine G_retC rfl rfl h6 rfl ?_
    refine ⟨_, rfl, _, H1, rfl, g1.trans (Grow.around hn2 (Grow.quiet hA2 hn5.ext) hA1 e6), ?_⟩
    rw [hres]
    exact DTy.setNm nm had
  | false =>
  have hk : x.k ≠ 2 := by simpa using ek
  rw [if_neg hk] at hap
  (repeat (first | (refine cL ?_; first | (refine cL_load ?_; refine L_val (R_loadAB rfl rfl (hA2 _ _ hb3)) rfl rfl rfl ?_) | (refine cL_eql ?_; refine L_valB (R_eqI rfl rfl) ek rfl rfl rfl ?_)) | refine r141 ?_))
  refine L_allocS rfl rfl fun b8 w3 hn3 => ?_
  refine L_storeA (vs := tyCells x.k x.n x.c x.b (.slice p' x.es.length cap) x.nm) rfl hn3.here rfl rfl rfl rfl rfl rfl fun w4 h4 e4 s4 => ?_
  (refine r140 ?_)
  refine L_store rfl h4 rfl rfl rfl fun w5 h5 e5 s5 => ?_
  have st0 := BSt.init (k := x.k) (n := x.n) (c := x.c) (b := x.b) (nm := x.nm) hA1 hn2 hn3 h5 (e4.trans e5)
  have hA5 := st0.gr.ag
  clear hn2 hn3 h4 e4 s4 h5 e5 s5 hA2
  (repeat (first | (refine cL ?_; first | (refine cL_load ?_; refine L_val (R_loadB rfl (hA5 _ _ hb3) rfl) rfl rfl rfl ?_)) | refine r141 ?_))
  refine G_loop (fun f ds0 w0 => ds0 = [] ∧ ∃ (f0 : Fm) (ts : List Ty) (va : Value) (Hi : Hp), f = with_ [(29, .int .i64 (ts.length : Int)), (28, .int .i64 (x.es.length : Int)), (1, .int .i64 2), (2, .slice q l.length qc), (6, ptr b6), (8, ptr b8), (27, .slice p' x.es.length cap)] f0 ∧ ts.length ≤ x.es.length ∧ BSt H1 w1 b6 b8 x.k x.n x.c x.b x.nm ts Hi va w0 ∧ ts = applyL l (x.es.take ts.length)) (fun f _ _ => countM 29 28 f)
    ⟨rfl, _, [], _, H1, with_self ⟨rfl, rfl, rfl, rfl, rfl, rfl, rfl, trivial⟩, Nat.zero_le _, st0, rfl⟩ ?_
  clear st0 hA5
  rintro f ds0 wr ⟨rfl, f0, ts, va, Hi, rfl, hi, st, hts⟩
  have hAr := st.gr.ag
  have hle := Hp.le_trans g1.le st.gr.le
  by_cases h : ts.length < x.es.length
  · have hb : decide ((ts.length : Int) < (x.es.length : Int)) = true := decide_eq_true (by omega)
    obtain ⟨e, he⟩ : ∃ v, x.es[ts.length]? = some v := ⟨_, List.getElem?_eq_getElem h⟩
    obtain ⟨bk, off, ec, rfl, hec, hed⟩ := (hes.mono hle).get he
    obtain ⟨eq, ecap, rfl, -⟩ := hed.cells
    (repeat (first | (refine cL ?_; first | (refine cL_load ?_; refine L_val (R_loadA rfl rfl fun j v hj => hAr.hcell (hec j v hj)) rfl rfl rfl ?_) | (refine cL_lss ?_; refine L_valB (R_ltI rfl rfl) hb rfl rfl rfl ?_) | (refine cL_indexAddr ?_; refine L_valE (R_ia rfl rfl (by omega) (by omega)) (ia6 _ _ _) rfl rfl rfl ?_)) | refine r141 ?_))
    refine L_allocS rfl rfl fun b10 w3 hn3 => ?_
    refine L_storeA rfl hn3.here rfl rfl rfl rfl rfl rfl fun w4 h4 e4 s4 => ?_
    have hn4 := hn3.store h4 e4 s4
    obtain ⟨H4, g4, hb10⟩ := Grow.ofNew hAr hn4
    have st4 := st.grow g4
    have hle4 := Hp.le_trans hle g4.le
    have hAg : ∀ w', Ext No w4 w' → Agree H4 w' := fun _ he => g4.ag.ext0 he
    have h5r := st4.h5
    have hem := List.mem_of_getElem? he
    have hesz := Ty.size_mem hem
    (refine r140 ?_)
    (refine G_drawX No (.op 0 (.op 1 (.op 2 (.op 3 (.op 4 (.op 5 (.op 6 (.op 7 (.op 8 (.op 9 .nil)))))))))) [(5, 1), (6, 1), (7, 2), (8, 3), (9, 2)] follows (by kernel_rfl) ?_)
    (repeat (first | (refine cX_load ?_; first | refine X_val0 (fun w he => R_loadB rfl (he.heap (fun x => x) h5r) rfl) rfl rfl ?_ | refine X_val0 (fun w he => R_loadAB rfl rfl ((hAg w he) _ _ hb10)) rfl rfl ?_) | refine r142 hAg ?_))
    refine X_call (fun w' he' => ih e hem _ H4 w' (hAg w' he') (DTy.mono g4.le _ _ hed) (hl.mono hle4) (parB_part hsh hem) (by omega)) rfl fun w5 r w6 he5 ⟨cs6, H6, hr, g6, hd6⟩ => ⟨g6.ext, ?_⟩
    subst hr
    have st6 := (st4.quiet he5).grow g6
    obtain ⟨t', ht'e⟩ : ∃ t', applyT l e = t' := ⟨_, rfl⟩
    rw [ht'e] at hd6
    obtain ⟨q6, c6, hcs6, -⟩ := hd6.cells
    have hd7 := hd6
    rw [hcs6] at hd7
    subst hcs6
    refine X_make rfl rfl fun w7 he7 => ⟨_, _, R_buildSlice (vs := [.agg (tyCells t'.k t'.n t'.c t'.b (.slice q6 t'.es.length c6) t'.nm).toArray]) rfl rfl rfl rfl, Ext.alloc w7 _, ?_⟩
    have hn8 := newB_alloc w7 (Ob (flat [.agg (tyCells t'.k t'.n t'.c t'.b (.slice q6 t'.es.length c6) t'.nm).toArray]) 26)
    have st8 := (st6.quiet he7).quiet hn8.ext
    obtain ⟨cs8, hown8, hrow8⟩ := st8.own
    refine X_pushN (v := va) (n := ts.length) (xs := cs8) (us := tyCells t'.k t'.n t'.c t'.b (.slice q6 t'.es.length c6) t'.nm) rfl (fun w' he' => hown8.ext he' (fun _ _ h => h)) rfl (fun w' he' => he'.heap (fun x => x) hn8.here) rfl (show 0 < 6 by omega) rfl (show (ts.length + 1) * 72 ≤ 140737488355328 by omega) (by simp only [maxLen]; omega) rfl fun w9 va' w10 he9 hpu => ?_
    have st9 := st8.quiet he9
    have h510 := hpu.ext.heap (fun hx => (st9.ob b8 hx.symm).2.2.2 rfl) st9.h5
    obtain ⟨q7, c7, hva'⟩ := hpu.slice
    subst hva'
    (refine r143 hAg ?_)
    refine X_store rfl (fun w' he' => he'.heap (fun x => x) h510) rfl rfl rfl fun w11 w12 he11 h12 e12 s12 => ?_
    refine X_nil fun w13 he13 => ?_
    have st12 := (st9.push hrow8 hd7 hpu h12 e12 he11).quiet he13
    (repeat (first | (refine cL ?_; first | (refine cL_add ?_; refine L_valE (R_addI rfl rfl) (succ_i64 h (by omega)) rfl rfl rfl ?_)) | refine r141 ?_))
    have hl1 : (ts ++ [t']).length = ts.length + 1 := by simp
    refine G_inv ⟨⟨rfl, _, ts ++ [t'], _, H6, with_self (by rw [hl1]; exact ⟨rfl, rfl, rfl, rfl, rfl, rfl, rfl, trivial⟩), by omega, st12, ?_⟩, ?_⟩
    · rw [hl1, applyL_snoc he, ht'e, ← hts]
    · show ((x.es.length : Int) - ((ts.length + 1 : Nat) : Int)).toNat < ((x.es.length : Int) - (ts.length : Int)).toNat
      omega
  · have hb : decide ((ts.length : Int) < (x.es.length : Int)) = false := decide_eq_false (by omega)
    have htl : ts.length = x.es.length := by omega
    have h55 := st.h5
    obtain ⟨qv, cv, hva⟩ := st.sl
    subst hva
    (repeat (first | (refine cL ?_; first | (refine cL_load ?_; refine L_val (R_loadAB rfl rfl h55) rfl rfl rfl ?_) | (refine cL_lss ?_; refine L_valB (R_ltI rfl rfl) hb rfl rfl rfl ?_)) | refine G_exit rfl ?_ | refine r141 ?_))
    refine L_storeA (vs := tyCells x.k x.n x.c x.b (.slice qv ts.length cv) x.nm) rfl st.h4 rfl rfl rfl rfl rfl rfl fun w9 h9 e9 s9 => ?_
    (refine r140 ?_)
    refine G_retC rfl rfl h9 rfl ?_
    obtain ⟨H9, g9, hd9⟩ := st.done e9 hik hin hic (by omega)
    rw [htl, List.take_length] at hts
    refine ⟨_, rfl, _, H9, rfl, g1.trans g9, ?_⟩
    rw [hap, ← hts]
    exact hd9

theorem applied_par {l : List Ty} {q : Option Addr} {qc : Nat} {t : Ty} {cs : List Value} {H : Hp} (w : World) (hA : Agree H w) (hx : DTy H t cs) (hl : DSl H l q) (hsh : parB l.length t = true) (hsz : Ty.size t ≤ 1000) :
    Calls Tryz.prog 10 #[.agg cs.toArray, .slice q l.length qc] w (Ret (AppSays H w l t)) := by
  obtain ⟨p', cap, rfl, -⟩ := hx.cells
  (refine calls_enter Tryz.func10 Tryz.ntmps10 rfl rfl ?_)
  (refine r78 ?_)
  refine L_box rfl rfl rfl fun b2 w1 hn1 => ?_
  obtain ⟨H1, g1, hb2⟩ := Grow.ofNew hA hn1
  have hA1 := g1.ag
  refine L_allocS rfl rfl fun b4 w2 hn2 => ?_
  have hA2 := hA1.ext0 hn2.ext
  (repeat (first | (refine cL ?_; first | (refine cL_load ?_; refine L_val (R_loadAB rfl rfl (hA2 _ _ hb2)) rfl rfl rfl ?_)) | refine r144 ?_))
  refine L_callR (replaced_any t _ H1 w2 hA2 (DTy.mono g1.le _ _ hx) (hl.mono g1.le) hsh hsz) rfl rfl fun r w3 ⟨cs3, H3, hr, g3, hd3⟩ => ?_
  subst hr
  obtain ⟨t', ht'⟩ : ∃ t', applyT l t = t' := ⟨_, rfl⟩
  rw [ht'] at hd3
  obtain ⟨q3, c3, hcs3, -⟩ := hd3.cells
  have hd4 := hd3
  rw [hcs3] at hd4
  subst hcs3
  refine L_storeA (vs := tyCells t'.k t'.n t'.c t'.b (.slice q3 t'.es.length c3) t'.nm) rfl (g3.ext.heap (fun x => x) hn2.here) rfl rfl rfl rfl rfl rfl fun w4 h4 e4 s4 => ?_
  (refine r78 ?_)
  refine G_retC rfl rfl h4 rfl ?_
  exact ⟨_, rfl, _, H3, rfl, g1.trans (Grow.around hn2 g3 hA1 e4), by rw [ht']; exact hd4⟩

theorem applied_any {ds : List (Int × Ty)} {l : List Ty} {q : Option Addr} {qc : Nat} {t : Ty} {cs : List Value} {H : Hp} (w : World) (hA : Agree H w) (hx : DTy H t cs) (hl : DSl H l q) (hsh : shapedB ds (l.length : Int) 0 t = true) (hsz : Ty.size t ≤ 1000) :
    Calls Tryz.prog 10 #[.agg cs.toArray, .slice q l.length qc] w (Ret (AppSays H w l t)) :=
  applied_par w hA hx hl (parB_shaped t hsh) hsz
end Go.Proofs.YtjilnjifegeceaaGreatDoor

/-
  'works': a type parameter and a basic type unify; a number's remainder.
-/
namespace Go.Proofs.YtjilnjifegeceaaGreatDoor
set_option maxRecDepth 100000
set_option maxHeartbeats 4000000
attribute [local irreducible] Calls execOp

theorem r145 {G G' : Prop} (k : G') (h : Hid G' → G := by intro k_; (first | (refine cL ?_; first | (refine cL_guard ?_; refine L_unwanted rfl rfl rfl ?_) | (refine cL_move ?_; refine L_val R_move rfl rfl rfl ?_) | (refine cL_load ?_; first | refine L_val (R_loadB rfl (by assumption) (by rfl)) rfl rfl rfl ?_ | refine L_val (R_loadH (by assumption) rfl (by assumption) (by rfl)) rfl rfl rfl ?_) | (refine cL_fieldAddr ?_; refine L_val (R_fa rfl) rfl rfl rfl ?_) | (refine cL_assign ?_; refine L_val R_assign rfl rfl rfl ?_) | (refine cL_extract ?_; refine L_val (R_extract rfl rfl) rfl rfl rfl ?_) | (refine cL_call ?_; refine L_val (R_len rfl) rfl rfl rfl ?_) | (refine cL_pick ?_; first | refine L_val (R_pickT rfl) rfl rfl rfl ?_ | refine L_val (R_pickF rfl) rfl rfl rfl ?_) | (refine cL_eql ?_; first | refine L_val (R_eqPN rfl rfl) rfl rfl rfl ?_ | refine L_val (R_eqI rfl rfl) rfl rfl rfl ?_ | refine L_val (R_eqB rfl rfl) rfl rfl rfl ?_ | refine L_val (R_eqIfN rfl rfl) rfl rfl rfl ?_ | refine L_val (R_eqIfNN rfl) rfl rfl rfl ?_) | refine L_nil ?_) | refine G_seq ?_ | refine G_region ?_ | refine G_skip ?_ | refine G_block ?_ | refine G_end ?_ | refine G_true rfl ?_ | refine G_false rfl ?_); exact k_.out) : G := h ⟨k⟩
theorem r146 {G G' : Prop} (k : G') (h : Hid G' → G := by intro k_; (repeat (first | (refine cL ?_; first | (refine cL_guard ?_; refine L_unwanted rfl rfl rfl ?_) | (refine cL_move ?_; refine L_val R_move rfl rfl rfl ?_) | (refine cL_load ?_; first | refine L_val (R_loadB rfl (by assumption) (by rfl)) rfl rfl rfl ?_ | refine L_val (R_loadH (by assumption) rfl (by assumption) (by rfl)) rfl rfl rfl ?_) | (refine cL_fieldAddr ?_; refine L_val (R_fa rfl) rfl rfl rfl ?_) | (refine cL_assign ?_; refine L_val R_assign rfl rfl rfl ?_) | (refine cL_extract ?_; refine L_val (R_extract rfl rfl) rfl rfl rfl ?_) | (refine cL_call ?_; refine L_val (R_len rfl) rfl rfl rfl ?_) | (refine cL_pick ?_; first | refine L_val (R_pickT rfl) rfl rfl rfl ?_ | refine L_val (R_pickF rfl) rfl rfl rfl ?_) | (refine cL_eql ?_; first | refine L_val (R_eqPN rfl rfl) rfl rfl rfl ?_ | refine L_val (R_eqI rfl rfl) rfl rfl rfl ?_ | refine L_val (R_eqB rfl rfl) rfl rfl rfl ?_ | refine L_val (R_eqIfN rfl rfl) rfl rfl rfl ?_ | refine L_val (R_eqIfNN rfl) rfl rfl rfl ?_) | refine L_nil ?_) | refine G_seq ?_ | refine G_region ?_ | refine G_skip ?_ | refine G_block ?_ | refine G_end ?_ | refine G_true rfl ?_ | refine G_false rfl ?_)); exact k_.out) : G := h ⟨k⟩
theorem r147 {G G' A : Prop} (ag : A) (k : G') (h : Hid G' → A → G := by intro k_ ag_; (first | (refine cD_guard ?_; refine D_unwanted rfl rfl ?_) | (refine cD_move ?_; refine D_val0 (fun _ _ => R_move) rfl rfl ?_) | (refine cD_load ?_; refine D_val0 (fun w he => R_loadH (ag_ w he) rfl (by assumption) (by rfl)) rfl rfl ?_) | (refine cD_fieldAddr ?_; refine D_val0 (fun _ _ => R_fa rfl) rfl rfl ?_) | (refine cD_assign ?_; refine D_val0 (fun _ _ => R_assign) rfl rfl ?_) | (refine cD_extract ?_; refine D_val0 (fun _ _ => R_extract rfl rfl) rfl rfl ?_) | (refine cD_call ?_; refine D_val0 (fun _ _ => R_len rfl) rfl rfl ?_) | (refine cD_pick ?_; first | refine D_val0 (fun _ _ => R_pickT rfl) rfl rfl ?_ | refine D_val0 (fun _ _ => R_pickF rfl) rfl rfl ?_) | (refine cD_eql ?_; first | refine D_val0 (fun _ _ => R_eqPN rfl rfl) rfl rfl ?_ | refine D_val0 (fun _ _ => R_eqI rfl rfl) rfl rfl ?_ | refine D_val0 (fun _ _ => R_eqB rfl rfl) rfl rfl ?_ | refine D_val0 (fun _ _ => R_eqIfN rfl rfl) rfl rfl ?_ | refine D_val0 (fun _ _ => R_eqIfNN rfl) rfl rfl ?_)); exact k_.out) : G := h ⟨k⟩ ag

theorem place_gen {n k : Int} (w : World) (h0 : 0 < k) (h1 : k ≤ 1000000) : Calls Tryz.prog 13 #[.int .i64 n, .int .i64 k] w (Ret fun v w' => ∃ m, v = .int .i64 m ∧ 0 ≤ m ∧ m < k ∧ w' = w) := by
  have g1 : -k < n.tmod k := Int.lt_tmod_of_pos n h0
  have g2 : n.tmod k < k := Int.tmod_lt_of_pos n h0
  have hw : Value.int .i64 (IntKind.i64.wrap (n.tmod k + k)) = .int .i64 (n.tmod k + k) := by rw [wrap_i64 (by omega) (by omega)]
  have g3 : 0 ≤ (n.tmod k + k).tmod k := Int.tmod_nonneg k (by omega)
  have g4 : (n.tmod k + k).tmod k < k := Int.tmod_lt_of_pos _ h0
  have hk : k ≠ 0 := by omega
  (refine calls_enter Tryz.func13 Tryz.ntmps13 rfl rfl ?_)
  (repeat (first | (refine cL ?_; first | (refine cL_add ?_; refine L_valE (R_addI rfl rfl) hw rfl rfl rfl ?_) | (refine cL_rem ?_; refine L_val (R_remI rfl rfl hk) rfl rfl rfl ?_)) | refine r108 ?_))
  (refine G_retF rfl ?_)
  exact ⟨_, rfl, _, rfl, g3, g4, rfl⟩

/-- an inferred type argument, as a law reads it -/
theorem InfSl.at {H : Hp} {L : List (Option Ty)} {v : Value} {i : Nat} {o : Option Ty} (h : InfSl H L v) (ho : L[i]? = some o) : ∃ g c cs, v = .slice (some ⟨g, 0, none⟩) L.length c ∧ H g = some (Ob cs 35) ∧
    (match o with | none => ∀ (j : Nat) (u : Value), lget zInf j = some u → lget cs (i * 7 + j) = some u | some t => ∃ tc, DTy H t tc ∧ ∀ (j : Nat) (u : Value), lget (Value.bool true :: tc) j = some u → lget cs (i * 7 + j) = some u) := by
  obtain ⟨q, c, cs, rfl, hrow, he⟩ := h
  obtain ⟨c1, h1, h2, h3⟩ := hrow.get ho
  rcases he with rfl | ⟨g, r, rfl, hg⟩
  · simp at ho
  · refine ⟨g, c, cs ++ r, rfl, hg, ?_⟩
    cases o with
    | none =>
      simp only [InfOne] at h1
      subst h1
      exact fun j u hj => h3 j u r hj
    | some t =>
      obtain ⟨tc, rfl, h4⟩ := h1
      exact ⟨tc, h4, fun j u hj => h3 j u r hj⟩

theorem hcells_at {H : Hp} {g i : Nat} {cs tc : List Value} {T : Nat} (hg : H g = some (Ob cs T)) (h : ∀ (j : Nat) (u : Value), lget (Value.bool true :: tc) j = some u → lget cs (i + j) = some u) : HCells H g (i + 1) tc := by
  intro j v hj
  have h1 := h (j + 1) v (by rw [lget_eq] at hj ⊢; simpa using hj)
  refine ⟨_, _, _, hg, ?_⟩
  rw [lget_eq] at h1
  rw [show i + 1 + j = i + (j + 1) by omega]
  simpa using h1

theorem works_any {H : Hp} (w : World) (hA : Agree H w) (hP : Props H) : Calls Tryz.prog 12 #[] w (Ret (Qt (.bool true) w)) := by
  (refine calls_enter Tryz.func12 Tryz.ntmps12 rfl rfl ?_)
  (repeat (first | (refine cL ?_; first | (refine cL_guard ?_; refine L_unwanted rfl rfl rfl ?_) | (refine cL_build ?_; first | refine L_val (R_build (cs := tyCells 2 0 0 false (.slice none 0 0) ⟨#[]⟩) rfl) rfl rfl rfl ?_ | refine L_val (R_build (cs := tyCells 0 1 0 false (.slice none 0 0) ⟨#[]⟩) rfl) rfl rfl rfl ?_)) | refine r145 ?_))
  refine L_allocS rfl rfl fun b1 w1 hn1 => ?_
  refine L_allocS rfl rfl fun b2 w2 hn2 => ?_
  have f1 := hn1.fresh
  have f2 := hn2.fresh
  have z1 := hn1.size
  have h12 := hn2.ext.heap (fun x => x) hn1.here
  refine L_storeA (vs := tyCells 2 0 0 false (.slice none 0 0) ⟨#[]⟩) rfl h12 rfl rfl rfl rfl rfl rfl fun w3 h3 e3 s3 => ?_
  have h23 := e3.heap (by omega) hn2.here
  refine L_storeA (vs := tyCells 0 1 0 false (.slice none 0 0) ⟨#[]⟩) rfl h23 rfl rfl rfl rfl rfl rfl fun w4 h4 e4 s4 => ?_
  have h34 := e4.heap (show b1 ≠ b2 by omega) h3
  have x4 : Ext No w w4 := ((hn1.ext.trans hn2.ext).trans_new e3 fun j hj hm => by omega).trans_new e4 fun j hj hm => by omega
  obtain ⟨H5, g5, -, hb1⟩ := (Grow.quiet hA x4).add h34 (by omega)
  obtain ⟨H6, g6, le6, hb2⟩ := g5.add h4 (by omega)
  have hb1 := le6 _ _ hb1
  have hA6 := g6.ag
  have hP6 := hP.mono g6.le
  have hd1 : DTy H6 (.mk 2 0 0 false ⟨#[]⟩ []) (tyCells 2 0 0 false (.slice none 0 0) ⟨#[]⟩) := DTy.mk (by decide) (by decide) (by decide) (by decide) (.inl rfl)
  have hd2 : DTy H6 (.mk 0 1 0 false ⟨#[]⟩ []) (tyCells 0 1 0 false (.slice none 0 0) ⟨#[]⟩) := DTy.mk (by decide) (by decide) (by decide) (by decide) (.inl rfl)
  have hdd : DDl H6 [] none := fun i d hd => by simp at hd
  have hv : ValidD [] 1 [] := ⟨by decide, by decide, by decide, fun i d hd => by simp at hd, fun t ht => by simp at ht⟩
  have hs1 : shapedB [] 1 0 (.mk 2 0 0 false ⟨#[]⟩ []) = true := by simp [shapedB, shapedLB, headB, head2, head4, head6, head8, elemsL, limitL]
  have hs2 : shapedB [] 1 0 (.mk 0 1 0 false ⟨#[]⟩ []) = true := by simp [shapedB, shapedLB, headB, head2, head4, head6, head8, elemsL, limitL]
  have hok : okT (.mk 0 1 0 false ⟨#[]⟩ []) := by simp only [okT, okTL]; exact ⟨by decide, fun _ => by decide, by decide, trivial⟩
  have hun := implUnify_any (ds := []) (p := none) (dcap := 0) (params := 1) (m := 0) (Φ := InfersΦ 0 (.mk 0 1 0 false ⟨#[]⟩ [])) w4 hA6 hP6 hdd hd1 hd2 hv hs1 hs2 (.inl rfl) fun E H' hle hE hP' hpl hdl =>
    (tells_param (p := 0) (.inl rfl) hE (by omega) hok (by decide) (substT_closed _ hs2) (substT_closed _ hs1)).1
  (repeat (first | (refine cL ?_; first | (refine cL_guard ?_; refine L_unwanted rfl rfl rfl ?_) | (refine cL_load ?_; first | refine L_val (R_loadAB rfl rfl (hA6 _ _ hb1)) rfl rfl rfl ?_ | refine L_val (R_loadAB rfl rfl (hA6 _ _ hb2)) rfl rfl rfl ?_)) | refine r145 ?_))
  refine L_callR hun rfl rfl fun v w7 ⟨vo, r, L', H7, hv7, g7, hsl, hll, hr, t', hget, hid⟩ => ?_
  subst hv7
  subst hr
  obtain ⟨g, c, cs, rfl, hg, tc, htd, hcs⟩ := hsl.at hget
  have hl1 : L'.length = 1 := by omega
  rw [hl1]
  have hb2' := g7.le _ _ hb2
  have hA7 := g7.ag
  have hcb : lget cs 0 = some (.bool true) := hcs 0 _ rfl
  have hcl := hcells_at (i := 0) hg (fun j u hj => by have := hcs j u hj; simpa using this)
  obtain ⟨q, cq, htc, -⟩ := htd.cells
  have htd2 := htd
  rw [htc] at htd2
  subst htc
  have hAg : ∀ w', Ext No w7 w' → Agree H7 w' := fun _ he => hA7.ext0 he
  have hsi := fun w' (he : Ext No w7 w') => hid ▸ specIdent_any t' (.mk 0 1 0 false ⟨#[]⟩ []) _ _ H7 w' (hAg w' he) htd2 (DTy.mono g7.le _ _ hd2)
  (refine r146 ?_)
  (refine G_draw No (0 :: 1 :: 2 :: 3 :: 4 :: 5 :: 6 :: 7 :: 8 :: 9 :: 10 :: 11 :: 12 :: 13 :: 14 :: 15 :: 16 :: 17 :: 18 :: 19 :: 20 :: []) [] follows (by kernel_rfl) rfl ?_)
  (repeat (first | (refine cD_guard ?_; refine D_unwanted rfl rfl ?_) | (refine cD_load ?_; first | refine D_val0 (fun w he => R_loadH (hAg w he) rfl hg hcb) rfl rfl ?_ | refine D_val0 (fun w he => R_loadA (vs := tyCells t'.k t'.n t'.c t'.b (.slice q t'.es.length cq) t'.nm) rfl rfl fun j v hj => (hAg w he).hcell (hcl j v hj)) rfl rfl ?_ | refine D_val0 (fun w he => R_loadAB rfl rfl ((hAg w he) _ _ hb2')) rfl rfl ?_) | (refine cD_call ?_; refine D_callQ (fun w he => hsi w he) rfl ?_) | (refine cD_eql ?_; refine D_valE (fun _ _ => R_eqI rfl rfl) (v' := .bool true) rfl rfl rfl ?_) | (refine cD_indexAddr ?_; refine D_valE (fun _ _ => R_ia rfl rfl (by decide) (by decide)) (show _ = Value.pointer (some ⟨g, 0, none⟩) from rfl) rfl rfl ?_) | refine r147 hAg ?_))
  refine D_nil fun w8 he8 => ?_
  (refine r146 ?_)
  (refine G_retF rfl ?_)
  exact ⟨_, rfl, rfl, g6.ext.trans (g7.ext.trans he8)⟩
end Go.Proofs.YtjilnjifegeceaaGreatDoor

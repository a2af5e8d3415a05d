/-
  A part of the proof that laws.FnFinds returns true at every input: the walk's own rules and the contracts of functions, in build order.
  Its conditions are those of the statement: see the last text.
-/
import Derived.Test.YtjilnjifegeceaaGreatDoorFnFindsPartO

/-
  FnFinds, plain laws: the parts of two types with what stands for them, their number, and what the handles hold.
-/
namespace Go.Proofs.YtjilnjifegeceaaGreatDoor
set_option maxRecDepth 100000
set_option maxHeartbeats 4000000

theorem ident_size : ∀ (t u : Ty), ident t u = true → Ty.size t = Ty.size u := by
  refine Ty.ind fun k n c b nm es ih => ?_
  rintro ⟨k', n', c', b', nm', es'⟩ h
  obtain ⟨-, hl, -, -, -, hL⟩ := ident_iff.1 h
  have h1 := (identL_iff hl).1 hL
  simp only [Ty.size]
  congr 1
  clear h hL
  induction es generalizing es' with
  | nil =>
    cases es' with
    | nil => rfl
    | cons => simp at hl
  | cons e es ih2 =>
    cases es' with
    | nil => simp at hl
    | cons e' es' =>
      simp only [Ty.sizeL]
      rw [ih e List.mem_cons_self e' (h1 0 e e' rfl rfl), ih2 (fun e he => ih e (List.mem_cons_of_mem _ he)) es' (by simpa using hl) (fun i x y hx hy => h1 (i + 1) x y hx hy)]

/-- a list of types with what stands for them, and with each all its parts -/
def Closed (E : Env) (H : Hp) (ds : List (Int × Ty)) (L : List (Ty × Value)) : Prop :=
  ∀ (k n c : Int) (b : Bool) (nm : ByteArray) (es : List Ty) (v : Value), (Ty.mk k n c b nm es, v) ∈ L → shapedB ds (E.params.length : Int) 0 (.mk k n c b nm es) = true ∧ es.length < 1000 ∧
    ∃ vs, RepL E H es vs ∧ Sh E H k n c b (es.map Ty.nm) vs v ∧ ∀ (i : Nat) (e : Ty) (x : Value), es[i]? = some e → vs[i]? = some x → (e, x) ∈ L

section
variable {E : Env} {H : Hp} {ds : List (Int × Ty)}

theorem Closed.append {L L' : List (Ty × Value)} (h : Closed E H ds L) (h' : Closed E H ds L') : Closed E H ds (L ++ L') := by
  intro k n c b nm es v hm
  rcases List.mem_append.1 hm with hm | hm
  · obtain ⟨h1, h2, vs, h3, h4, h5⟩ := h _ _ _ _ _ _ _ hm
    exact ⟨h1, h2, vs, h3, h4, fun i e x he hx => List.mem_append_left _ (h5 i e x he hx)⟩
  · obtain ⟨h1, h2, vs, h3, h4, h5⟩ := h' _ _ _ _ _ _ _ hm
    exact ⟨h1, h2, vs, h3, h4, fun i e x he hx => List.mem_append_right _ (h5 i e x he hx)⟩

theorem Closed.rep {L : List (Ty × Value)} (h : Closed E H ds L) {t : Ty} {v : Value} (hm : (t, v) ∈ L) : Rep E H t v := by
  obtain ⟨k, n, c, b, nm, es⟩ := t
  obtain ⟨-, -, vs, h3, h4, -⟩ := h _ _ _ _ _ _ _ hm
  simp only [Rep]
  exact ⟨vs, h3, h4⟩

theorem closed_ofL : ∀ (es : List Ty) (vs : List Value), (∀ e ∈ es, ∀ v, shapedB ds (E.params.length : Int) 0 e = true → Ty.size e < 1000 → Rep E H e v → ∃ L, Closed E H ds L ∧ (e, v) ∈ L ∧ L.length ≤ Ty.size e ∧ ∀ P : Ty → Prop, (∀ t e, P t → e ∈ t.es → P e) → P e → ∀ q ∈ L, P q.1) → (∀ e ∈ es, shapedB ds (E.params.length : Int) 0 e = true) → Ty.sizeL es < 1000 → RepL E H es vs →
    ∃ L, Closed E H ds L ∧ (∀ (i : Nat) (e : Ty) (x : Value), es[i]? = some e → vs[i]? = some x → (e, x) ∈ L) ∧ L.length ≤ Ty.sizeL es ∧ ∀ P : Ty → Prop, (∀ t e, P t → e ∈ t.es → P e) → (∀ e ∈ es, P e) → ∀ q ∈ L, P q.1
  | [], vs, _, _, _, _ => ⟨[], fun _ _ _ _ _ _ _ h => by simp at h, fun i e x h => by simp at h, by simp, fun P _ _ q h => by simp at h⟩
  | e :: es, vs, ih, hsh, hsz, hr => by
    simp only [RepL] at hr
    obtain ⟨v, vs', rfl, hr1, hr2⟩ := hr
    simp only [Ty.sizeL] at hsz ⊢
    obtain ⟨L1, c1, m1, l1, p1⟩ := ih e List.mem_cons_self v (hsh e List.mem_cons_self) (by omega) hr1
    obtain ⟨L2, c2, m2, l2, p2⟩ := closed_ofL es vs' (fun e he => ih e (List.mem_cons_of_mem _ he)) (fun e he => hsh e (List.mem_cons_of_mem _ he)) (by omega) hr2
    refine ⟨L1 ++ L2, c1.append c2, fun i x y hx hy => ?_, by rw [List.length_append]; omega, fun P hP he q hq => (List.mem_append.1 hq).elim (fun h => p1 P hP (he e List.mem_cons_self) q h) (fun h => p2 P hP (fun e he' => he e (List.mem_cons_of_mem _ he')) q h)⟩
    cases i with
    | zero =>
      simp only [List.getElem?_cons_zero, Option.some.injEq] at hx hy
      subst hx
      subst hy
      exact List.mem_append_left _ m1
    | succ i =>
      simp only [List.getElem?_cons_succ] at hx hy
      exact List.mem_append_right _ (m2 i x y hx hy)

theorem closed_of : ∀ (t : Ty) (v : Value), shapedB ds (E.params.length : Int) 0 t = true → Ty.size t < 1000 → Rep E H t v → ∃ L, Closed E H ds L ∧ (t, v) ∈ L ∧ L.length ≤ Ty.size t ∧ ∀ P : Ty → Prop, (∀ t e, P t → e ∈ t.es → P e) → P t → ∀ q ∈ L, P q.1 := by
  refine Ty.ind fun k n c b nm es ih => ?_
  intro v hsh hsz hr
  have hr0 := hr
  simp only [Rep] at hr
  obtain ⟨vs, hL, hS⟩ := hr
  simp only [Ty.size] at hsz
  obtain ⟨L, c1, m1, l1, p1⟩ := closed_ofL es vs (fun e he v => ih e he v) (fun e he => shaped_part hsh he) (by omega) hL
  have hle := Ty.len_sizeL es
  refine ⟨(.mk k n c b nm es, v) :: L, ?_, List.mem_cons_self, by simp only [List.length_cons, Ty.size]; omega, fun P hP ht q hq => ?_⟩
  rotate_left
  · rcases List.mem_cons.1 hq with rfl | h
    · exact ht
    · exact p1 P hP (fun e he => hP _ e ht he) q h
  intro k2 n2 c2 b2 nm2 es2 v2 hm
  rcases List.mem_cons.1 hm with h | h
  · injection h with h1 h2
    injection h1 with e1 e2 e3 e4 e5 e6
    subst e1 e2 e3 e4 e5 e6 h2
    exact ⟨hsh, by omega, vs, hL, hS, fun i e x he hx => List.mem_cons_of_mem _ (m1 i e x he hx)⟩
  · obtain ⟨h1, h2, vs2, h3, h4, h5⟩ := c1 _ _ _ _ _ _ _ h
    exact ⟨h1, h2, vs2, h3, h4, fun i e x he hx => List.mem_cons_of_mem _ (h5 i e x he hx)⟩
end

theorem filter_le {α : Type} {P Q : α → Bool} (hPQ : ∀ x, P x = true → Q x = true) : ∀ L : List α, (L.filter P).length ≤ (L.filter Q).length
  | [] => Nat.le_refl _
  | x :: L => by
    have h := filter_le hPQ L
    have h1 := hPQ x
    rw [List.filter_cons, List.filter_cons]
    cases hp : P x with
    | true =>
      rw [h1 hp]
      simpa using h
    | false =>
      cases hq : Q x with
      | true =>
        simp
        omega
      | false => simpa using h
theorem filter_one {α : Type} {P Q : α → Bool} (hPQ : ∀ x, P x = true → Q x = true) {a : α} (qa : Q a = true) (pa : P a = false) : ∀ {L : List α}, a ∈ L → (L.filter P).length + 1 ≤ (L.filter Q).length
  | x :: L, h => by
    have hl := filter_le hPQ L
    have h1 := hPQ x
    rw [List.filter_cons, List.filter_cons]
    rcases List.mem_cons.1 h with rfl | h
    · simp [qa, pa]
      omega
    · have ih := filter_one hPQ qa pa h
      cases hp : P x with
      | true =>
        rw [h1 hp]
        simp
        omega
      | false =>
        cases hq : Q x with
        | true =>
          simp
          omega
        | false => simpa using ih
theorem filter_two {α : Type} {P Q : α → Bool} (hPQ : ∀ x, P x = true → Q x = true) {a b : α} (qa : Q a = true) (pa : P a = false) (qb : Q b = true) (pb : P b = false) (hab : a ≠ b) : ∀ {L : List α}, a ∈ L → b ∈ L → (L.filter P).length + 2 ≤ (L.filter Q).length
  | x :: L, ha, hb => by
    have h1 := hPQ x
    rw [List.filter_cons, List.filter_cons]
    rcases List.mem_cons.1 ha with rfl | ha1
    · have hb' := (List.mem_cons.1 hb).resolve_left (Ne.symm hab)
      have := filter_one hPQ qb pb hb'
      simp [qa, pa]
      omega
    · rcases List.mem_cons.1 hb with rfl | hb1
      · have := filter_one hPQ qa pa ha1
        simp [qb, pb]
        omega
      · have ih := filter_two hPQ qa pa qb pb hab ha1 hb1
        cases hp : P x with
        | true =>
          rw [h1 hp]
          simp
          omega
        | false =>
          cases hq : Q x with
          | true =>
            simp
            omega
          | false => simpa using ih

/-- how many of them are no larger, the type arguments put in -/
def cnt (args : List Ty) (L : List (Ty × Value)) (N : Nat) : Nat := (L.filter fun p => decide (Ty.size (applyT args p.1) ≤ N)).length

theorem cnt_two {args : List Ty} {L : List (Ty × Value)} {N N' : Nat} (hN : N' < N) {t t' : Ty} {v v' : Value} (ht : (t, v) ∈ L) (ht' : (t', v') ∈ L) (hne : v ≠ v') (h1 : Ty.size (applyT args t) = N) (h2 : Ty.size (applyT args t') = N) : cnt args L N' + 2 ≤ cnt args L N :=
  filter_two (fun x hx => by simp only [decide_eq_true_eq] at hx ⊢; omega) (by simp [h1]) (by simp [h1, hN]) (by simp [h2]) (by simp [h2, hN]) (fun e => hne (congrArg Prod.snd e)) ht ht'

/-- joined type parameters have identical type arguments; what is known of a type parameter is one of the parts, and becomes its type argument -/
structure JI (E : Env) (args : List Ty) (L : List (Ty × Value)) (s : HS) : Prop where
  len : s.hs.length = E.params.length
  same : ∀ (p q h : Nat) (u w : Ty), s.hs[p]? = some h → s.hs[q]? = some h → args[p]? = some u → args[q]? = some w → ident u w = true
  val : ∀ (p h : Nat) (u : Ty), s.hs[p]? = some h → args[p]? = some u → s.val h = .nilIface ∨ ∃ t, (t, s.val h) ∈ L ∧ t.k ≠ 2 ∧ ident (applyT args t) u = true

theorem JI.put {E : Env} {args : List Ty} {L : List (Ty × Value)} {s : HS} (hs : JI E args L s) {p h : Nat} {u t : Ty} {v : Value} (hh : s.hs[p]? = some h) (hu : args[p]? = some u) (hv : (t, v) ∈ L) (hk : t.k ≠ 2) (hid : ident (applyT args t) u = true) : JI E args L (s.put h v) := by
  refine ⟨hs.len, hs.same, fun q g w hg hw => ?_⟩
  have hg' : s.hs[q]? = some g := hg
  by_cases e : g = h
  · subst e
    exact .inr ⟨t, by simpa [HS.put] using hv, hk, ident_trans _ _ _ hid (hs.same p q g u w hh hg' hu hw)⟩
  · simpa [HS.put, e] using hs.val q g w hg' hw

theorem JI.swap {E : Env} {args : List Ty} {L : List (Ty × Value)} {s : HS} (hs : JI E args L s) {p q h h' : Nat} {u w : Ty} (hp : s.hs[p]? = some h) (hq : s.hs[q]? = some h') (hu : args[p]? = some u) (hw : args[q]? = some w) (hid : ident u w = true) : JI E args L (s.swap h h') := by
  have hback : ∀ (i g : Nat), (s.swap h h').hs[i]? = some g → (s.hs[i]? = some h ∧ g = h') ∨ (s.hs[i]? = some g) := by
    intro i g hg
    simp only [HS.swap, List.getElem?_map, Option.map_eq_some_iff] at hg
    obtain ⟨x, hx, hxg⟩ := hg
    by_cases e : x = h
    · rw [if_pos e] at hxg
      exact .inl ⟨e ▸ hx, hxg.symm⟩
    · rw [if_neg e] at hxg
      exact .inr (hxg ▸ hx)
  refine ⟨by simp [HS.swap, hs.len], fun i j g a b hi hj ha hb => ?_, fun i g a hi ha => ?_⟩
  · rcases hback i g hi with ⟨h1, rfl⟩ | h1 <;> rcases hback j _ hj with ⟨h2, h3⟩ | h2
    · exact hs.same i j h a b h1 h2 ha hb
    · exact ident_trans _ _ _ (hs.same i p h a u h1 hp ha hu) (ident_trans _ _ _ hid (hs.same q j _ w b hq h2 hw hb))
    · subst h3
      exact ident_trans _ _ _ (hs.same i q _ a w h1 hq ha hw) (ident_trans _ _ _ (ident_symm _ _ hid) (hs.same p j h u b hp h2 hu hb))
    · exact hs.same i j g a b h1 h2 ha hb
  · show s.val g = .nilIface ∨ ∃ t, (t, s.val g) ∈ L ∧ t.k ≠ 2 ∧ ident (applyT args t) a = true
    rcases hback i g hi with ⟨h1, rfl⟩ | h1
    · rcases hs.val q _ w hq hw with h2 | ⟨t, h2, h3, h4⟩
      · exact .inl h2
      · exact .inr ⟨t, h2, h3, ident_trans _ _ _ h4 (ident_trans _ _ _ (ident_symm _ _ hid) (hs.same p i h u a hp h1 hu ha))⟩
    · exact hs.val i g a h1 ha
end Go.Proofs.YtjilnjifegeceaaGreatDoor

/-
  The unifier's 'nify', exactly, on types that become identical when types without type parameters are put in the place of their type parameters: they unify.
-/
namespace Go.Proofs.YtjilnjifegeceaaGreatDoor
set_option maxRecDepth 100000
set_option maxHeartbeats 4000000

theorem nf_self {σ : Type} {E : Env} {C : UC σ} {s : σ} {d : Nat} {m k n c : Int} {b : Bool} {nms : List ByteArray} {vs : List Value} {v : Value} (hE : EnvOK E C.H) (hS : Sh E C.H k n c b nms vs v) (hd : d + 1 ≤ 50) {Q : Bool → σ → Prop} (hq : Q true s) : Nf C m v v d s Q := by
  obtain ⟨_, _, hv, hl⟩ := hS.live hE
  cases hS <;>
  · injection hv with _ hv
    have := ptr_inj hv
    subst this
    exact nf_eq hd (.inr ⟨_, rfl, hl⟩) (.inr ⟨_, rfl, hl⟩) (by rw [peq_self]; rfl) hq

theorem nf_knownS {E : Env} {H : Hp} {u hm : Nat} {M : Nat → Prop} {hu : M u} {hH : ∀ b o, H b = some o → ¬ M b} {s : HS} {d i a h Tv av : Nat} {k n c : Int} {b : Bool} {nms : List ByteArray} {vs : List Value} {v : Value} (hd : d + 1 ≤ 50) (hE : EnvOK E H) (ha : E.params[i]? = some a) (hh : s.hs[i]? = some h) (hval : s.val h = .iface Tv (ptr av)) (hni : NoIfc H (.iface Tv (ptr av))) (hS : Sh E H k n c b nms vs v) (hk : k ≠ 2) {Q : Bool → HS → Prop}
    (ih : Nf (mkUC H E.params u hm M hu hH) 2 (.iface Tv (ptr av)) v (d + 1) s Q) :
    Nf (mkUC H E.params u hm M hu hH) 2 (.iface 72 (ptr a)) v d s Q ∧ Nf (mkUC H E.params u hm M hu hH) 2 v (.iface 72 (ptr a)) d s Q := by
  have hni2 := noIfc hS hk
  obtain ⟨_, _, hvv, hl⟩ := hS.live hE
  cases hS with
  | param => exact absurd rfl hk
  | named =>
    injection hvv with _ hvv
    have := ptr_inj hvv
    subst this
    exact ⟨nf_knownN hd (fun a ha => hE.pl a ha) hE.pn ha hh hval hl hni hni2 ih, nf_knownNB hd (fun a ha => hE.pl a ha) hE.pn ha hh hval hl hni hni2 ih⟩
  | inst =>
    injection hvv with _ hvv
    have := ptr_inj hvv
    subst this
    exact ⟨nf_knownN hd (fun a ha => hE.pl a ha) hE.pn ha hh hval hl hni hni2 ih, nf_knownNB hd (fun a ha => hE.pl a ha) hE.pn ha hh hval hl hni hni2 ih⟩
  | _ =>
    injection hvv with _ hvv
    have := ptr_inj hvv
    subst this
    exact ⟨nf_known rfl rfl rfl hd (fun a ha => hE.pl a ha) hE.pn ha hh hval hl hni hni2 ih, nf_knownB rfl rfl rfl hd (fun a ha => hE.pl a ha) hE.pn ha hh hval hl hni hni2 ih⟩

/-- what a type parameter is in memory, and what its type argument is -/
theorem param_at {E : Env} {H : Hp} {ds : List (Int × Ty)} {args : List Ty} {L : List (Ty × Value)} {s : HS} (hn : args.length = E.params.length) (hC : Closed E H ds L) (hs : JI E args L s) {n c : Int} {b : Bool} {nm : ByteArray} {es : List Ty} {v : Value} (hm : (Ty.mk 2 n c b nm es, v) ∈ L) :
    ∃ (p a h : Nat) (w : Ty), E.params[p]? = some a ∧ s.hs[p]? = some h ∧ args[p]? = some w ∧ v = .iface 72 (ptr a) ∧ applyT args (.mk 2 n c b nm es) = w.setNm nm := by
  obtain ⟨hsh, -, vs, -, hS, -⟩ := hC _ _ _ _ _ _ _ hm
  obtain ⟨h0, h1, rfl⟩ := headB_param (shaped_head hsh) (by omega)
  obtain ⟨p, rfl⟩ := Int.eq_ofNat_of_zero_le h0
  have h1' : (p : Int) < (E.params.length : Int) := h1
  obtain ⟨w, hw⟩ : ∃ w, args[p]? = some w := ⟨_, List.getElem?_eq_getElem (by omega)⟩
  obtain ⟨h, hh⟩ : ∃ h, s.hs[p]? = some h := ⟨_, List.getElem?_eq_getElem (by have := hs.len; omega)⟩
  have hap : applyT args (.mk 2 (p : Int) c b nm []) = w.setNm nm := by
    unfold applyT
    simp [hw]
  cases hS with
  | param hp hp0 => exact ⟨p, _, h, w, by simpa using hp, hh, hw, rfl, hap⟩

def FQ (E : Env) (args : List Ty) (L : List (Ty × Value)) (r : Bool) (s : HS) : Prop := r = true ∧ JI E args L s

theorem nify_finds {E : Env} {H : Hp} {ds : List (Int × Ty)} {args : List Ty} {L : List (Ty × Value)} {u hm : Nat} {M : Nat → Prop} {hu : M u} {hH : ∀ b o, H b = some o → ¬ M b} (hE : EnvOK E H) (hP : Props H) (hn : args.length = E.params.length) (hC : Closed E H ds L) :
    ∀ (N : Nat) (tx ty : Ty) (s : HS) (d : Nat) (vx vy : Value), Ty.size (applyT args tx) = N → (tx, vx) ∈ L → (ty, vy) ∈ L → JI E args L s → ident (applyT args tx) (applyT args ty) = true → 2 * d + 3 * cnt args L N + 4 ≤ 100 →
      Nf (mkUC H E.params u hm M hu hH) 2 vx vy d s (FQ E args L) := by
  have m2 : Md 2 2 := by simp [Md]
  intro N
  induction N using Nat.strongRecOn with
  | ind N ih =>
  have solid : ∀ (tx ty : Ty) (s : HS) (d : Nat) (vx vy : Value), Ty.size (applyT args tx) = N → (tx, vx) ∈ L → (ty, vy) ∈ L → tx.k ≠ 2 → ty.k ≠ 2 → JI E args L s → ident (applyT args tx) (applyT args ty) = true → 2 * d + 3 * cnt args L N + 2 ≤ 100 →
      Nf (mkUC H E.params u hm M hu hH) 2 vx vy d s (FQ E args L) := by
    rintro ⟨k, n, c, b, nm, es⟩ ⟨k', n', c', b', nm', es'⟩ s d vx vy hN hx hy hk hk' hs hid hd
    change k ≠ 2 at hk
    change k' ≠ 2 at hk'
    obtain ⟨-, hlx, vs, hL, hS, hch⟩ := hC _ _ _ _ _ _ _ hx
    obtain ⟨-, hly, vs', hL', hS', hch'⟩ := hC _ _ _ _ _ _ _ hy
    have hl := hL.length
    have hl' := hL'.length
    by_cases hvv : vx = vy
    · subst hvv
      exact nf_self hE hS (by omega) ⟨rfl, hs⟩
    · have hN2 : Ty.size (applyT args (.mk k' n' c' b' nm' es')) = N := (ident_size _ _ hid).symm.trans hN
      have hcnt : ∀ N', N' < N → cnt args L N' + 2 ≤ cnt args L N := fun N' h => cnt_two h hx hy hvv hN hN2
      have hax : applyT args (.mk k n c b nm es) = .mk k n c b nm (applyL args es) := by
        unfold applyT
        rw [if_neg hk]
      have hay : applyT args (.mk k' n' c' b' nm' es') = .mk k' n' c' b' nm' (applyL args es') := by
        unfold applyT
        rw [if_neg hk']
      rw [hax] at hN
      rw [hax, hay] at hid
      obtain ⟨rfl, hlen, hnm, hcb, hnn, hL2⟩ := ident_iff.1 hid
      have hpair := (identL_iff hlen).1 hL2
      have hnames := fun h9 => (namesEq_iff hlen).1 (hnm h9)
      rw [applyL_len, applyL_len] at hlen
      simp only [Ty.size] at hN
      have h2 := hcnt 0 (by omega)
      refine nf_alike m2 hE hP hS hS' ⟨by omega, fun h => hnn (by omega) (by omega) (by omega), hcb, fun h9 i x y hx' hy' => ?_⟩ (by omega) (by omega) (fun e => absurd e hvv) (pre := fun _ s' => JI E args L s') hs (fun s' h => ⟨rfl, h⟩) (fun _ _ _ _ _ h => h) ?_
      · rw [List.getElem?_map, Option.map_eq_some_iff] at hx' hy'
        obtain ⟨e, he, rfl⟩ := hx'
        obtain ⟨e', he', rfl⟩ := hy'
        have := hnames h9 i (applyT args e) (applyT args e') (by rw [applyL_get, he]; rfl) (by rw [applyL_get, he']; rfl)
        rwa [applyT_nm, applyT_nm] at this
      · rintro i x x' s' dd mm h3 h4 h5 hdd hmm
        have hmm' : mm = 2 := hmm.elim id id
        subst hmm'
        obtain ⟨e, he, -⟩ := hL.get h3
        obtain ⟨e', he', -⟩ := hL'.get h4
        have g1 : (applyL args es)[i]? = some (applyT args e) := by rw [applyL_get, he]; rfl
        have g2 : (applyL args es')[i]? = some (applyT args e') := by rw [applyL_get, he']; rfl
        have hide := hpair i _ _ g1 g2
        have hsz := Ty.size_mem (List.mem_of_getElem? g1)
        have hse := ident_size _ _ hide
        have hc := hcnt (Ty.size (applyT args e)) (by omega)
        have key : ∀ (r : Bool) (s1 : HS), FQ E args L r s1 → bif r then JI E args L s1 else FQ E args L false s1 := by
          rintro r s1 ⟨rfl, h⟩
          exact h
        exact ⟨(ih _ (by omega) e e' s' dd x x' rfl (hch i e x he h3) (hch' i e' x' he' h4) h5 hide (by omega)).mono key, (ih _ (by omega) e' e s' dd x' x rfl (hch' i e' x' he' h4) (hch i e x he h3) h5 (ident_symm _ _ hide) (by rw [← hse]; omega)).mono key⟩
  rintro ⟨k, n, c, b, nm, es⟩ ⟨k', n', c', b', nm', es'⟩ s d vx vy hN hx hy hs hid hd
  have hd1 : d + 1 ≤ 50 := by omega
  by_cases hk : k = 2
  · subst hk
    obtain ⟨p, a, h, w, ha, hh, hw, rfl, hap⟩ := param_at hn hC hs hx
    rw [hap] at hid hN
    rw [ident_setNm] at hid
    rw [setNm_size] at hN
    by_cases hk' : k' = 2
    · subst hk'
      obtain ⟨p', a', h', w', ha', hh', hw', rfl, hap'⟩ := param_at hn hC hs hy
      rw [hap', ident_setNm'] at hid
      by_cases hpp : p = p'
      · subst hpp
        rw [ha] at ha'
        injection ha' with ha'
        subst ha'
        obtain ⟨-, -, vs, -, hS, -⟩ := hC _ _ _ _ _ _ _ hx
        exact nf_self hE hS hd1 ⟨rfl, hs⟩
      · have hal := fun a ha => hE.pl a ha
        by_cases hq : h = h'
        · subst hq
          exact nf_join hd1 hal hE.pn ha ha' hpp hh hh' ⟨rfl, hs⟩ fun w0 hw0 => join_same hw0 hal hE.pn ha' ha hh' hh
        · rcases hs.val p' h' w' hh' hw' with hnil' | ⟨t', ht', hkt', hit'⟩
          · exact nf_join hd1 hal hE.pn ha ha' hpp hh hh' (s' := s.swap h' h) ⟨rfl, hs.swap hh' hh hw' hw (ident_symm _ _ hid)⟩ fun w0 hw0 => join_y hw0 hal hE.pn ha' ha hh' hh (Ne.symm hq) hnil'
          · obtain ⟨T', x', hv'⟩ := (hC.rep ht').iface
            rcases hs.val p h w hh hw with hnil | ⟨t, ht, hkt, hit⟩
            · exact nf_join hd1 hal hE.pn ha ha' hpp hh hh' (s' := s.swap h h') ⟨rfl, hs.swap hh hh' hw hw' hid⟩ fun w0 hw0 => join_x hw0 hal hE.pn ha' ha hh' hh (Ne.symm hq) hv' hnil
            · obtain ⟨T, x, hv⟩ := (hC.rep ht).iface
              have h1 := ident_trans _ _ _ hit' (ident_trans _ _ _ (ident_symm _ _ hid) (ident_symm _ _ hit))
              have hs1 := ident_size _ _ hit'
              have hs2 := ident_size _ _ hid
              have := solid t' t s (d + 1) _ _ (by omega) ht' ht hkt' hkt hs h1 (by omega)
              rw [hv, hv'] at this
              exact nf_joinN hd1 hal hE.pn ha ha' hpp hh hh' hq hv hv' this
    · obtain ⟨-, -, vs', -, hS', -⟩ := hC _ _ _ _ _ _ _ hy
      have hsy := ident_size _ _ hid
      rcases hs.val p h w hh hw with hnil | ⟨t, ht, hkt, hit⟩
      · exact (nf_setS m2 hd1 (fun a ha => hE.pl a ha) hE.pn ha hh hnil hS' hE hk' ⟨rfl, hs.put hh hw hy hk' (ident_symm _ _ hid)⟩).1
      · obtain ⟨T, x, hv⟩ := (hC.rep ht).iface
        have hst := ident_size _ _ hit
        have := solid t _ s (d + 1) _ _ (by omega) ht hy hkt hk' hs (ident_trans _ _ _ hit hid) (by omega)
        obtain ⟨kt, nt, ct, bt, nmt, est⟩ := t
        obtain ⟨-, -, vst, -, hSt, -⟩ := hC _ _ _ _ _ _ _ ht
        have hni := noIfc hSt hkt
        rw [hv] at this hni
        exact (nf_knownS hd1 hE ha hh hv hni hS' hk' this).1
  · by_cases hk' : k' = 2
    · subst hk'
      obtain ⟨p', a', h', w', ha', hh', hw', rfl, hap'⟩ := param_at hn hC hs hy
      rw [hap', ident_setNm'] at hid
      obtain ⟨-, -, vs, -, hS, -⟩ := hC _ _ _ _ _ _ _ hx
      have hsy := ident_size _ _ hid
      rcases hs.val p' h' w' hh' hw' with hnil | ⟨t, ht, hkt, hit⟩
      · exact (nf_setS m2 hd1 (fun a ha => hE.pl a ha) hE.pn ha' hh' hnil hS hE hk ⟨rfl, hs.put hh' hw' hx hk hid⟩).2
      · obtain ⟨T, x, hv⟩ := (hC.rep ht).iface
        have hst := ident_size _ _ hit
        have := solid t _ s (d + 1) _ _ (by omega) ht hx hkt hk hs (ident_trans _ _ _ hit (ident_symm _ _ hid)) (by omega)
        obtain ⟨kt, nt, ct, bt, nmt, est⟩ := t
        obtain ⟨-, -, vst, -, hSt, -⟩ := hC _ _ _ _ _ _ _ ht
        have hni := noIfc hSt hkt
        rw [hv] at this hni
        exact (nf_knownS hd1 hE ha' hh' hv hni hS hk this).2
    · exact solid _ _ s d vx vy hN hx hy hk hk' hs hid (by omega)
end Go.Proofs.YtjilnjifegeceaaGreatDoor

/-
  FnFinds: what is inferred.
-/
namespace Go.Proofs.YtjilnjifegeceaaGreatDoor
set_option maxRecDepth 100000
set_option maxHeartbeats 4000000

theorem ident_apply {l : List Ty} : ∀ t u : Ty, ident t u = true → ident (applyT l t) (applyT l u) = true := by
  refine Ty.ind fun k n c b nm es ih => ?_
  rintro ⟨k', n', c', b', nm', es'⟩ h
  have h0 := h
  obtain ⟨rfl, hl, hnm, hcb, hn, hL⟩ := ident_iff.1 h
  by_cases hk : k = 2
  · subst hk
    have e := hn (by omega) (by omega) (by omega)
    subst e
    have e1 : ∀ (c : Int) (b : Bool) (nm : ByteArray) (es : List Ty), applyT l (.mk 2 n c b nm es) = ((l[n.toNat]?).getD (.mk 2 n c b nm es)).setNm nm := fun c b nm es => by
      unfold applyT
      simp
    rw [e1, e1, ident_setNm, ident_setNm']
    cases l[n.toNat]? with
    | none => exact h0
    | some a => exact ident_self a
  · have e1 : ∀ (n c : Int) (b : Bool) (nm : ByteArray) (es : List Ty), applyT l (.mk k n c b nm es) = .mk k n c b nm (applyL l es) := fun n c b nm es => by
      unfold applyT
      rw [if_neg hk]
    rw [e1, e1]
    refine ident_iff.2 ⟨rfl, by rw [applyL_len, applyL_len]; exact hl, fun h9 => ?_, hcb, hn, ?_⟩
    · refine (namesEq_iff (by rw [applyL_len, applyL_len]; exact hl)).2 fun i x y hx hy => ?_
      rw [applyL_get, Option.map_eq_some_iff] at hx hy
      obtain ⟨e, he, rfl⟩ := hx
      obtain ⟨e', he', rfl⟩ := hy
      rw [applyT_nm, applyT_nm]
      exact (namesEq_iff hl).1 (hnm h9) i e e' he he'
    · refine (identL_iff (by rw [applyL_len, applyL_len]; exact hl)).2 fun i x y hx hy => ?_
      rw [applyL_get, Option.map_eq_some_iff] at hx hy
      obtain ⟨e, he, rfl⟩ := hx
      obtain ⟨e', he', rfl⟩ := hy
      exact ih e (List.mem_of_getElem? he) e' ((identL_iff hl).1 hL i e e' he he')

theorem ident_par {m : Nat} : ∀ t u : Ty, ident t u = true → parB m t = true → parB m u = true := by
  refine Ty.ind fun k n c b nm es ih => ?_
  rintro ⟨k', n', c', b', nm', es'⟩ h hp
  obtain ⟨rfl, hl, hnm, hcb, hn, hL⟩ := ident_iff.1 h
  have hp0 := hp
  simp only [parB, Bool.and_eq_true] at hp ⊢
  refine ⟨?_, parBL_all fun e' he' => ?_⟩
  · by_cases hk : k = 2
    · subst hk
      have e := hn (by omega) (by omega) (by omega)
      subst e
      exact hp.1
    · simp [hk]
  · obtain ⟨i, hi⟩ := List.mem_iff_getElem?.1 he'
    have hlt := (List.getElem?_eq_some_iff.1 hi).1
    obtain ⟨e, he⟩ : ∃ e, es[i]? = some e := ⟨_, List.getElem?_eq_getElem (by omega)⟩
    exact ih e (List.mem_of_getElem? he) e' ((identL_iff hl).1 hL i e e' he hi) (parBL_mem hp.2 (List.mem_of_getElem? he))

def FindsΦ (l : List Ty) (r : Bool) (L : List (Option Ty)) : Prop := r = true ∧ ∀ (i : Nat) (t' u : Ty), L[i]? = some (some t') → l[i]? = some u → ident (applyT l t') u = true ∧ parB l.length t' = true ∧ Ty.size t' ≤ 15

theorem tells_finds {E : Env} {H : Hp} {ds : List (Int × Ty)} {l : List Ty} {x y : Ty} (hE : EnvOK E H) (hP : Props H) (hn : l.length = E.params.length) (hsx : shapedB ds (l.length : Int) 0 x = true) (hsy : shapedB ds (l.length : Int) 0 y = true) (hzx : Ty.size x ≤ 15) (hzy : Ty.size y ≤ 15) (hox : okT x) (hoy : okT y) (hid : ident (applyT l x) (applyT l y) = true) :
    NfTells E H x y 0 (FindsΦ l) := by
  intro H' vx vy hle hrx hry
  rw [substT_closed _ hsx] at hrx
  rw [substT_closed _ hsy] at hry
  have hE' := hE.mono hle
  have hP' := hP.mono hle
  rw [hn] at hsx hsy
  obtain ⟨L1, c1, m1, l1, p1⟩ := closed_of x vx hsx (by omega) hrx
  obtain ⟨L2, c2, m2, l2, p2⟩ := closed_of y vy hsy (by omega) hry
  have hC := c1.append c2
  have hPP : ∀ q ∈ L1 ++ L2, okT q.1 ∧ Ty.size q.1 ≤ 15 := fun q hq => by
    have hh : ∀ t e : Ty, (okT t ∧ Ty.size t ≤ 15) → e ∈ t.es → (okT e ∧ Ty.size e ≤ 15) := fun t e ⟨h1, h2⟩ he => by
      obtain ⟨k, n, c, b, nm, es⟩ := t
      simp only [okT] at h1
      simp only [Ty.size] at h2
      have := Ty.size_mem he
      simp only [Ty.es] at this
      exact ⟨h1.2.2.2.mem he, by omega⟩
    rcases List.mem_append.1 hq with h | h
    · exact p1 _ hh ⟨hox, hzx⟩ q h
    · exact p2 _ hh ⟨hoy, hzy⟩ q h
  refine ⟨FQ E l (L1 ++ L2), ?_, ?_⟩
  · intro u hm M hu hH s hsl hsn hs0
    have hJ : JI E l (L1 ++ L2) s := ⟨hsl, fun p q h a w hp hq ha hw => by
      have e := nodup_inj hsn hp hq
      subst e
      rw [ha] at hw
      injection hw with hw
      subst hw
      exact ident_self _, fun p h t hh _ => .inl (hs0 h (List.mem_of_getElem? hh))⟩
    have hcnt : ∀ N, cnt l (L1 ++ L2) N ≤ 30 := fun N => by
      have h1 : cnt l (L1 ++ L2) N ≤ (L1 ++ L2).length := List.length_filter_le _ _
      rw [List.length_append] at h1
      omega
    have h2 := hcnt (Ty.size (applyT l x))
    exact (nify_finds hE' hP' hn hC _ x y s 0 vx vy rfl (List.mem_append_left _ m1) (List.mem_append_right _ m2) hJ hid (by omega)).mono fun _ _ h => h
  · rintro r s ⟨hr, hJ⟩ hsl
    refine ⟨fun h hh => ?_, fun L' hL hbk => ⟨hr, fun i t' u ho hu => ?_⟩⟩
    · obtain ⟨p, hp⟩ := List.mem_iff_getElem?.1 hh
      obtain ⟨u, hu⟩ : ∃ u, l[p]? = some u := ⟨_, List.getElem?_eq_getElem (by have := (List.getElem?_eq_some_iff.1 hp).1; omega)⟩
      rcases hJ.val p h u hp hu with h1 | ⟨t, h1, -, -⟩
      · exact .inl h1
      · exact .inr ⟨t, (hPP _ h1).1, hC.rep h1⟩
    · have hi := (List.getElem?_eq_some_iff.1 ho).1
      obtain ⟨h, hh⟩ : ∃ h, s.hs[i]? = some h := ⟨_, List.getElem?_eq_getElem (by omega)⟩
      rcases hbk i _ h ho hh with ⟨h1, -⟩ | ⟨t2, t, e, -, hr2, hid2⟩
      · cases h1
      · injection e with e
        subst e
        rcases hJ.val i h u hh hu with h1 | ⟨t0, h1, -, hit⟩
        · obtain ⟨T, a, e⟩ := hr2.iface
          rw [h1] at e
          cases e
        · have h2 := ident_trans _ _ _ hid2 (ident_same hE' _ _ _ hr2 (hC.rep h1))
          have hsh : shapedB ds (E.params.length : Int) 0 t0 = true := by
            obtain ⟨k, n, c, b, nm, es⟩ := t0
            exact (hC _ _ _ _ _ _ _ h1).1
          rw [← hn] at hsh
          refine ⟨ident_trans _ _ _ (ident_apply _ _ h2) hit, ident_par _ _ (ident_symm _ _ h2) (parB_shaped _ hsh), ?_⟩
          rw [ident_size _ _ h2]
          exact (hPP _ h1).2
end Go.Proofs.YtjilnjifegeceaaGreatDoor

/-
  FnFinds: the law's own walk.
-/
namespace Go.Proofs.YtjilnjifegeceaaGreatDoor
set_option maxRecDepth 100000
set_option maxHeartbeats 4000000
attribute [local irreducible] Calls execOp

theorem r153 {G G' : Prop} (k : G') (h : Hid G' → G := by intro k_; (repeat (first | (refine cL ?_; first | (refine cL_guard ?_; refine L_unwanted rfl rfl rfl ?_) | (refine cL_move ?_; refine L_val R_move rfl rfl rfl ?_) | (refine cL_load ?_; first | refine L_val (R_loadB rfl (by assumption) (by rfl)) rfl rfl rfl ?_ | refine L_val (R_loadH (by assumption) rfl (by assumption) (by rfl)) rfl rfl rfl ?_) | (refine cL_fieldAddr ?_; refine L_val (R_fa rfl) rfl rfl rfl ?_) | (refine cL_assign ?_; refine L_val R_assign rfl rfl rfl ?_) | (refine cL_extract ?_; refine L_val (R_extract rfl rfl) rfl rfl rfl ?_) | (refine cL_call ?_; refine L_val (R_len rfl) rfl rfl rfl ?_) | (refine cL_pick ?_; first | refine L_val (R_pickT rfl) rfl rfl rfl ?_ | refine L_val (R_pickF rfl) rfl rfl rfl ?_) | (refine cL_neq ?_; first | refine L_val (R_nePN rfl rfl) rfl rfl rfl ?_ | refine L_val (R_neI rfl rfl) rfl rfl rfl ?_ | refine L_val (R_neB rfl rfl) rfl rfl rfl ?_ | refine L_val (R_neIfN rfl rfl) rfl rfl rfl ?_ | refine L_val (R_neIfNN rfl) rfl rfl rfl ?_) | (refine cL_lss ?_; refine L_val (R_ltI rfl rfl) rfl rfl rfl ?_) | (refine cL_not ?_; refine L_val (R_not rfl) rfl rfl rfl ?_) | (refine cL_add ?_; refine L_val (R_addI rfl rfl) rfl rfl rfl ?_) | (refine cL_gtr ?_; refine L_val (R_gtI rfl rfl) rfl rfl rfl ?_) | refine L_nil ?_) | refine G_seq ?_ | refine G_region ?_ | refine G_skip ?_ | refine G_block ?_ | refine G_end ?_ | refine G_true rfl ?_ | refine G_false rfl ?_)); exact k_.out) : G := h ⟨k⟩
theorem r154 {G G' : Prop} (k : G') (h : Hid G' → G := by intro k_; (first | (refine cL ?_; first | (refine cL_guard ?_; refine L_unwanted rfl rfl rfl ?_) | (refine cL_move ?_; refine L_val R_move rfl rfl rfl ?_) | (refine cL_load ?_; first | refine L_val (R_loadB rfl (by assumption) (by rfl)) rfl rfl rfl ?_ | refine L_val (R_loadH (by assumption) rfl (by assumption) (by rfl)) rfl rfl rfl ?_) | (refine cL_fieldAddr ?_; refine L_val (R_fa rfl) rfl rfl rfl ?_) | (refine cL_assign ?_; refine L_val R_assign rfl rfl rfl ?_) | (refine cL_extract ?_; refine L_val (R_extract rfl rfl) rfl rfl rfl ?_) | (refine cL_call ?_; refine L_val (R_len rfl) rfl rfl rfl ?_) | (refine cL_pick ?_; first | refine L_val (R_pickT rfl) rfl rfl rfl ?_ | refine L_val (R_pickF rfl) rfl rfl rfl ?_) | (refine cL_neq ?_; first | refine L_val (R_nePN rfl rfl) rfl rfl rfl ?_ | refine L_val (R_neI rfl rfl) rfl rfl rfl ?_ | refine L_val (R_neB rfl rfl) rfl rfl rfl ?_ | refine L_val (R_neIfN rfl rfl) rfl rfl rfl ?_ | refine L_val (R_neIfNN rfl) rfl rfl rfl ?_) | (refine cL_lss ?_; refine L_val (R_ltI rfl rfl) rfl rfl rfl ?_) | (refine cL_not ?_; refine L_val (R_not rfl) rfl rfl rfl ?_) | (refine cL_add ?_; refine L_val (R_addI rfl rfl) rfl rfl rfl ?_) | (refine cL_gtr ?_; refine L_val (R_gtI rfl rfl) rfl rfl rfl ?_) | refine L_nil ?_) | refine G_seq ?_ | refine G_region ?_ | refine G_skip ?_ | refine G_block ?_ | refine G_end ?_ | refine G_true rfl ?_ | refine G_false rfl ?_); exact k_.out) : G := h ⟨k⟩
theorem r155 {G G' A : Prop} (ag : A) (k : G') (h : Hid G' → A → G := by intro k_ ag_; (first | (refine cX_guard ?_; refine X_unwanted rfl rfl ?_) | (refine cX_move ?_; first | refine X_val0 (fun _ _ => R_move) rfl rfl ?_ | refine X_pure (fun _ => R_move) rfl rfl ?_) | (refine cX_load ?_; refine X_val0 (fun w he => R_loadH (ag_ w he) rfl (by assumption) (by rfl)) rfl rfl ?_) | (refine cX_fieldAddr ?_; first | refine X_val0 (fun _ _ => R_fa rfl) rfl rfl ?_ | refine X_pure (fun _ => R_fa rfl) rfl rfl ?_) | (refine cX_assign ?_; first | refine X_val0 (fun _ _ => R_assign) rfl rfl ?_ | refine X_pure (fun _ => R_assign) rfl rfl ?_) | (refine cX_extract ?_; first | refine X_val0 (fun _ _ => R_extract rfl rfl) rfl rfl ?_ | refine X_pure (fun _ => R_extract rfl rfl) rfl rfl ?_) | (refine cX_call ?_; first | refine X_val0 (fun _ _ => R_len rfl) rfl rfl ?_ | refine X_pure (fun _ => R_len rfl) rfl rfl ?_) | (refine cX_pick ?_; first | refine X_val0 (fun _ _ => R_pickT rfl) rfl rfl ?_ | refine X_pure (fun _ => R_pickT rfl) rfl rfl ?_ | refine X_val0 (fun _ _ => R_pickF rfl) rfl rfl ?_ | refine X_pure (fun _ => R_pickF rfl) rfl rfl ?_) | (refine cX_neq ?_; first | refine X_val0 (fun _ _ => R_nePN rfl rfl) rfl rfl ?_ | refine X_pure (fun _ => R_nePN rfl rfl) rfl rfl ?_ | refine X_val0 (fun _ _ => R_neI rfl rfl) rfl rfl ?_ | refine X_pure (fun _ => R_neI rfl rfl) rfl rfl ?_ | refine X_val0 (fun _ _ => R_neB rfl rfl) rfl rfl ?_ | refine X_pure (fun _ => R_neB rfl rfl) rfl rfl ?_ | refine X_val0 (fun _ _ => R_neIfN rfl rfl) rfl rfl ?_ | refine X_pure (fun _ => R_neIfN rfl rfl) rfl rfl ?_ | refine X_val0 (fun _ _ => R_neIfNN rfl) rfl rfl ?_ | refine X_pure (fun _ => R_neIfNN rfl) rfl rfl ?_) | (refine cX_lss ?_; first | refine X_val0 (fun _ _ => R_ltI rfl rfl) rfl rfl ?_ | refine X_pure (fun _ => R_ltI rfl rfl) rfl rfl ?_) | (refine cX_not ?_; first | refine X_val0 (fun _ _ => R_not rfl) rfl rfl ?_ | refine X_pure (fun _ => R_not rfl) rfl rfl ?_) | (refine cX_add ?_; first | refine X_val0 (fun _ _ => R_addI rfl rfl) rfl rfl ?_ | refine X_pure (fun _ => R_addI rfl rfl) rfl rfl ?_) | (refine cX_gtr ?_; first | refine X_val0 (fun _ _ => R_gtI rfl rfl) rfl rfl ?_ | refine X_pure (fun _ => R_gtI rfl rfl) rfl rfl ?_)); exact k_.out) : G := h ⟨k⟩ ag
theorem r156 {G G' A : Prop} (ag : A) (k : G') (h : Hid G' → A → G := by intro k_ ag_; (repeat (first | (refine cX_guard ?_; refine X_unwanted rfl rfl ?_) | (refine cX_move ?_; first | refine X_val0 (fun _ _ => R_move) rfl rfl ?_ | refine X_pure (fun _ => R_move) rfl rfl ?_) | (refine cX_load ?_; refine X_val0 (fun w he => R_loadH (ag_ w he) rfl (by assumption) (by rfl)) rfl rfl ?_) | (refine cX_fieldAddr ?_; first | refine X_val0 (fun _ _ => R_fa rfl) rfl rfl ?_ | refine X_pure (fun _ => R_fa rfl) rfl rfl ?_) | (refine cX_assign ?_; first | refine X_val0 (fun _ _ => R_assign) rfl rfl ?_ | refine X_pure (fun _ => R_assign) rfl rfl ?_) | (refine cX_extract ?_; first | refine X_val0 (fun _ _ => R_extract rfl rfl) rfl rfl ?_ | refine X_pure (fun _ => R_extract rfl rfl) rfl rfl ?_) | (refine cX_call ?_; first | refine X_val0 (fun _ _ => R_len rfl) rfl rfl ?_ | refine X_pure (fun _ => R_len rfl) rfl rfl ?_) | (refine cX_pick ?_; first | refine X_val0 (fun _ _ => R_pickT rfl) rfl rfl ?_ | refine X_pure (fun _ => R_pickT rfl) rfl rfl ?_ | refine X_val0 (fun _ _ => R_pickF rfl) rfl rfl ?_ | refine X_pure (fun _ => R_pickF rfl) rfl rfl ?_) | (refine cX_neq ?_; first | refine X_val0 (fun _ _ => R_nePN rfl rfl) rfl rfl ?_ | refine X_pure (fun _ => R_nePN rfl rfl) rfl rfl ?_ | refine X_val0 (fun _ _ => R_neI rfl rfl) rfl rfl ?_ | refine X_pure (fun _ => R_neI rfl rfl) rfl rfl ?_ | refine X_val0 (fun _ _ => R_neB rfl rfl) rfl rfl ?_ | refine X_pure (fun _ => R_neB rfl rfl) rfl rfl ?_ | refine X_val0 (fun _ _ => R_neIfN rfl rfl) rfl rfl ?_ | refine X_pure (fun _ => R_neIfN rfl rfl) rfl rfl ?_ | refine X_val0 (fun _ _ => R_neIfNN rfl) rfl rfl ?_ | refine X_pure (fun _ => R_neIfNN rfl) rfl rfl ?_) | (refine cX_lss ?_; first | refine X_val0 (fun _ _ => R_ltI rfl rfl) rfl rfl ?_ | refine X_pure (fun _ => R_ltI rfl rfl) rfl rfl ?_) | (refine cX_not ?_; first | refine X_val0 (fun _ _ => R_not rfl) rfl rfl ?_ | refine X_pure (fun _ => R_not rfl) rfl rfl ?_) | (refine cX_add ?_; first | refine X_val0 (fun _ _ => R_addI rfl rfl) rfl rfl ?_ | refine X_pure (fun _ => R_addI rfl rfl) rfl rfl ?_) | (refine cX_gtr ?_; first | refine X_val0 (fun _ _ => R_gtI rfl rfl) rfl rfl ?_ | refine X_pure (fun _ => R_gtI rfl rfl) rfl rfl ?_))); exact k_.out) : G := h ⟨k⟩ ag

theorem dsl_two {H : Hp} {x y : Ty} {cx cy : List Value} {b : Nat} {T : Nat} (hx : DTy H x cx) (hy : DTy H y cy) (hb : H b = some (Ob (cx ++ cy) T)) : DSl H [x, y] (some ⟨b, 0, none⟩) := by
  obtain ⟨p, cap, rfl, -⟩ := hx.cells
  refine .inr ⟨b, 0, rfl, ⟨_, ?_, hx⟩, ⟨_, ?_, hy⟩, trivial⟩
  · intro j v hj
    refine ⟨_, _, _, hb, ?_⟩
    rw [lget_eq] at hj
    have hlt := (List.getElem?_eq_some_iff.1 hj).1
    simp only [Nat.zero_add, List.getElem?_toArray]
    rw [List.getElem?_append_left hlt]
    exact hj
  · have := hcells_ob (cs := cy) (tyCells x.k x.n x.c x.b (.slice p x.es.length cap) x.nm) hb
    exact this

theorem law_finds {H : Hp} {ds : List (Int × Ty)} {p q : Option Addr} {dcap qc : Nat} {x y : Ty} {cx cy : List Value} {l : List Ty} (w : World) (hA : Agree H w) (hP : Props H) (hd : DDl H ds p) (hx : DTy H x cx) (hy : DTy H y cy) (hl : DSl H l q) (hdc : ds.length ≤ dcap) (hdl : ds.length < 9223372036854775808) :
    Calls Tryz.prog 3 #[.slice p ds.length dcap, .agg cx.toArray, .agg cy.toArray, .slice q l.length qc] w (Ret (Qt (.bool true) w)) := by
  obtain ⟨px, capx, hcx, -⟩ := hx.cells
  obtain ⟨py, capy, hcy, -⟩ := hy.cells
  subst hcx
  subst hcy
  (refine calls_enter Tryz.func3 Tryz.ntmps3 rfl rfl ?_)
  (refine r153 ?_)
  refine L_box rfl rfl rfl fun b5 w1 hn1 => ?_
  refine L_box rfl rfl rfl fun b6 w2 hn2 => ?_
  obtain ⟨H1, g1, hb5⟩ := Grow.ofNew hA hn1
  obtain ⟨H2, g2, hb6⟩ := Grow.ofNew g1.ag hn2
  have hb5 := g2.le _ _ hb5
  have g := g1.trans g2
  have hA2 := g.ag
  have hx2 := DTy.mono g.le _ _ hx
  have hy2 := DTy.mono g.le _ _ hy
  cases c1 : decide ((ds.length : Int) > 2147483647) with
  | true =>
    (repeat (first | (refine cL ?_; first | (refine cL_guard ?_; refine L_unwanted rfl rfl rfl ?_) | (refine cL_gtr ?_; refine L_valB (R_gtI rfl rfl) c1 rfl rfl rfl ?_)) | refine r154 ?_))
    (refine G_retF rfl ?_)
    exact ⟨_, rfl, rfl, g.ext⟩
  | false =>
  have hf1 := fits_any w2 hA2 hx2
  cases c2 : fitsB x with
  | false =>
    rw [c2] at hf1
    (repeat (first | (refine cL ?_; first | (refine cL_guard ?_; refine L_unwanted rfl rfl rfl ?_) | (refine cL_load ?_; refine L_val (R_loadAB rfl rfl (hA2 _ _ hb5)) rfl rfl rfl ?_) | (refine cL_gtr ?_; refine L_valB (R_gtI rfl rfl) c1 rfl rfl rfl ?_)) | refine r154 ?_))
    refine L_callQ hf1 rfl rfl fun w3 hw3 => ?_
    (refine r153 ?_)
    (refine G_retF rfl ?_)
    exact ⟨_, rfl, rfl, g.ext.trans hw3⟩
  | true =>
  rw [c2] at hf1
  (repeat (first | (refine cL ?_; first | (refine cL_guard ?_; refine L_unwanted rfl rfl rfl ?_) | (refine cL_load ?_; refine L_val (R_loadAB rfl rfl (hA2 _ _ hb5)) rfl rfl rfl ?_) | (refine cL_gtr ?_; refine L_valB (R_gtI rfl rfl) c1 rfl rfl rfl ?_)) | refine r154 ?_))
  refine L_callQ hf1 rfl rfl fun w3 hw3 => ?_
  have hA3 := hA2.ext0 hw3
  have hf2 := fits_any w3 hA3 hy2
  cases c3 : fitsB y with
  | false =>
    rw [c3] at hf2
    (repeat (first | (refine cL ?_; first | (refine cL_guard ?_; refine L_unwanted rfl rfl rfl ?_) | (refine cL_load ?_; refine L_val (R_loadAB rfl rfl (hA3 _ _ hb6)) rfl rfl rfl ?_)) | refine r154 ?_))
    refine L_callQ hf2 rfl rfl fun w4 hw4 => ?_
    (refine r153 ?_)
    (refine G_retF rfl ?_)
    exact ⟨_, rfl, rfl, g.ext.trans (hw3.trans hw4)⟩
  | true =>
  rw [c3] at hf2
  (repeat (first | (refine cL ?_; first | (refine cL_guard ?_; refine L_unwanted rfl rfl rfl ?_) | (refine cL_load ?_; refine L_val (R_loadAB rfl rfl (hA3 _ _ hb6)) rfl rfl rfl ?_)) | refine r154 ?_))
  refine L_callQ hf2 rfl rfl fun w4 hw4 => ?_
  have hA4 := hA3.ext0 hw4
  have g4 : Grow H w H2 w4 := g.trans (Grow.quiet hA2 (hw3.trans hw4))
  cases c4 : decide ((l.length : Int) > 2147483647) with
  | true =>
    (repeat (first | (refine cL ?_; first | (refine cL_guard ?_; refine L_unwanted rfl rfl rfl ?_) | (refine cL_gtr ?_; refine L_valB (R_gtI rfl rfl) c4 rfl rfl rfl ?_)) | refine r154 ?_))
    (refine G_retF rfl ?_)
    exact ⟨_, rfl, rfl, g4.ext⟩
  | false =>
  (repeat (first | (refine cL ?_; first | (refine cL_guard ?_; refine L_unwanted rfl rfl rfl ?_) | (refine cL_gtr ?_; refine L_valB (R_gtI rfl rfl) c4 rfl rfl rfl ?_)) | refine r154 ?_))
  (refine G_drawX No (.op 0 (.op 1 (.op 2 (.op 3 (.op 4 (.op 5 (.op 6 (.op 7 (.op 8 (.op 9 (.op 10 (.op 11 (.op 12 (.op 13 (.op 14 (.op 15 (.op 17 (.op 18 (.op 16 (.op 19 (.op 20 (.op 21 (.op 22 .nil))))))))))))))))))))))) [(4, 1), (5, 1), (10, 1), (16, 1), (19, 1)] follows (by kernel_rfl) ?_)
  have hAg4 : ∀ w', Ext No w4 w' → Agree H2 w' := fun _ he => hA4.ext0 he
  (repeat (first | (refine cX_guard ?_; refine X_unwanted rfl rfl ?_) | (refine cX_load ?_; first | refine X_val0 (fun w he => R_loadAB rfl rfl ((hAg4 w he) _ _ hb5)) rfl rfl ?_ | refine X_val0 (fun w he => R_loadAB rfl rfl ((hAg4 w he) _ _ hb6)) rfl rfl ?_) | refine r155 hAg4 ?_))
  refine X_make rfl rfl fun wa hea => ⟨_, _, R_buildSlice (vs := [.agg (tyCells x.k x.n x.c x.b (.slice px x.es.length capx) x.nm).toArray, .agg (tyCells y.k y.n y.c y.b (.slice py y.es.length capy) y.nm).toArray]) rfl rfl rfl rfl, Ext.alloc wa _, ?_⟩
  have hn5 := newB_alloc wa (Ob (flat [.agg (tyCells x.k x.n x.c x.b (.slice px x.es.length capx) x.nm).toArray, .agg (tyCells y.k y.n y.c y.b (.slice py y.es.length capy) y.nm).toArray]) 26)
  obtain ⟨H5, g5, hbs⟩ := Grow.ofNew (hAg4 wa hea) hn5
  have g05 := (g4.trans (Grow.quiet hA4 hea)).trans g5
  have hds := dsl_two (DTy.mono g05.le _ _ hx) (DTy.mono g05.le _ _ hy) hbs
  refine X_call (fun w' he => valid_any (ts := [x, y]) w' (g5.ag.ext0 he) (hd.mono g05.le) hds hdc hdl (by simp)) rfl fun wb v w6 heb ⟨b, hv, x6, hval⟩ => ⟨x6, ?_⟩
  subst hv
  have g06 := g05.trans ((Grow.quiet g5.ag heb).trans (Grow.quiet (g5.ag.ext0 heb) x6))
  have hA6 := g06.ag
  have hAg6 : ∀ w', Ext No w6 w' → Agree H5 w' := fun _ he => hA6.ext0 he
  cases b with
  | false =>
    (refine r156 hAg6 ?_)
    refine X_nil fun w7 he7 => ?_
    (refine r153 ?_)
    (refine G_retF rfl ?_)
    exact ⟨_, rfl, rfl, g06.ext.trans he7⟩
  | true =>
  have hV := hval rfl
  obtain ⟨hsx, hzx⟩ := hV.tt x (by simp)
  obtain ⟨hsy, hzy⟩ := hV.tt y (by simp)
  have hp8 := hV.p8
  (refine r156 hAg6 ?_)
  refine X_call (fun w' he => valid_any (ts := l) w' (hAg6 w' he) (hd.mono g06.le) (hl.mono g06.le) hdc hdl (by omega)) rfl fun wc v w7 hec ⟨b, hv, x7, hval2⟩ => ⟨x7, ?_⟩
  subst hv
  have g07 := g06.trans ((Grow.quiet hA6 hec).trans (Grow.quiet (hAg6 _ hec) x7))
  have hA7 := g07.ag
  have hAg7 : ∀ w', Ext No w7 w' → Agree H5 w' := fun _ he => hA7.ext0 he
  cases b with
  | false =>
    (refine r156 hAg7 ?_)
    refine X_nil fun w8 he8 => ?_
    (refine r153 ?_)
    (refine G_retF rfl ?_)
    exact ⟨_, rfl, rfl, g07.ext.trans he8⟩
  | true =>
  have hb5c := g5.le _ _ hb5
  have hb6c := g5.le _ _ hb6
  (repeat (first | (refine cX_guard ?_; refine X_unwanted rfl rfl ?_) | (refine cX_load ?_; first | refine X_val0 (fun w he => R_loadAB rfl rfl ((hAg7 w he) _ _ hb5c)) rfl rfl ?_ | refine X_val0 (fun w he => R_loadAB rfl rfl ((hAg7 w he) _ _ hb6c)) rfl rfl ?_) | refine r155 hAg7 ?_))
  refine X_call (fun w' he => applied_any w' (hAg7 w' he) (DTy.mono g07.le _ _ hx) (hl.mono g07.le) hsx (by omega)) rfl fun wd v w8 hed ⟨cax, H8, hv, g8, hax⟩ => ⟨g8.ext, ?_⟩
  subst hv
  have g08 := (g07.trans (Grow.quiet hA7 hed)).trans g8
  have hA8 := g08.ag
  refine X_call (fun w' he => applied_any w' (hA8.ext0 he) (DTy.mono g08.le _ _ hy) (hl.mono g08.le) hsy (by omega)) rfl fun we v w9 hee ⟨cay, H9, hv, g9, hay⟩ => ⟨g9.ext, ?_⟩
  subst hv
  have g09 := (g08.trans (Grow.quiet hA8 hee)).trans g9
  have hA9 := g09.ag
  have hAg9 : ∀ w', Ext No w9 w' → Agree H9 w' := fun _ he => hA9.ext0 he
  have hsi := fun w' (he : Ext No w9 w') => specIdent_any (applyT l x) (applyT l y) _ _ H9 w' (hAg9 w' he) (DTy.mono g9.le _ _ hax) hay
  obtain ⟨bb, hbb⟩ : ∃ bb, ident (applyT l x) (applyT l y) = bb := ⟨_, rfl⟩
  rw [hbb] at hsi
  cases bb with
  | false =>
    (repeat (first | (refine cX_guard ?_; refine X_unwanted rfl rfl ?_) | (refine cX_call ?_; refine X_callQ (fun w he => hsi w he) rfl ?_) | refine r155 hAg9 ?_))
    refine X_nil fun w10 he10 => ?_
    (refine r153 ?_)
    (refine G_retF rfl ?_)
    exact ⟨_, rfl, rfl, g09.ext.trans he10⟩
  | true =>
  (repeat (first | (refine cX_guard ?_; refine X_unwanted rfl rfl ?_) | (refine cX_call ?_; refine X_callQ (fun w he => hsi w he) rfl ?_) | refine r155 hAg9 ?_))
  refine X_nil fun w10 he10 => ?_
  refine G_frame (l := [(0, .slice p ds.length dcap), (3, .slice q l.length qc), (5, ptr b5), (6, ptr b6), (8, .bool false), (9, .int .i64 (l.length : Int)), (56, .bool false)]) ⟨rfl, rfl, rfl, rfl, rfl, rfl, rfl, trivial⟩ fun f0 => ?_
  have g010 := g09.trans (Grow.quiet hA9 he10)
  have hA10 := g010.ag
  have hb5d := g9.le _ _ (g8.le _ _ hb5c)
  have hb6d := g9.le _ _ (g8.le _ _ hb6c)
  have hx10 := DTy.mono g010.le _ _ hx
  have hy10 := DTy.mono g010.le _ _ hy
  have hox := okT_of x _ hx hsx (by omega)
  have hoy := okT_of y _ hy hsy (by omega)
  have hV0 : ValidD ds (l.length : Int) [] := ⟨hV.p0, hV.p8, hV.d16, hV.dd, fun t ht => by simp at ht⟩
  have hun := implUnify_any (p := p) (dcap := dcap) (params := (l.length : Int)) (m := 0) (Φ := FindsΦ l) w10 hA10 (hP.mono g010.le) (hd.mono g010.le) hx10 hy10 hV0 hsx hsy (.inl rfl) fun E H' hle hE hP' hpl hdl' => tells_finds (ds := ds) hE hP' (by omega) hsx hsy hzx hzy hox hoy hbb
  (repeat (first | (refine cL ?_; first | (refine cL_guard ?_; refine L_unwanted rfl rfl rfl ?_) | (refine cL_load ?_; first | refine L_val (R_loadAB rfl rfl (hA10 _ _ hb5d)) rfl rfl rfl ?_ | refine L_val (R_loadAB rfl rfl (hA10 _ _ hb6d)) rfl rfl rfl ?_)) | refine r154 ?_))
  refine L_callR hun rfl rfl fun v w12 ⟨vo, r, L', H12, hv, g12, hsl, hll, hr, hΦ⟩ => ?_
  subst hv
  subst hr
  have g012 := g010.trans g12
  have hA12 := g12.ag
  obtain ⟨qv, cv, hvo⟩ : ∃ qv cv, vo = .slice qv L'.length cv := by obtain ⟨a, b, _, h, -⟩ := hsl; exact ⟨a, b, h⟩
  subst hvo
  have hne : ((L'.length : Int) != (l.length : Int)) = false := by rw [hll]; simp
  (repeat (first | (refine cL ?_; first | (refine cL_guard ?_; refine L_unwanted rfl rfl rfl ?_) | (refine cL_neq ?_; refine L_valB (R_neI rfl rfl) hne rfl rfl rfl ?_)) | refine r154 ?_))
  refine G_loop (CountI 75 74 L'.length [(3, .slice q l.length qc), (73, .slice qv L'.length cv)] w12 fun _ => True) (fun f _ _ => countM 75 74 f)
    ⟨rfl, Ext.refl _ _, _, 0, with_self ⟨rfl, rfl, rfl, rfl, trivial⟩, Nat.zero_le _, trivial⟩ ?_
  rintro f ds0 wr ⟨rfl, hext, f0, i, rfl, hi, -⟩
  have hAr := hA12.ext0 hext
  by_cases h : i < L'.length
  · have hb : decide ((i : Int) < (L'.length : Int)) = true := decide_eq_true (by omega)
    obtain ⟨o, ho⟩ : ∃ o, L'[i]? = some o := ⟨_, List.getElem?_eq_getElem h⟩
    obtain ⟨gb, cb, cs, hvs, hg, hm⟩ := hsl.at ho
    injection hvs with e1 e2 e3
    subst e1
    subst e3
    have hia : (Value.pointer (some ⟨gb, 0 + ((i : Nat) : Int).toNat * 7, none⟩)) = .pointer (some ⟨gb, i * 7, none⟩) := by simp
    obtain ⟨u, hu⟩ : ∃ u, l[i]? = some u := ⟨_, List.getElem?_eq_getElem (by omega)⟩
    obtain ⟨bu, offu, cu, rfl, hcu, hdu⟩ := (hl.mono g012.le).get hu
    obtain ⟨pu, capu, rfl, -⟩ := hdu.cells
    have hgr := hAr _ _ hg
    have hil : (i : Int) < (l.length : Int) := by omega
    cases o with
    | none =>
      have hcl7 : ∀ j v, lget zInf j = some v → wr.cell? ⟨gb, i * 7 + j, none⟩ = some v := fun j v hj => cell_of_heap hgr (hm j v hj)
      (repeat (first | (refine cL ?_; first | (refine cL_guard ?_; refine L_unwanted rfl rfl rfl ?_) | (refine cL_load ?_; refine L_val (R_loadA (vs := zInf) rfl rfl hcl7) rfl rfl rfl ?_) | (refine cL_lss ?_; refine L_valB (R_ltI rfl rfl) hb rfl rfl rfl ?_) | (refine cL_indexAddr ?_; refine L_valE (R_ia rfl rfl (by omega) (by omega)) hia rfl rfl rfl ?_)) | refine r154 ?_))
      refine L_allocS rfl rfl fun b13 w13 hn13 => ?_
      (refine r153 ?_)
      refine L_storeA rfl hn13.here rfl rfl rfl rfl rfl rfl fun w14 h14 e14 s14 => ?_
      obtain ⟨H14, g14, hb13⟩ := Grow.ofNew hAr (hn13.store h14 e14 s14)
      have hAg : ∀ w', Ext No w14 w' → Agree H14 w' := fun _ he => g14.ag.ext0 he
      have hb13' : H14 b13 = some (Ob [.bool false, .int .i64 0, .int .i64 0, .int .i64 0, .bool false, .slice none 0 0, .string ⟨#[]⟩] 35) := hb13
      (refine r153 ?_)
      (refine G_drawX No (.op 0 (.op 1 (.op 2 (.op 3 (.op 4 (.op 5 (.op 7 (.op 8 (.op 9 (.op 10 (.op 6 (.op 11 (.op 12 (.op 13 .nil)))))))))))))) [(6, 1)] follows (by kernel_rfl) ?_)
      (repeat (first | (refine cX_guard ?_; refine X_unwanted rfl rfl ?_) | (refine cX_load ?_; refine X_val0 (fun w he => R_loadH (hAg w he) rfl hb13' rfl) rfl rfl ?_) | refine r155 hAg ?_))
      refine X_nil fun w15 he15 => ?_
      (repeat (first | (refine cL ?_; first | (refine cL_guard ?_; refine L_unwanted rfl rfl rfl ?_) | (refine cL_add ?_; refine L_valE (R_addI rfl rfl) (succ_i64 h (by omega)) rfl rfl rfl ?_)) | refine r154 ?_))
      refine G_inv ⟨⟨rfl, hext.trans (g14.ext.trans he15), _, i + 1, with_self ⟨rfl, rfl, rfl, rfl, trivial⟩, h, trivial⟩, ?_⟩
      show ((L'.length : Int) - ((i + 1 : Nat) : Int)).toNat < ((L'.length : Int) - (i : Int)).toNat
      omega
    | some t' =>
      obtain ⟨tc, htd, hcs⟩ := hm
      obtain ⟨qt, ct, htc, -⟩ := htd.cells
      have htd2 := htd
      rw [htc] at htd2
      subst htc
      obtain ⟨hid, hpar, hzt⟩ := hΦ i t' u ho hu
      have hcl7 : ∀ j v, lget (Value.bool true :: tyCells t'.k t'.n t'.c t'.b (.slice qt t'.es.length ct) t'.nm) j = some v → wr.cell? ⟨gb, i * 7 + j, none⟩ = some v := fun j v hj => cell_of_heap hgr (hcs j v hj)
      (repeat (first | (refine cL ?_; first | (refine cL_guard ?_; refine L_unwanted rfl rfl rfl ?_) | (refine cL_load ?_; refine L_val (R_loadA (vs := Value.bool true :: tyCells t'.k t'.n t'.c t'.b (.slice qt t'.es.length ct) t'.nm) rfl rfl hcl7) rfl rfl rfl ?_) | (refine cL_lss ?_; refine L_valB (R_ltI rfl rfl) hb rfl rfl rfl ?_) | (refine cL_indexAddr ?_; refine L_valE (R_ia rfl rfl (by omega) (by omega)) hia rfl rfl rfl ?_)) | refine r154 ?_))
      refine L_allocS rfl rfl fun b13 w13 hn13 => ?_
      (refine r153 ?_)
      refine L_storeA (vs := Value.bool true :: tyCells t'.k t'.n t'.c t'.b (.slice qt t'.es.length ct) t'.nm) rfl hn13.here rfl rfl rfl rfl rfl rfl fun w14 h14 e14 s14 => ?_
      obtain ⟨H14, g14, hb13⟩ := Grow.ofNew hAr (hn13.store h14 e14 s14)
      have hAg : ∀ w', Ext No w14 w' → Agree H14 w' := fun _ he => g14.ag.ext0 he
      have hct := hcells_ob (cs := tyCells t'.k t'.n t'.c t'.b (.slice qt t'.es.length ct) t'.nm) [.bool true] hb13
      have hcu14 := hcu.mono g14.le
      have g014 := (g012.trans (Grow.quiet hA12 hext)).trans g14
      (refine r153 ?_)
      (refine G_drawX No (.op 0 (.op 1 (.op 2 (.op 3 (.op 4 (.op 5 (.op 7 (.op 8 (.op 9 (.op 10 (.op 6 (.op 11 (.op 12 (.op 13 .nil)))))))))))))) [(6, 1)] follows (by kernel_rfl) ?_)
      (repeat (first | (refine cX_guard ?_; refine X_unwanted rfl rfl ?_) | (refine cX_load ?_; first | refine X_val0 (fun w he => R_loadH (hAg w he) rfl hb13 rfl) rfl rfl ?_ | refine X_val0 (fun w he => R_loadA (vs := tyCells t'.k t'.n t'.c t'.b (.slice qt t'.es.length ct) t'.nm) rfl rfl fun j v hj => (hAg w he).hcell (hct j v hj)) rfl rfl ?_ | refine X_val0 (fun w he => R_loadA (vs := tyCells u.k u.n u.c u.b (.slice pu u.es.length capu) u.nm) rfl rfl fun j v hj => (hAg w he).hcell (hcu14 j v hj)) rfl rfl ?_) | (refine cX_indexAddr ?_; refine X_valE (fun _ _ => R_ia rfl rfl (by omega) hil) (ia6 _ _ _) rfl rfl ?_) | refine r155 hAg ?_))
      refine X_call (fun w' he => applied_par w' (hAg w' he) (DTy.mono g14.le _ _ htd2) (hl.mono g014.le) hpar (by omega)) rfl fun wf v w15 hef ⟨ca, H15, hv, g15, hat⟩ => ⟨g15.ext, ?_⟩
      subst hv
      have hAg15 : ∀ w', Ext No w15 w' → Agree H15 w' := fun _ he => g15.ag.ext0 he
      have hsi := fun w' (he : Ext No w15 w') => hid ▸ specIdent_any (applyT l t') u _ _ H15 w' (hAg15 w' he) hat (DTy.mono (Hp.le_trans g14.le g15.le) _ _ hdu)
      (repeat (first | (refine cX_guard ?_; refine X_unwanted rfl rfl ?_) | (refine cX_call ?_; refine X_callQ (fun w he => hsi w he) rfl ?_) | refine r155 hAg15 ?_))
      refine X_nil fun w16 he16 => ?_
      (repeat (first | (refine cL ?_; first | (refine cL_guard ?_; refine L_unwanted rfl rfl rfl ?_) | (refine cL_add ?_; refine L_valE (R_addI rfl rfl) (succ_i64 h (by omega)) rfl rfl rfl ?_)) | refine r154 ?_))
      refine G_inv ⟨⟨rfl, hext.trans (g14.ext.trans (hef.trans (g15.ext.trans he16))), _, i + 1, with_self ⟨rfl, rfl, rfl, rfl, trivial⟩, h, trivial⟩, ?_⟩
      show ((L'.length : Int) - ((i + 1 : Nat) : Int)).toNat < ((L'.length : Int) - (i : Int)).toNat
      omega
  · have hb : decide ((i : Int) < (L'.length : Int)) = false := decide_eq_false (by omega)
    (repeat (first | (refine cL ?_; first | (refine cL_guard ?_; refine L_unwanted rfl rfl rfl ?_) | (refine cL_lss ?_; refine L_valB (R_ltI rfl rfl) hb rfl rfl rfl ?_)) | refine G_exit rfl ?_ | refine r154 ?_))
    refine L_callQ (works_any wr hAr (hP.mono g012.le)) rfl rfl fun w13 hw13 => ?_
    (refine r153 ?_)
    (refine G_retF rfl ?_)
    exact ⟨_, rfl, rfl, g012.ext.trans (hext.trans hw13)⟩
end Go.Proofs.YtjilnjifegeceaaGreatDoor

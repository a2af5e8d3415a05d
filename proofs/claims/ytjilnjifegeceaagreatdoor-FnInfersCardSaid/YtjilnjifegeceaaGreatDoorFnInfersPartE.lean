/-
  A part of the proof that laws.FnInfers returns true at every input: the walk's own rules and the contracts of functions, in build order.
  Its conditions are those of the statement: see the last text.
-/
import Derived.Test.YtjilnjifegeceaaGreatDoorFnInfersPartD

/-
  Identical types: an equivalence. Plain Lean.
-/
namespace Go.Proofs.YtjilnjifegeceaaGreatDoor

def identR (es es' : List Ty) (i : Nat) : Bool := match es[i]?, es'[i]? with
  | some e, some e' => ident e e'
  | _, _ => true

theorem range_all_succ (n : Nat) (p : Nat → Bool) : (List.range (n + 1)).all p = (p 0 && (List.range n).all fun i => p (i + 1)) := by
  rw [List.range_succ_eq_map, List.all_cons, List.all_map]
  rfl

theorem identL_eq : ∀ {es es' : List Ty}, es.length = es'.length → identL es es' = (List.range es.length).all (identR es es')
  | [], [], _ => rfl
  | e :: es, e' :: es', h => by
    rw [List.length_cons, range_all_succ, identL, identL_eq (by simpa using h)]
    rfl
  | [], _ :: _, h => by simp at h
  | _ :: _, [], h => by simp at h

theorem ident_iff {k n c k' n' c' : Int} {b b' : Bool} {nm nm' : ByteArray} {es es' : List Ty} : ident (.mk k n c b nm es) (.mk k' n' c' b' nm' es') = true ↔
    k = k' ∧ es.length = es'.length ∧ (k = 9 → namesEq es es' = true) ∧ (k = 10 → c = c' ∧ b = b') ∧ (k ≠ 9 → k ≠ 10 → ¬ (k = 4 ∨ k = 5 ∨ k = 7) → n = n') ∧ identL es es' = true := by
  simp only [ident, alikeP, Bool.and_eq_true, beq_iff_eq]
  constructor
  · rintro ⟨⟨⟨rfl, hl⟩, h⟩, h2⟩
    refine ⟨rfl, hl, fun h9 => ?_, fun h10 => ?_, fun h9 h10 h4 => ?_, h2⟩
    · simpa [h9] using h
    · subst h10; simpa using h
    · simpa [h9, h10, h4] using h
  · rintro ⟨rfl, hl, h9, h10, hn, h2⟩
    refine ⟨⟨⟨rfl, hl⟩, ?_⟩, h2⟩
    by_cases k9 : k = 9
    · simp [k9, h9 k9]
    · by_cases k10 : k = 10
      · obtain ⟨e1, e2⟩ := h10 k10
        simp [k10, e1, e2]
      · by_cases k4 : k = 4 ∨ k = 5 ∨ k = 7
        · simp [k9, k10, k4]
        · simp [k9, k10, k4, hn k9 k10 k4]

theorem identL_iff : ∀ {es es' : List Ty}, es.length = es'.length → (identL es es' = true ↔ ∀ (i : Nat) (e e' : Ty), es[i]? = some e → es'[i]? = some e' → ident e e' = true)
  | [], [], _ => by simp [identL]
  | e :: es, e' :: es', h => by
    rw [identL, Bool.and_eq_true, identL_iff (by simpa using h)]
    constructor
    · rintro ⟨h1, h2⟩ i x x' hx hx'
      cases i with
      | zero =>
        simp only [List.getElem?_cons_zero, Option.some.injEq] at hx hx'
        subst hx; subst hx'
        exact h1
      | succ i => exact h2 i x x' (by simpa using hx) (by simpa using hx')
    · intro h1
      exact ⟨h1 0 e e' rfl rfl, fun i x x' hx hx' => h1 (i + 1) x x' (by simpa using hx) (by simpa using hx')⟩
  | [], _ :: _, h => by simp at h
  | _ :: _, [], h => by simp at h

theorem namesEq_iff : ∀ {es es' : List Ty}, es.length = es'.length → (namesEq es es' = true ↔ ∀ (i : Nat) (e e' : Ty), es[i]? = some e → es'[i]? = some e' → beqB e.nm e'.nm = true)
  | [], [], _ => by simp [namesEq]
  | e :: es, e' :: es', h => by
    rw [namesEq, Bool.and_eq_true, namesEq_iff (by simpa using h)]
    constructor
    · rintro ⟨h1, h2⟩ i x x' hx hx'
      cases i with
      | zero =>
        simp only [List.getElem?_cons_zero, Option.some.injEq] at hx hx'
        subst hx; subst hx'
        exact h1
      | succ i => exact h2 i x x' (by simpa using hx) (by simpa using hx')
    · intro h1
      exact ⟨h1 0 e e' rfl rfl, fun i x x' hx hx' => h1 (i + 1) x x' (by simpa using hx) (by simpa using hx')⟩
  | [], _ :: _, h => by simp at h
  | _ :: _, [], h => by simp at h

theorem beqB_iff {a b : ByteArray} : beqB a b = true ↔ a.toList = b.toList := by simp [beqB]

theorem ident_trans : ∀ (t u v : Ty), ident t u = true → ident u v = true → ident t v = true := by
  refine Ty.ind fun k n c b nm es ih => ?_
  intro u v
  cases u with
  | mk k2 n2 c2 b2 nm2 es2 =>
  cases v with
  | mk k3 n3 c3 b3 nm3 es3 =>
  rw [ident_iff, ident_iff, ident_iff]
  rintro ⟨rfl, l1, a1, b1, d1, e1⟩ ⟨rfl, l2, a2, b2, d2, e2⟩
  have l3 := l1.trans l2
  rw [identL_iff l1] at e1
  rw [identL_iff l2] at e2
  refine ⟨rfl, l3, fun h => ?_, fun h => ⟨(b1 h).1.trans (b2 h).1, (b1 h).2.trans (b2 h).2⟩, fun h h' h'' => (d1 h h' h'').trans (d2 h h' h''), (identL_iff l3).2 ?_⟩
  · have f1 := (namesEq_iff l1).1 (a1 h)
    have f2 := (namesEq_iff l2).1 (a2 h)
    refine (namesEq_iff l3).2 fun i e e' he he' => ?_
    obtain ⟨x, hx⟩ : ∃ x, es2[i]? = some x := ⟨_, List.getElem?_eq_getElem (by have := (List.getElem?_eq_some_iff.1 he).1; omega)⟩
    have g1 := beqB_iff.1 (f1 i e x he hx)
    have g2 := beqB_iff.1 (f2 i x e' hx he')
    exact beqB_iff.2 (g1.trans g2)
  · intro i e e' he he'
    obtain ⟨x, hx⟩ : ∃ x, es2[i]? = some x := ⟨_, List.getElem?_eq_getElem (by have := (List.getElem?_eq_some_iff.1 he).1; omega)⟩
    exact ih e (List.mem_of_getElem? he) x e' (e1 i e x he hx) (e2 i x e' hx he')

theorem ident_symm : ∀ (t u : Ty), ident t u = true → ident u t = true := by
  refine Ty.ind fun k n c b nm es ih => ?_
  intro u
  cases u with
  | mk k2 n2 c2 b2 nm2 es2 =>
  rw [ident_iff, ident_iff]
  rintro ⟨rfl, l1, a1, b1, d1, e1⟩
  rw [identL_iff l1] at e1
  refine ⟨rfl, l1.symm, fun h => ?_, fun h => ⟨(b1 h).1.symm, (b1 h).2.symm⟩, fun h h' h'' => (d1 h h' h'').symm, (identL_iff l1.symm).2 fun i e e' he he' => ih e' (List.mem_of_getElem? he') e (e1 i e' e he' he)⟩
  exact (namesEq_iff l1.symm).2 fun i e e' he he' => beqB_iff.2 (beqB_iff.1 ((namesEq_iff l1).1 (a1 h) i e' e he' he)).symm

theorem ident_self : ∀ t : Ty, ident t t = true := by
  refine Ty.ind fun k n c b nm es ih => ?_
  rw [ident_iff]
  exact ⟨rfl, rfl, fun _ => (namesEq_iff rfl).2 fun i e e' he he' => by rw [he] at he'; injection he' with he'; rw [he']; exact beqB_iff.2 rfl, fun _ => ⟨rfl, rfl⟩, fun _ _ _ => rfl,
    (identL_iff rfl).2 fun i e e' he he' => by rw [he] at he'; injection he' with he'; subst he'; exact ih e (List.mem_of_getElem? he)⟩
end Go.Proofs.YtjilnjifegeceaaGreatDoor

/-
  A type parameter and a type that is none: what the unifier infers.
-/
namespace Go.Proofs.YtjilnjifegeceaaGreatDoor
set_option maxRecDepth 100000
set_option maxHeartbeats 4000000

theorem nf_setS {E : Env} {H : Hp} {as_ : List Nat} {u hm : Nat} {M : Nat → Prop} {hu : M u} {hH : ∀ b o, H b = some o → ¬ M b} {s : HS} {d : Nat} {m m' : Int} {i a h : Nat} {k n c : Int} {b : Bool} {nms : List ByteArray} {vs : List Value} {v : Value} (hm0 : Md m m') (hd : d + 1 ≤ 50) (hal : ∀ a ∈ as_, LiveH H a) (hnd : as_.Nodup) (ha : as_[i]? = some a) (hh : s.hs[i]? = some h) (hnil : s.val h = .nilIface) (hS : Sh E H k n c b nms vs v) (hE : EnvOK E H) (hk : k ≠ 2) {Q : Bool → HS → Prop} (hq : Q true (s.put h v)) :
    Nf (mkUC H as_ u hm M hu hH) m (.iface 72 (ptr a)) v d s Q ∧ Nf (mkUC H as_ u hm M hu hH) m v (.iface 72 (ptr a)) d s Q := by
  obtain ⟨_, _, hv, hl⟩ := hS.live hE
  cases hS with
  | param => exact absurd rfl hk
  | named =>
    injection hv with _ hv
    have := ptr_inj hv
    subst this
    exact ⟨nf_setN hm0 hd hal hnd ha hh hnil hl hq, nf_setNB hm0 hd hal hnd ha hh hnil hl hq⟩
  | inst =>
    injection hv with _ hv
    have := ptr_inj hv
    subst this
    exact ⟨nf_setN hm0 hd hal hnd ha hh hnil hl hq, nf_setNB hm0 hd hal hnd ha hh hnil hl hq⟩
  | _ =>
    injection hv with _ hv
    have := ptr_inj hv
    subst this
    exact ⟨nf_set rfl rfl rfl hm0 hd hal hnd ha hh hnil hl hq, nf_setB rfl rfl rfl hm0 hd hal hnd ha hh hnil hl hq⟩

/-- what the pair of a type parameter and another type yields -/
def InfersΦ (p : Nat) (t : Ty) (r : Bool) (L : List (Option Ty)) : Prop := r = true ∧ ∃ t', L[p]? = some (some t') ∧ ident t' t = true

theorem uMode_md {m : Int} (hm : m = 0 ∨ m = 1 ∨ m = 2) : ∃ mq, Md (uMode m) mq := by
  rcases hm with rfl | rfl | rfl
  · exact ⟨2, by simp [Md, uMode]⟩
  · exact ⟨3, by simp [Md, uMode]⟩
  · exact ⟨0, by simp [Md, uMode]⟩

theorem tells_param {E : Env} {H : Hp} {p : Nat} {t : Ty} {m : Int} {c : Int} {b : Bool} {nm : ByteArray} (hm : m = 0 ∨ m = 1 ∨ m = 2) (hE : EnvOK E H) (hp : p < E.params.length) (hok : okT t) (hk : t.k ≠ 2) (hsub : substT [] t = t) (hsp : substT [] (Ty.mk 2 (p : Int) c b nm []) = .mk 2 (p : Int) c b nm []) :
    NfTells E H (.mk 2 (p : Int) c b nm []) t m (InfersΦ p t) ∧ NfTells E H t (.mk 2 (p : Int) c b nm []) m (InfersΦ p t) := by
  obtain ⟨mq, hmq⟩ := uMode_md hm
  have key : ∀ (H' : Hp) (vp vt : Value), Hp.le H H' → Rep E H' (.mk 2 (p : Int) c b nm []) vp → Rep E H' t vt → ∃ Q : Bool → HS → Prop,
      (∀ (u hm : Nat) (M : Nat → Prop) (hu : M u) (hH : ∀ b o, H' b = some o → ¬ M b) (s : HS), s.hs.length = E.params.length → s.hs.Nodup → (∀ h ∈ s.hs, s.val h = .nilIface) → Nf (mkUC H' E.params u hm M hu hH) (uMode m) vp vt 0 s Q ∧ Nf (mkUC H' E.params u hm M hu hH) (uMode m) vt vp 0 s Q) ∧
      ∀ r s, Q r s → s.hs.length = E.params.length → Tells E H' (InfersΦ p t) r s := by
    intro H' vp vt hle hrp hrt
    have hE' := hE.mono hle
    refine ⟨fun r s => r = true ∧ (∀ h ∈ s.hs, s.val h = .nilIface ∨ s.val h = vt) ∧ ∀ h, s.hs[p]? = some h → s.val h = vt, ?_, ?_⟩
    · intro u hm' M hu hH s hsl hsn hs0
      obtain ⟨h, hh⟩ : ∃ h, s.hs[p]? = some h := ⟨_, List.getElem?_eq_getElem (by omega)⟩
      have hrp0 := hrp
      simp only [Rep, RepL] at hrp0
      obtain ⟨vs, hvs, hS⟩ := hrp0
      subst hvs
      cases hS with
      | param hn h0 =>
        cases t with
        | mk k n c' b' nm' es =>
        have hrt0 := hrt
        simp only [Rep] at hrt0
        obtain ⟨vs', -, hS'⟩ := hrt0
        refine nf_setS hmq (by omega) (fun a ha => hE'.pl a ha) hE'.pn (by simpa using hn) hh (hs0 h (List.mem_of_getElem? hh)) hS' hE' hk ⟨rfl, fun h' hh' => ?_, fun h' hh' => ?_⟩
        · by_cases e : h' = h
          · exact .inr (by simp [HS.put, e])
          · exact .inl (by simpa [HS.put, e] using hs0 h' hh')
        · have e : h' = h := by
            have : s.hs[p]? = some h' := hh'
            rw [hh] at this
            injection this with this
            exact this.symm
          simp [HS.put, e]
    · rintro r s ⟨hr, hv, hvp⟩ hsl
      refine ⟨fun h hh => ?_, fun L' hL hbk => ⟨hr, ?_⟩⟩
      · rcases hv h hh with e | e
        · exact .inl e
        · exact .inr ⟨t, hok, by rw [e]; exact hrt⟩
      obtain ⟨h, hh⟩ : ∃ h, s.hs[p]? = some h := ⟨_, List.getElem?_eq_getElem (by omega)⟩
      obtain ⟨o, ho⟩ : ∃ o, L'[p]? = some o := ⟨_, List.getElem?_eq_getElem (by omega)⟩
      have hb := hbk p o h ho hh
      rw [hvp h hh] at hb
      obtain ⟨Tv, av, hvt⟩ := hrt.iface
      rcases hb with ⟨-, hb⟩ | ⟨t', t2, rfl, -, hr2, hid⟩
      · rw [hvt] at hb; cases hb
      · exact ⟨t', ho, ident_trans _ _ _ hid (ident_same hE' _ _ _ hr2 hrt)⟩
  constructor
  · intro H' vx vy hle hrx hry
    rw [hsp] at hrx
    rw [hsub] at hry
    obtain ⟨Q, h1, h2⟩ := key H' vx vy hle hrx hry
    exact ⟨Q, fun u hm M hu hH s e1 e2 e3 => (h1 u hm M hu hH s e1 e2 e3).1, h2⟩
  · intro H' vx vy hle hrx hry
    rw [hsub] at hrx
    rw [hsp] at hry
    obtain ⟨Q, h1, h2⟩ := key H' vy vx hle hry hrx
    exact ⟨Q, fun u hm M hu hH s e1 e2 e3 => (h1 u hm M hu hH s e1 e2 e3).2, h2⟩
end Go.Proofs.YtjilnjifegeceaaGreatDoor

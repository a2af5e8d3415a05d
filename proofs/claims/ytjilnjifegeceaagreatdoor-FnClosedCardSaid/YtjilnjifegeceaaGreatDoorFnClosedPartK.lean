/-
  A part of the proof that laws.FnClosed returns true at every input: the walk's own rules and the contracts of functions, in build order.
  Its conditions are those of the statement: see the last text.
-/
import Derived.Test.YtjilnjifegeceaaGreatDoorFnClosedPartJ

/-
  The thin package's 'back': struct types, function types, defined types.
-/
namespace Go.Proofs.YtjilnjifegeceaaGreatDoor
set_option maxRecDepth 100000
set_option maxHeartbeats 4000000
attribute [local irreducible] Calls execOp

theorem r111 {G G' : Prop} (k : G') (h : Hid G' → G := by intro k_; (repeat (first | (refine cL ?_; first | (refine cL_move ?_; refine L_val R_move rfl rfl rfl ?_) | (refine cL_load ?_; first | refine L_val (R_loadB rfl (by assumption) (by rfl)) rfl rfl rfl ?_ | refine L_val (R_loadH (by assumption) rfl (by assumption) (by rfl)) rfl rfl rfl ?_) | (refine cL_fieldAddr ?_; refine L_val (R_fa rfl) rfl rfl rfl ?_) | (refine cL_nilCheck ?_; refine L_val (R_nil rfl) rfl rfl rfl ?_) | (refine cL_assign ?_; refine L_val R_assign rfl rfl rfl ?_) | (refine cL_lss ?_; refine L_val (R_ltI rfl rfl) rfl rfl rfl ?_) | (refine cL_add ?_; refine L_val (R_addI rfl rfl) rfl rfl rfl ?_) | refine L_nil ?_) | refine G_seq ?_ | refine G_region ?_ | refine G_skip ?_ | refine G_block ?_ | refine G_end ?_ | refine G_true rfl ?_ | refine G_false rfl ?_)); exact k_.out) : G := h ⟨k⟩
theorem r112 {G G' : Prop} (k : G') (h : Hid G' → G := by intro k_; (first | (refine cL ?_; first | (refine cL_move ?_; refine L_val R_move rfl rfl rfl ?_) | (refine cL_load ?_; first | refine L_val (R_loadB rfl (by assumption) (by rfl)) rfl rfl rfl ?_ | refine L_val (R_loadH (by assumption) rfl (by assumption) (by rfl)) rfl rfl rfl ?_) | (refine cL_fieldAddr ?_; refine L_val (R_fa rfl) rfl rfl rfl ?_) | (refine cL_nilCheck ?_; refine L_val (R_nil rfl) rfl rfl rfl ?_) | (refine cL_assign ?_; refine L_val R_assign rfl rfl rfl ?_) | (refine cL_lss ?_; refine L_val (R_ltI rfl rfl) rfl rfl rfl ?_) | (refine cL_add ?_; refine L_val (R_addI rfl rfl) rfl rfl rfl ?_) | refine L_nil ?_) | refine G_seq ?_ | refine G_region ?_ | refine G_skip ?_ | refine G_block ?_ | refine G_end ?_ | refine G_true rfl ?_ | refine G_false rfl ?_); exact k_.out) : G := h ⟨k⟩

def Ty.rn (nm : ByteArray) : Ty → Ty
  | .mk k n c b _ es => .mk k n c b nm es
theorem Ty.rn_nm (nm : ByteArray) (t : Ty) : (t.rn nm).nm = nm := by cases t; rfl
theorem ident_rn (nm : ByteArray) (t u : Ty) : ident (t.rn nm) u = ident t u := by cases t; cases u; simp [Ty.rn, ident]
theorem DTy.rn {H : Hp} {t : Ty} {q : Value} (nm : ByteArray) (h : DTy H t (tyCells t.k t.n t.c t.b q t.nm)) : DTy H (t.rn nm) (tyCells t.k t.n t.c t.b q nm) := by
  cases t
  simp only [DTy, Ty.rn, Ty.k, Ty.n, Ty.c, Ty.b, Ty.nm, List.cons.injEq, and_true, true_and] at h ⊢
  obtain ⟨p, cap, rfl, h⟩ := h
  exact ⟨p, cap, rfl, h⟩

instance app_ity : AppN Tryz.prog 24 26 6 72 := ⟨by kernel_rfl, by kernel_rfl⟩

theorem PushedN.slice {w w' : World} {e : TypeId} {sz n : Nat} {v v' : Value} {cs : List Value} (h : PushedN w w' e sz v v' n cs) : ∃ q c, v' = .slice q n c := by
  rcases h.own with ⟨rfl, rfl, -⟩ | ⟨g, cap, r, rfl, -⟩
  · exact ⟨none, 0, rfl⟩
  · exact ⟨_, cap, rfl⟩

/-- a type half read back: it lies in block b5, its elements in a row of its own -/
structure BSt (H : Hp) (w : World) (b4 b5 : Nat) (k n c : Int) (b : Bool) (nm : ByteArray) (ts : List Ty) (Hi : Hp) (va : Value) (w0 : World) : Prop where
  gr : Grow H w Hi w0
  h4 : w0.heap[b4]? = some (Ob (tyCells 0 0 0 false (.slice none 0 0) ⟨#[]⟩) 26)
  h5 : w0.heap[b5]? = some (Ob (tyCells k n c b va nm) 26)
  n4 : Hi b4 = none ∧ w.heap.size ≤ b4
  n5 : Hi b5 = none ∧ w.heap.size ≤ b5
  ne : b4 ≠ b5
  own : ∃ cs, OwnN w0 26 6 va ts.length cs ∧ DRow Hi ts cs
  ob : ∀ g, va.ownBlock = some g → Hi g = none ∧ w.heap.size ≤ g ∧ g ≠ b4 ∧ g ≠ b5

section
variable {H Hi : Hp} {w w0 w1 w2 w3 : World} {b4 b5 : Nat} {k n c : Int} {b : Bool} {nm : ByteArray} {ts : List Ty} {va va' : Value}

theorem BSt.sl (st : BSt H w b4 b5 k n c b nm ts Hi va w0) : ∃ q cp, va = .slice q ts.length cp := by
  obtain ⟨cs, h, -⟩ := st.own
  rcases h with ⟨rfl, h, -⟩ | ⟨g, cap, r, rfl, -⟩
  · rw [h]; exact ⟨none, 0, rfl⟩
  · exact ⟨_, cap, rfl⟩

theorem BSt.init (hA : Agree H w) (hn1 : NewB w w1 b4 (Ob (tyCells 0 0 0 false (.slice none 0 0) ⟨#[]⟩) 26)) {o : Obj} (hn2 : NewB w1 w2 b5 o) (h3 : w3.heap[b5]? = some (Ob (tyCells k n c b (.slice none 0 0) nm) 26)) (e3 : Ext (fun k => k = b5) w2 w3) :
    BSt H w b4 b5 k n c b nm [] H (.slice none 0 0) w3 := by
  have f1 := hn1.fresh
  have f2 := hn2.fresh
  have z1 := hn1.size
  have hno : ∀ {g}, w.heap.size ≤ g → H g = none := fun {g} hg => by
    cases hh : H g with
    | none => rfl
    | some o => have := hA.lt hh; omega
  have x2 : Ext No w w2 := hn1.ext.trans hn2.ext
  exact ⟨Grow.quiet hA (x2.trans_new e3 fun j hj hm => by omega), e3.heap (by omega) (hn2.ext.heap (fun x => x) hn1.here), h3, ⟨hno (by omega), by omega⟩, ⟨hno (by omega), by omega⟩, by omega, ⟨[], .inl ⟨rfl, rfl, rfl⟩, rfl⟩, fun g hg => by cases hg⟩

theorem BSt.grow (st : BSt H w b4 b5 k n c b nm ts Hi va w0) {H2 : Hp} (g : Grow Hi w0 H2 w2) : BSt H w b4 b5 k n c b nm ts H2 va w2 := by
  have hno : ∀ {j}, Hi j = none → j < w0.heap.size → H2 j = none := fun {j} hj hl => by
    cases hh : H2 j with
    | none => rfl
    | some o =>
      rcases g.new j o hh with h | h
      · rw [hj] at h; cases h
      · omega
  obtain ⟨cs, h1, h2⟩ := st.own
  exact ⟨st.gr.trans g, g.ext.heap (fun x => x) st.h4, g.ext.heap (fun x => x) st.h5, ⟨hno st.n4.1 (lt_of_heap st.h4), st.n4.2⟩, ⟨hno st.n5.1 (lt_of_heap st.h5), st.n5.2⟩, st.ne, ⟨cs, h1.ext g.ext (fun _ _ h => h), h2.mono g.le⟩,
    fun j hj => let ⟨e1, e2, e3, e4⟩ := st.ob j hj; ⟨hno e1 (h1.lt j hj), e2, e3, e4⟩⟩
theorem BSt.quiet (st : BSt H w b4 b5 k n c b nm ts Hi va w0) (e : Ext No w0 w1) : BSt H w b4 b5 k n c b nm ts Hi va w1 := st.grow (Grow.quiet st.gr.ag e)

theorem BSt.push (st : BSt H w b4 b5 k n c b nm ts Hi va w0) {t : Ty} {cs us : List Value} (hrow : DRow Hi ts cs) (ht : DTy Hi t us) (hp : PushedN w0 w1 26 6 va va' (ts.length + 1) (cs ++ us)) (h5 : w3.heap[b5]? = some (Ob (tyCells k n c b va' nm) 26)) (e : Ext (fun k => k = b5) w2 w3) (e2 : Ext No w1 w2) :
    BSt H w b4 b5 k n c b nm (ts ++ [t]) Hi va' w3 := by
  have l5 := lt_of_heap st.h5
  have l4 := lt_of_heap st.h4
  have hz := st.gr.ext.size
  have x1 : Ext No w w2 := (st.gr.ext.trans_new hp.ext fun j hj hm => by have := (st.ob j hm.symm).2.1; omega).trans e2
  have hA2 : Agree Hi w2 := (st.gr.ag.ext hp.ext fun j o hj hm => by have := (st.ob j hm.symm).1; rw [hj] at this; cases this).ext0 e2
  have hob : ∀ g, va'.ownBlock = some g → Hi g = none ∧ w.heap.size ≤ g ∧ g ≠ b4 ∧ g ≠ b5 := fun g hg => by
    rcases hp.blk with h | h
    · exact st.ob g (h ▸ hg)
    · rw [h] at hg
      injection hg with hg
      refine ⟨?_, by omega, by omega, by omega⟩
      cases hh : Hi g with
      | none => rfl
      | some o => have := st.gr.ag.lt hh; omega
  refine ⟨⟨st.gr.le, hA2.ext e fun j o hj hm => ?_, st.gr.new, x1.trans_new e fun j hj hm => ?_⟩, ?_, h5, st.n4, st.n5, st.ne, ⟨_, ?_, hrow.snoc ht⟩, hob⟩
  · rw [hm, st.n5.1] at hj; cases hj
  · have := st.n5.2; omega
  · exact e.heap st.ne (e2.heap (fun x => x) (hp.ext.heap (fun h => (st.ob _ h.symm).2.2.1 rfl) st.h4))
  · rw [List.length_append]
    exact (hp.own.ext e2 (fun _ _ h => h)).ext e fun g hg hm => (hob g hg).2.2.2 hm

theorem BSt.done (st : BSt H w b4 b5 k n c b nm ts Hi va w0) (e : Ext (fun k => k = b4) w0 w1) (hk : i64ok k) (hn : i64ok n) (hc : i64ok c) (hl : ts.length ≤ 1000) : ∃ H', Grow H w H' w1 ∧ DTy H' (.mk k n c b nm ts) (tyCells k n c b va nm) := by
  have g1 : Grow H w Hi w1 := ⟨st.gr.le, st.gr.ag.ext e (fun j o hj hm => by rw [hm, st.n4.1] at hj; cases hj), st.gr.new, st.gr.ext.trans_new e fun j hj hm => by have := st.n4.2; omega⟩
  obtain ⟨cs, hown, hrow⟩ := st.own
  have hown1 := hown.ext e fun g hg hm => (st.ob g hg).2.2.1 hm
  rcases hown1 with ⟨rfl, h1, h2⟩ | ⟨g, cap, r, rfl, h2, h3, h4⟩
  · have h1 := List.length_eq_zero_iff.1 h1
    subst h1
    exact ⟨Hi, g1, DTy.mk (es := []) hk hn hc (by simp) (.inl rfl)⟩
  · obtain ⟨H2, g2, le2, hg⟩ := g1.add h2 (st.ob g rfl).2.1
    refine ⟨H2, g2, DTy.mk hk hn hc ⟨by omega, ?_⟩ ((hrow.mono le2).sl hg)⟩
    rw [List.length_append] at h4
    omega
end

/-! ### identical parts, read so far -/

structure RelP (st : Bool) (ts es : List Ty) : Prop where
  len : ts.length = es.length
  id : identL ts es = true
  nm : st = true → namesEq ts es = true

theorem identL_snoc : ∀ {ts es : List Ty} {t e : Ty}, ts.length = es.length → identL (ts ++ [t]) (es ++ [e]) = (identL ts es && ident t e)
  | [], [], t, e, _ => by simp [identL]
  | x :: ts, y :: es, t, e, h => by
    simp only [List.cons_append, identL]
    rw [identL_snoc (by simpa using h), Bool.and_assoc]
  | [], _ :: _, _, _, h => by simp at h
  | _ :: _, [], _, _, h => by simp at h
theorem namesEq_snoc : ∀ {ts es : List Ty} {t e : Ty}, ts.length = es.length → namesEq (ts ++ [t]) (es ++ [e]) = (namesEq ts es && beqB t.nm e.nm)
  | [], [], t, e, _ => by simp [namesEq]
  | x :: ts, y :: es, t, e, h => by
    simp only [List.cons_append, namesEq]
    rw [namesEq_snoc (by simpa using h), Bool.and_assoc]
  | [], _ :: _, _, _, h => by simp at h
  | _ :: _, [], _, _, h => by simp at h
theorem RelP.nil (st : Bool) : RelP st [] [] := ⟨rfl, rfl, fun _ => rfl⟩
theorem RelP.snoc {st : Bool} {ts es : List Ty} {i : Nat} {t e : Ty} (h : RelP st ts (es.take i)) (he : es[i]? = some e) (hi : ident t e = true) (hn : st = true → beqB t.nm e.nm = true) : RelP st (ts ++ [t]) (es.take (i + 1)) := by
  have htk : es.take (i + 1) = es.take i ++ [e] := by rw [List.take_add_one, he]; rfl
  rw [htk]
  refine ⟨by simp [h.len], ?_, fun hs => ?_⟩
  · rw [identL_snoc h.len, h.id, hi]; rfl
  · rw [namesEq_snoc h.len, h.nm hs, hn hs]; rfl
theorem beqB_refl (a : ByteArray) : beqB a a = true := by simp [beqB]

/-! ### struct types -/

theorem field_any {H : Hp} {a bs cap i x : Nat} {xs : List Value} {tg : Value} {T len : Nat} (w : World) (hA : Agree H w) (h : H a = some (Ob [.slice (some ⟨bs, 0, none⟩) len cap, tg] 184)) (h2 : H bs = some (Ob xs T)) (hx : lget xs i = some (ptr x)) (hi : i < len) :
    Calls Tryz.prog 116 #[ptr a, .int .i64 (i : Int)] w (Ret (Is (ptr x) w)) := by
  (refine calls_enter Tryz.func116 Tryz.ntmps116 rfl rfl ?_)
  (repeat (first | (refine cL ?_; first | (refine cL_load ?_; first | refine L_val (R_loadH hA rfl h rfl) rfl rfl rfl ?_ | refine L_val (R_loadH hA rfl h2 hx) rfl rfl rfl ?_) | (refine cL_indexAddr ?_; refine L_valE (R_ia rfl rfl (by omega) (by omega)) (ia0 _ _) rfl rfl rfl ?_)) | refine r12 ?_))
  (refine G_retF rfl ?_)
  exact ⟨_, rfl, rfl, rfl⟩

section
variable {E : Env} {ds : List (Int × Ty)} {p : Option Addr} {dcap bB : Nat} {H : Hp} {a : Nat} {nm : ByteArray} {c : Int} {b : Bool} (w : World) (hA : Agree H w)
include hA

theorem back_struct {n : Int} {es : List Ty} {vs : List Value} {sl : Value} (hE : EnvOK E H) (hB : BuIs E H ds p dcap bB) (ih : ∀ e ∈ es, BackOK E ds p dcap bB e) (hL : RepL E H es vs) (h : H a = some (Ob [sl, .slice none 0 0] 184)) (hs : VarSl H (es.map Ty.nm) vs sl) (hl : es.length ≤ 1000) :
    Calls Tryz.prog 76 #[ptr bB, ptr a] w (Ret (BackSays H w (.mk 9 n c b nm es))) := by
  obtain ⟨bs, cap, xs, rfl, h2, h3⟩ := hs
  have hlen := hL.length
  (refine calls_enter Tryz.func76 Tryz.ntmps76 rfl rfl ?_)
  (refine r111 ?_)
  refine L_allocS rfl rfl fun b4 w1 hn1 => ?_
  (repeat (first | (refine cL ?_; first | (refine cL_build ?_; refine L_val (R_build (cs := tyCells 9 0 0 false (.slice none 0 0) ⟨#[]⟩) rfl) rfl rfl rfl ?_)) | refine r112 ?_))
  refine L_allocS rfl rfl fun b5 w2 hn2 => ?_
  refine L_storeA (vs := tyCells 9 0 0 false (.slice none 0 0) ⟨#[]⟩) rfl hn2.here rfl rfl rfl rfl rfl rfl fun w3 h3' e3 s3 => ?_
  have st0 := BSt.init hA hn1 hn2 h3' e3
  have hA3 := st0.gr.ag
  clear hn1 hn2 h3' e3 s3
  (repeat (first | (refine cL ?_; first | (refine cL_call ?_; refine L_callI (numFields_any _ hA3 h) rfl rfl ?_)) | refine r112 ?_))
  refine G_loop (fun f ds0 w0 => ds0 = [] ∧ ∃ (f0 : Fm) (ts : List Ty) (va : Value) (Hi : Hp), f = with_ [(11, .int .i64 (ts.length : Int)), (10, .int .i64 (vs.length : Int)), (0, ptr bB), (1, ptr a), (4, ptr b4), (5, ptr b5)] f0 ∧ ts.length ≤ vs.length ∧ BSt H w b4 b5 9 0 0 false ⟨#[]⟩ ts Hi va w0 ∧ RelP true ts (es.take ts.length)) (fun f _ _ => countM 11 10 f)
    ⟨rfl, _, [], _, H, with_self ⟨rfl, rfl, rfl, rfl, rfl, rfl, trivial⟩, Nat.zero_le _, st0, RelP.nil true⟩ ?_
  rintro f ds0 wr ⟨rfl, f0, ts, va, Hi, rfl, hi, st, hrel⟩
  have hAr := st.gr.ag
  have hle := st.gr.le
  by_cases hlt : ts.length < vs.length
  · have hbt : decide ((ts.length : Int) < (vs.length : Int)) = true := decide_eq_true (by omega)
    obtain ⟨v, hv⟩ : ∃ v, vs[ts.length]? = some v := ⟨_, List.getElem?_eq_getElem hlt⟩
    obtain ⟨e, he, hre⟩ := hL.get hv
    obtain ⟨fnm, a1, pos, pkg, kd, q1, q2, q3⟩ := h3.get hv
    have hfn : fnm = e.nm := by
      rw [List.getElem?_map, he] at q1
      simpa using q1.symm
    subst hfn
    have hfa := fun {w'} (hA' : Agree Hi w') => field_any w' hA' (hle _ _ h) (hle _ _ h2) q2 hlt
    (repeat (first | (refine cL ?_; first | (refine cL_call ?_; first | refine L_callI (hfa hAr) rfl rfl ?_ | refine L_callI (get_oType _ hAr (hle _ _ q3) rfl) rfl rfl ?_) | (refine cL_lss ?_; refine L_valB (R_ltI rfl rfl) hbt rfl rfl rfl ?_)) | refine r112 ?_))
    refine L_callR (ih e (List.mem_of_getElem? he) v Hi wr hAr (hE.mono hle) (hB.mono hle) (Rep.mono hle _ _ hre)) rfl rfl fun r w2 ⟨cs, H2, t', hr, g2, hd, hid⟩ => ?_
    subst hr
    have st2 := st.grow g2
    have hA2 := g2.ag
    have hle2 := st2.gr.le
    obtain ⟨q, cq, hcs, -⟩ := hd.cells
    subst hcs
    have hd5 := DTy.rn e.nm hd
    refine L_allocS rfl rfl fun b7 w3 hn3 => ?_
    refine L_storeA (vs := tyCells t'.k t'.n t'.c t'.b (.slice q t'.es.length cq) t'.nm) rfl hn3.here rfl rfl rfl rfl rfl rfl fun w4 h4 e4 s4 => ?_
    have hn4 := hn3.store h4 e4 s4
    have hA4 := hA2.ext0 hn4.ext
    have hfa2 := field_any w4 hA4 (hle2 _ _ h) (hle2 _ _ h2) q2 hlt
    (repeat (first | (refine cL ?_; first | (refine cL_call ?_; first | refine L_callI hfa2 rfl rfl ?_ | refine L_callI (get_oName _ hA4 (hle2 _ _ q3) rfl) rfl rfl ?_)) | refine r112 ?_))
    refine L_store rfl h4 rfl rfl rfl fun w5 h5 e5 s5 => ?_
    have hn5 := hn4.store h5 e5 s5
    have h5' : w5.heap[b7]? = some (Ob (tyCells t'.k t'.n t'.c t'.b (.slice q t'.es.length cq) e.nm) 26) := h5
    have st5 := st2.quiet hn5.ext
    have h55 := st5.h5
    (repeat (first | (refine cL ?_; first | (refine cL_load ?_; first | refine L_val (R_loadB rfl h55 rfl) rfl rfl rfl ?_ | refine L_val (R_loadAB rfl rfl h5') rfl rfl rfl ?_)) | refine r112 ?_))
    refine L_buildSlice (vs := [.agg (tyCells t'.k t'.n t'.c t'.b (.slice q t'.es.length cq) e.nm).toArray]) rfl rfl rfl rfl rfl rfl fun b6 w6 hn6 => ?_
    have st6 := st5.quiet hn6.ext
    obtain ⟨cs6, hown6, hrow6⟩ := st6.own
    refine L_pushN (v := va) (m := ts.length) (xs := cs6) (us := tyCells t'.k t'.n t'.c t'.b (.slice q t'.es.length cq) e.nm) rfl hown6 rfl hn6.here rfl (show 0 < 6 by omega) rfl (show (ts.length + 1) * 72 ≤ 140737488355328 by omega) (by simp only [maxLen]; omega) rfl rfl fun va' w7 hpu => ?_
    have h57 := hpu.ext.heap (fun hx => (st6.ob b5 hx.symm).2.2.2 rfl) st6.h5
    have hsl := hpu.slice
    obtain ⟨q7, c7, hva'⟩ := hsl
    subst hva'
    (refine r111 ?_)
    refine L_store rfl h57 rfl rfl rfl fun w8 h8 e8 s8 => ?_
    have st8 := st6.push hrow6 hd5 hpu h8 e8 (Ext.refl _ _)
    (repeat (first | (refine cL ?_; first | (refine cL_add ?_; refine L_valE (R_addI rfl rfl) (succ_i64 hlt (by omega)) rfl rfl rfl ?_)) | refine r112 ?_))
    have hl1 : (ts ++ [t'.rn e.nm]).length = ts.length + 1 := by simp
    refine G_inv ⟨⟨rfl, _, ts ++ [t'.rn e.nm], _, H2, with_self (by rw [hl1]; exact ⟨rfl, rfl, rfl, rfl, rfl, rfl, trivial⟩), by omega, st8, ?_⟩, ?_⟩
    · rw [hl1]
      exact hrel.snoc he (by rw [ident_rn]; exact hid) (fun _ => by rw [Ty.rn_nm]; exact beqB_refl _)
    · show ((vs.length : Int) - ((ts.length + 1 : Nat) : Int)).toNat < ((vs.length : Int) - (ts.length : Int)).toNat
      omega
  · have hbt : decide ((ts.length : Int) < (vs.length : Int)) = false := decide_eq_false (by omega)
    have htl : ts.length = es.length := by omega
    have h55 := st.h5
    obtain ⟨qv, cv, hva⟩ := st.sl
    subst hva
    (repeat (first | (refine cL ?_; first | (refine cL_load ?_; refine L_val (R_loadAB rfl rfl h55) rfl rfl rfl ?_) | (refine cL_lss ?_; refine L_valB (R_ltI rfl rfl) hbt rfl rfl rfl ?_)) | refine G_exit rfl ?_ | refine r112 ?_))
    refine L_storeA (vs := tyCells 9 0 0 false (.slice qv ts.length cv) ⟨#[]⟩) rfl st.h4 rfl rfl rfl rfl rfl rfl fun w9 h9 e9 s9 => ?_
    (refine r111 ?_)
    refine G_retC rfl rfl h9 rfl ?_
    obtain ⟨H9, g9, hd9⟩ := st.done e9 (by decide) (by decide) (by decide) (by omega)
    rw [htl, List.take_length] at hrel
    exact ⟨_, rfl, _, H9, _, rfl, g9, hd9, by simp [ident, alikeP, hrel.len, hrel.id, hrel.nm rfl]⟩
end
end Go.Proofs.YtjilnjifegeceaaGreatDoor

/-
  The thin package's 'back': function types, defined types.
-/
namespace Go.Proofs.YtjilnjifegeceaaGreatDoor
set_option maxRecDepth 100000
set_option maxHeartbeats 4000000
attribute [local irreducible] Calls execOp

theorem r113 {G G' : Prop} (k : G') (h : Hid G' → G := by intro k_; (first | (refine cL ?_; first | (refine cL_move ?_; refine L_val R_move rfl rfl rfl ?_) | (refine cL_assign ?_; refine L_val R_assign rfl rfl rfl ?_) | (refine cL_call ?_; refine L_val (R_len rfl) rfl rfl rfl ?_) | refine L_nil ?_) | refine G_seq ?_ | refine G_region ?_ | refine G_skip ?_ | refine G_block ?_ | refine G_end ?_ | refine G_true rfl ?_ | refine G_false rfl ?_); exact k_.out) : G := h ⟨k⟩
theorem r114 {G G' A : Prop} (ag : A) (k : G') (h : Hid G' → A → G := by intro k_ ag_; (first | (refine cX_move ?_; first | refine X_val0 (fun _ _ => R_move) rfl rfl ?_ | refine X_pure (fun _ => R_move) rfl rfl ?_) | (refine cX_load ?_; refine X_val0 (fun w he => R_loadH (ag_ w he) rfl (by assumption) (by rfl)) rfl rfl ?_) | (refine cX_fieldAddr ?_; first | refine X_val0 (fun _ _ => R_fa rfl) rfl rfl ?_ | refine X_pure (fun _ => R_fa rfl) rfl rfl ?_) | (refine cX_nilCheck ?_; first | refine X_val0 (fun _ _ => R_nil rfl) rfl rfl ?_ | refine X_pure (fun _ => R_nil rfl) rfl rfl ?_) | (refine cX_assign ?_; first | refine X_val0 (fun _ _ => R_assign) rfl rfl ?_ | refine X_pure (fun _ => R_assign) rfl rfl ?_) | (refine cX_lss ?_; first | refine X_val0 (fun _ _ => R_ltI rfl rfl) rfl rfl ?_ | refine X_pure (fun _ => R_ltI rfl rfl) rfl rfl ?_) | (refine cX_add ?_; first | refine X_val0 (fun _ _ => R_addI rfl rfl) rfl rfl ?_ | refine X_pure (fun _ => R_addI rfl rfl) rfl rfl ?_)); exact k_.out) : G := h ⟨k⟩ ag
theorem r115 {G G' A : Prop} (ag : A) (k : G') (h : Hid G' → A → G := by intro k_ ag_; (repeat (first | (refine cX_move ?_; first | refine X_val0 (fun _ _ => R_move) rfl rfl ?_ | refine X_pure (fun _ => R_move) rfl rfl ?_) | (refine cX_load ?_; refine X_val0 (fun w he => R_loadH (ag_ w he) rfl (by assumption) (by rfl)) rfl rfl ?_) | (refine cX_fieldAddr ?_; first | refine X_val0 (fun _ _ => R_fa rfl) rfl rfl ?_ | refine X_pure (fun _ => R_fa rfl) rfl rfl ?_) | (refine cX_nilCheck ?_; first | refine X_val0 (fun _ _ => R_nil rfl) rfl rfl ?_ | refine X_pure (fun _ => R_nil rfl) rfl rfl ?_) | (refine cX_assign ?_; first | refine X_val0 (fun _ _ => R_assign) rfl rfl ?_ | refine X_pure (fun _ => R_assign) rfl rfl ?_) | (refine cX_lss ?_; first | refine X_val0 (fun _ _ => R_ltI rfl rfl) rfl rfl ?_ | refine X_pure (fun _ => R_ltI rfl rfl) rfl rfl ?_) | (refine cX_add ?_; first | refine X_val0 (fun _ _ => R_addI rfl rfl) rfl rfl ?_ | refine X_pure (fun _ => R_addI rfl rfl) rfl rfl ?_))); exact k_.out) : G := h ⟨k⟩ ag

theorem BSt.put5 {H Hi : Hp} {w w0 w1 : World} {b4 b5 : Nat} {k n n' c : Int} {b : Bool} {nm : ByteArray} {ts : List Ty} {va : Value} (st : BSt H w b4 b5 k n c b nm ts Hi va w0) (h5 : w1.heap[b5]? = some (Ob (tyCells k n' c b va nm) 26)) (e : Ext (fun k => k = b5) w0 w1) : BSt H w b4 b5 k n' c b nm ts Hi va w1 := by
  obtain ⟨cs, h1, h2⟩ := st.own
  exact ⟨⟨st.gr.le, st.gr.ag.ext e (fun j o hj hm => by rw [hm, st.n5.1] at hj; cases hj), st.gr.new, st.gr.ext.trans_new e fun j hj hm => by have := st.n5.2; omega⟩, e.heap st.ne st.h4, h5, st.n4, st.n5, st.ne, ⟨cs, h1.ext e fun g hg hm => (st.ob g hg).2.2.2 hm, h2⟩, st.ob⟩

theorem tupleLen_any {H : Hp} {us : List Value} {x : Value} (w : World) (hA : Agree H w) (hx : TupIs H us x) : Calls Tryz.prog 83 #[x] w (Ret (Is (.int .i64 (us.length : Int)) w)) := by
  rcases hx with ⟨rfl, rfl⟩ | ⟨a, sl, rfl, h1, ⟨b, cap, xs, rfl, h2, h3⟩, -⟩
  · exact tupLen_nil w
  · exact tupLen_any w hA h1

theorem tupAtV_any {H : Hp} {us : List Value} {x v : Value} {i : Nat} (hx : TupIs H us x) (hv : us[i]? = some v) : ∃ a1 cs, H a1 = some (Ob cs 186) ∧ lget cs 3 = some v ∧ ∀ w, Agree H w → Calls Tryz.prog 94 #[x, .int .i64 (i : Int)] w (Ret (Is (ptr a1) w)) := by
  have hi := (List.getElem?_eq_some_iff.1 hv).1
  rcases hx with ⟨rfl, rfl⟩ | ⟨a, sl, rfl, h1, ⟨b, cap, xs, rfl, h2, h3⟩, -⟩
  · simp at hv
  · obtain ⟨fnm, a1, pos, pkg, kd, q1, q2, q3⟩ := h3.get hv
    refine ⟨a1, _, q3, rfl, fun w hA => ?_⟩
    (refine calls_enter Tryz.func94 Tryz.ntmps94 rfl rfl ?_)
    (repeat (first | (refine cL ?_; first | (refine cL_load ?_; first | refine L_val (R_loadH hA rfl h1 rfl) rfl rfl rfl ?_ | refine L_val (R_loadH hA rfl h2 q2) rfl rfl rfl ?_) | (refine cL_indexAddr ?_; refine L_valE (R_ia rfl rfl (by omega) (by omega)) (ia0 _ _) rfl rfl rfl ?_)) | refine r12 ?_))
    (refine G_retF rfl ?_)
    exact ⟨_, rfl, rfl, rfl⟩

theorem tlLen_any {H : Hp} {tl n cap : Nat} {q : Option Addr} (w : World) (hA : Agree H w) (h : H tl = some (Ob [.slice q n cap] 275)) : Calls Tryz.prog 114 #[ptr tl] w (Ret (Is (.int .i64 (n : Int)) w)) := by
  (refine calls_enter Tryz.func114 Tryz.ntmps114 rfl rfl ?_)
  (repeat (first | (refine cL ?_; first | (refine cL_call ?_; refine L_callI (list_some _ hA h) rfl rfl ?_)) | refine r113 ?_))
  (refine G_retF rfl ?_)
  exact ⟨_, rfl, rfl, rfl⟩
theorem tlAt_any {H : Hp} {tl n cap b i T : Nat} {cs : List Value} {v : Value} (w : World) (hA : Agree H w) (h : H tl = some (Ob [.slice (some ⟨b, 0, none⟩) n cap] 275)) (h2 : H b = some (Ob cs T)) (hv : lget cs i = some v) (hi : i < n) : Calls Tryz.prog 115 #[ptr tl, .int .i64 (i : Int)] w (Ret (Is v w)) := by
  (refine calls_enter Tryz.func115 Tryz.ntmps115 rfl rfl ?_)
  (repeat (first | (refine cL ?_; first | (refine cL_load ?_; first | refine L_val (R_loadH hA rfl h rfl) rfl rfl rfl ?_ | refine L_val (R_loadH hA rfl h2 hv) rfl rfl rfl ?_) | (refine cL_indexAddr ?_; refine L_valE (R_ia rfl rfl (by omega) (by omega)) (ia0 _ _) rfl rfl rfl ?_)) | refine r12 ?_))
  (refine G_retF rfl ?_)
  exact ⟨_, rfl, rfl, rfl⟩

section
variable {E : Env} {ds : List (Int × Ty)} {p : Option Addr} {dcap bB : Nat} {H : Hp} {a : Nat} {nm : ByteArray} {c : Int} {b : Bool} (w : World) (hA : Agree H w)
include hA

theorem back_func {n : Int} {es : List Ty} {vs : List Value} {x y : Value} (hE : EnvOK E H) (hB : BuIs E H ds p dcap bB) (ih : ∀ e ∈ es, BackOK E ds p dcap bB e) (hL : RepL E H es vs) (h : H a = some (Ob [.pointer none, .pointer none, x, y, .bool b] 134)) (hx : TupIs H (vs.take c.toNat) x) (hy : TupIs H (vs.drop c.toNat) y) (h0 : 0 ≤ c) (h1 : c ≤ vs.length) (hl : es.length ≤ 1000) :
    Calls Tryz.prog 77 #[ptr bB, ptr a] w (Ret (BackSays H w (.mk 10 n c b nm es))) := by
  have hlen := hL.length
  have ht1 : (vs.take c.toNat).length = c.toNat := by rw [List.length_take]; omega
  have ht2 : (vs.drop c.toNat).length = vs.length - c.toNat := List.length_drop
  obtain ⟨cn, rfl⟩ := Int.eq_ofNat_of_zero_le h0
  simp only [Int.toNat_natCast] at hx hy ht1 ht2
  (refine calls_enter Tryz.func77 Tryz.ntmps77 rfl rfl ?_)
  (refine r111 ?_)
  refine L_allocS rfl rfl fun b4 w1 hn1 => ?_
  have hA1 := hA.ext0 hn1.ext
  have htl1 := tupleLen_any w1 hA1 hx
  rw [ht1] at htl1
  (repeat (first | (refine cL ?_; first | (refine cL_call ?_; first | refine L_callI (get_gParams _ hA1 h rfl) rfl rfl ?_ | refine L_callI htl1 rfl rfl ?_ | refine L_callI (get_gVariadic _ hA1 h rfl) rfl rfl ?_) | (refine cL_build ?_; refine L_val (R_build (cs := tyCells 10 0 (cn : Int) b (.slice none 0 0) ⟨#[]⟩) rfl) rfl rfl rfl ?_)) | refine r112 ?_))
  refine L_allocS rfl rfl fun b5 w2 hn2 => ?_
  refine L_storeA (vs := tyCells 10 0 (cn : Int) b (.slice none 0 0) ⟨#[]⟩) rfl hn2.here rfl rfl rfl rfl rfl rfl fun w3 h3' e3 s3 => ?_
  have st0 := BSt.init hA hn1 hn2 h3' e3
  have hA3 := st0.gr.ag
  clear hn1 hn2 h3' e3 s3 htl1 hA1
  have htl1 := tupleLen_any w3 hA3 hx
  rw [ht1] at htl1
  (repeat (first | (refine cL ?_; first | (refine cL_call ?_; first | refine L_callI (get_gParams _ hA3 h rfl) rfl rfl ?_ | refine L_callI htl1 rfl rfl ?_)) | refine r112 ?_))
  refine G_loop (fun f ds0 w0 => ds0 = [] ∧ ∃ (f0 : Fm) (ts : List Ty) (va : Value) (Hi : Hp), f = with_ [(17, .int .i64 (ts.length : Int)), (16, .int .i64 (cn : Int)), (0, ptr bB), (1, ptr a), (4, ptr b4), (5, ptr b5)] f0 ∧ ts.length ≤ cn ∧ BSt H w b4 b5 10 0 (cn : Int) b ⟨#[]⟩ ts Hi va w0 ∧ RelP false ts (es.take ts.length)) (fun f _ _ => countM 17 16 f)
    ⟨rfl, _, [], _, H, with_self ⟨rfl, rfl, rfl, rfl, rfl, rfl, trivial⟩, Nat.zero_le _, st0, RelP.nil false⟩ ?_
  clear st0 htl1 hA3
  rintro f ds0 wr ⟨rfl, f0, ts, va, Hi, rfl, hi, st, hrel⟩
  have hAr := st.gr.ag
  have hle := st.gr.le
  by_cases hlt : ts.length < cn
  · have hbt : decide ((ts.length : Int) < (cn : Int)) = true := decide_eq_true (by omega)
    obtain ⟨v, hv⟩ : ∃ v, vs[ts.length]? = some v := ⟨_, List.getElem?_eq_getElem (by omega)⟩
    obtain ⟨e, he, hre⟩ := hL.get hv
    have hv1 : (vs.take cn)[ts.length]? = some v := by rw [List.getElem?_take_of_lt hlt]; exact hv
    obtain ⟨a1, vc, q3, q4, hat⟩ := tupAtV_any (hx.mono hle) hv1
    have hAg : ∀ w', Ext No wr w' → Agree Hi w' := fun _ he => hAr.ext0 he
    have h5r := st.h5
    have hh := hle _ _ h
    (repeat (first | (refine cL ?_; first | (refine cL_lss ?_; refine L_valB (R_ltI rfl rfl) hbt rfl rfl rfl ?_)) | refine r112 ?_))
    (refine G_drawX No (.op 0 (.op 1 (.op 2 (.op 3 (.op 4 (.op 5 (.op 6 (.op 7 (.op 8 (.op 9 (.op 10 (.op 11 (.op 12 (.op 13 (.op 14 .nil))))))))))))))) [(10, 1), (11, 1), (12, 2), (13, 3), (14, 2)] follows (by kernel_rfl) ?_)
    (repeat (first | (refine cX_load ?_; refine X_val0 (fun w he => R_loadB rfl (he.heap (fun x => x) h5r) rfl) rfl rfl ?_) | (refine cX_call ?_; first | refine X_callQ (fun w he => Is.qt (get_gParams w (hAg w he) hh rfl)) rfl ?_ | refine X_callQ (fun w he => Is.qt (hat w (hAg w he))) rfl ?_ | refine X_callQ (fun w he => Is.qt (get_oType w (hAg w he) q3 q4)) rfl ?_) | refine r114 hAg ?_))
    refine X_call (fun w' he' => ih e (List.mem_of_getElem? he) v Hi w' (hAg w' he') (hE.mono hle) (hB.mono hle) (Rep.mono hle _ _ hre)) rfl fun w1 r w2 he1 ⟨cs, H2, t', hr, g2, hd, hid⟩ => ⟨g2.ext, ?_⟩
    subst hr
    have st2 := (st.quiet he1).grow g2
    obtain ⟨q, cq, hcs, -⟩ := hd.cells
    have hd5 := hd
    rw [hcs] at hd5
    subst hcs
    refine X_make rfl rfl fun w3 he3 => ⟨_, _, R_buildSlice (vs := [.agg (tyCells t'.k t'.n t'.c t'.b (.slice q t'.es.length cq) t'.nm).toArray]) rfl rfl rfl rfl, Ext.alloc w3 _, ?_⟩
    have hn4 := newB_alloc w3 (Ob (flat [.agg (tyCells t'.k t'.n t'.c t'.b (.slice q t'.es.length cq) t'.nm).toArray]) 26)
    have st4 := (st2.quiet he3).quiet hn4.ext
    obtain ⟨cs6, hown6, hrow6⟩ := st4.own
    refine X_pushN (v := va) (n := ts.length) (xs := cs6) (us := tyCells t'.k t'.n t'.c t'.b (.slice q t'.es.length cq) t'.nm) rfl (fun w' he' => hown6.ext he' (fun _ _ h => h)) rfl (fun w' he' => he'.heap (fun x => x) hn4.here) rfl (show 0 < 6 by omega) rfl (show (ts.length + 1) * 72 ≤ 140737488355328 by omega) (by simp only [maxLen]; omega) rfl fun w5 va' w6 he5 hpu => ?_
    have st5 := st4.quiet he5
    have h56 := hpu.ext.heap (fun hx => (st5.ob b5 hx.symm).2.2.2 rfl) st5.h5
    obtain ⟨q7, c7, hva'⟩ := hpu.slice
    subst hva'
    (refine r115 hAg ?_)
    refine X_store rfl (fun w' he' => he'.heap (fun x => x) h56) rfl rfl rfl fun w7 w8 he7 h8 e8 s8 => ?_
    refine X_nil fun w9 he9 => ?_
    have st8 := (st5.push hrow6 hd5 hpu h8 e8 he7).quiet he9
    (repeat (first | (refine cL ?_; first | (refine cL_add ?_; refine L_valE (R_addI rfl rfl) (succ_i64 hlt (by omega)) rfl rfl rfl ?_)) | refine r112 ?_))
    have hl1 : (ts ++ [t']).length = ts.length + 1 := by simp
    refine G_inv ⟨⟨rfl, _, ts ++ [t'], _, H2, with_self (by rw [hl1]; exact ⟨rfl, rfl, rfl, rfl, rfl, rfl, trivial⟩), by omega, st8, ?_⟩, ?_⟩
    · rw [hl1]
      exact hrel.snoc he hid (fun h => by cases h)
    · show ((cn : Int) - ((ts.length + 1 : Nat) : Int)).toNat < ((cn : Int) - (ts.length : Int)).toNat
      omega
  · have hbt : decide ((ts.length : Int) < (cn : Int)) = false := decide_eq_false (by omega)
    have htl : ts.length = cn := by omega
    have htl2 := tupleLen_any wr hAr (hy.mono hle)
    rw [ht2] at htl2
    (repeat (first | (refine cL ?_; first | (refine cL_call ?_; first | refine L_callI (get_gResults _ hAr (hle _ _ h) rfl) rfl rfl ?_ | refine L_callI htl2 rfl rfl ?_) | (refine cL_lss ?_; refine L_valB (R_ltI rfl rfl) hbt rfl rfl rfl ?_)) | refine G_exit rfl ?_ | refine r112 ?_))
    refine G_loop (fun f ds0 w0 => ds0 = [] ∧ ∃ (f0 : Fm) (j : Nat) (ts : List Ty) (va : Value) (Hi : Hp), f = with_ [(38, .int .i64 (j : Int)), (37, .int .i64 ((vs.length - cn : Nat) : Int)), (0, ptr bB), (1, ptr a), (4, ptr b4), (5, ptr b5)] f0 ∧ j ≤ vs.length - cn ∧ ts.length = cn + j ∧ BSt H w b4 b5 10 0 (cn : Int) b ⟨#[]⟩ ts Hi va w0 ∧ RelP false ts (es.take ts.length)) (fun f _ _ => countM 38 37 f)
      ⟨rfl, _, 0, ts, va, Hi, with_self ⟨rfl, rfl, rfl, rfl, rfl, rfl, trivial⟩, Nat.zero_le _, htl, st, hrel⟩ ?_
    clear st hrel htl hle hAr hi hlt hbt htl2
    clear va ts Hi
    rintro f ds0 wr ⟨rfl, f0, j, ts, va, Hi, rfl, hj, htl, st, hrel⟩
    have hAr := st.gr.ag
    have hle := st.gr.le
    by_cases hlt : j < vs.length - cn
    · have hbt : decide ((j : Int) < ((vs.length - cn : Nat) : Int)) = true := decide_eq_true (by omega)
      obtain ⟨v, hv⟩ : ∃ v, vs[ts.length]? = some v := ⟨_, List.getElem?_eq_getElem (by omega)⟩
      obtain ⟨e, he, hre⟩ := hL.get hv
      have hv1 : (vs.drop cn)[j]? = some v := by rw [List.getElem?_drop, ← htl]; exact hv
      obtain ⟨a1, vc, q3, q4, hat⟩ := tupAtV_any (hy.mono hle) hv1
      have hAg : ∀ w', Ext No wr w' → Agree Hi w' := fun _ he => hAr.ext0 he
      have h5r := st.h5
      have hh := hle _ _ h
      (repeat (first | (refine cL ?_; first | (refine cL_lss ?_; refine L_valB (R_ltI rfl rfl) hbt rfl rfl rfl ?_)) | refine r112 ?_))
      (refine G_drawX No (.op 0 (.op 1 (.op 2 (.op 3 (.op 4 (.op 5 (.op 6 (.op 7 (.op 8 (.op 9 (.op 10 (.op 11 (.op 12 (.op 13 (.op 14 .nil))))))))))))))) [(10, 1), (11, 1), (12, 2), (13, 3), (14, 2)] follows (by kernel_rfl) ?_)
      (repeat (first | (refine cX_load ?_; refine X_val0 (fun w he => R_loadB rfl (he.heap (fun x => x) h5r) rfl) rfl rfl ?_) | (refine cX_call ?_; first | refine X_callQ (fun w he => Is.qt (get_gResults w (hAg w he) hh rfl)) rfl ?_ | refine X_callQ (fun w he => Is.qt (hat w (hAg w he))) rfl ?_ | refine X_callQ (fun w he => Is.qt (get_oType w (hAg w he) q3 q4)) rfl ?_) | refine r114 hAg ?_))
      refine X_call (fun w' he' => ih e (List.mem_of_getElem? he) v Hi w' (hAg w' he') (hE.mono hle) (hB.mono hle) (Rep.mono hle _ _ hre)) rfl fun w1 r w2 he1 ⟨cs, H2, t', hr, g2, hd, hid⟩ => ⟨g2.ext, ?_⟩
      subst hr
      have st2 := (st.quiet he1).grow g2
      obtain ⟨q, cq, hcs, -⟩ := hd.cells
      have hd5 := hd
      rw [hcs] at hd5
      subst hcs
      refine X_make rfl rfl fun w3 he3 => ⟨_, _, R_buildSlice (vs := [.agg (tyCells t'.k t'.n t'.c t'.b (.slice q t'.es.length cq) t'.nm).toArray]) rfl rfl rfl rfl, Ext.alloc w3 _, ?_⟩
      have hn4 := newB_alloc w3 (Ob (flat [.agg (tyCells t'.k t'.n t'.c t'.b (.slice q t'.es.length cq) t'.nm).toArray]) 26)
      have st4 := (st2.quiet he3).quiet hn4.ext
      obtain ⟨cs6, hown6, hrow6⟩ := st4.own
      refine X_pushN (v := va) (n := ts.length) (xs := cs6) (us := tyCells t'.k t'.n t'.c t'.b (.slice q t'.es.length cq) t'.nm) rfl (fun w' he' => hown6.ext he' (fun _ _ h => h)) rfl (fun w' he' => he'.heap (fun x => x) hn4.here) rfl (show 0 < 6 by omega) rfl (show (ts.length + 1) * 72 ≤ 140737488355328 by omega) (by simp only [maxLen]; omega) rfl fun w5 va' w6 he5 hpu => ?_
      have st5 := st4.quiet he5
      have h56 := hpu.ext.heap (fun hx => (st5.ob b5 hx.symm).2.2.2 rfl) st5.h5
      obtain ⟨q7, c7, hva'⟩ := hpu.slice
      subst hva'
      (refine r115 hAg ?_)
      refine X_store rfl (fun w' he' => he'.heap (fun x => x) h56) rfl rfl rfl fun w7 w8 he7 h8 e8 s8 => ?_
      refine X_nil fun w9 he9 => ?_
      have st8 := (st5.push hrow6 hd5 hpu h8 e8 he7).quiet he9
      (repeat (first | (refine cL ?_; first | (refine cL_add ?_; refine L_valE (R_addI rfl rfl) (succ_i64 hlt (by omega)) rfl rfl rfl ?_)) | refine r112 ?_))
      have hl1 : (ts ++ [t']).length = ts.length + 1 := by simp
      refine G_inv ⟨⟨rfl, _, j + 1, ts ++ [t'], _, H2, with_self ⟨rfl, rfl, rfl, rfl, rfl, rfl, trivial⟩, by omega, by omega, st8, ?_⟩, ?_⟩
      · rw [hl1]
        exact hrel.snoc he hid (fun h => by cases h)
      · show (((vs.length - cn : Nat) : Int) - ((j + 1 : Nat) : Int)).toNat < (((vs.length - cn : Nat) : Int) - (j : Int)).toNat
        omega
    · have hbt : decide ((j : Int) < ((vs.length - cn : Nat) : Int)) = false := decide_eq_false (by omega)
      have htl : ts.length = es.length := by omega
      have h55 := st.h5
      obtain ⟨qv, cv, hva⟩ := st.sl
      subst hva
      (repeat (first | (refine cL ?_; first | (refine cL_load ?_; refine L_val (R_loadAB rfl rfl h55) rfl rfl rfl ?_) | (refine cL_lss ?_; refine L_valB (R_ltI rfl rfl) hbt rfl rfl rfl ?_)) | refine G_exit rfl ?_ | refine r112 ?_))
      refine L_storeA (vs := tyCells 10 0 (cn : Int) b (.slice qv ts.length cv) ⟨#[]⟩) rfl st.h4 rfl rfl rfl rfl rfl rfl fun w9 h9 e9 s9 => ?_
      (refine r111 ?_)
      refine G_retC rfl rfl h9 rfl ?_
      obtain ⟨H9, g9, hd9⟩ := st.done e9 (by decide) (by decide) (i64_small h0 (by omega)) (by omega)
      rw [htl, List.take_length] at hrel
      exact ⟨_, rfl, _, H9, _, rfl, g9, hd9, by simp [ident, alikeP, hrel.len, hrel.id]⟩
end
end Go.Proofs.YtjilnjifegeceaaGreatDoor

/-
  The thin package's 'back': defined types; the whole.
-/
namespace Go.Proofs.YtjilnjifegeceaaGreatDoor
set_option maxRecDepth 100000
set_option maxHeartbeats 4000000
attribute [local irreducible] Calls execOp

theorem r116 {G G' : Prop} (k : G') (h : Hid G' → G := by intro k_; (repeat (first | (refine cL ?_; first | (refine cL_move ?_; refine L_val R_move rfl rfl rfl ?_) | (refine cL_load ?_; first | refine L_val (R_loadB rfl (by assumption) (by rfl)) rfl rfl rfl ?_ | refine L_val (R_loadH (by assumption) rfl (by assumption) (by rfl)) rfl rfl rfl ?_) | (refine cL_fieldAddr ?_; refine L_val (R_fa rfl) rfl rfl rfl ?_) | (refine cL_nilCheck ?_; refine L_val (R_nil rfl) rfl rfl rfl ?_) | (refine cL_assign ?_; refine L_val R_assign rfl rfl rfl ?_) | (refine cL_call ?_; refine L_val (R_len rfl) rfl rfl rfl ?_) | (refine cL_eql ?_; first | refine L_val (R_eqPN rfl rfl) rfl rfl rfl ?_ | refine L_val (R_eqI rfl rfl) rfl rfl rfl ?_ | refine L_val (R_eqB rfl rfl) rfl rfl rfl ?_ | refine L_val (R_eqIfN rfl rfl) rfl rfl rfl ?_ | refine L_val (R_eqIfNN rfl) rfl rfl rfl ?_) | (refine cL_neq ?_; first | refine L_val (R_nePN rfl rfl) rfl rfl rfl ?_ | refine L_val (R_neI rfl rfl) rfl rfl rfl ?_ | refine L_val (R_neB rfl rfl) rfl rfl rfl ?_ | refine L_val (R_neIfN rfl rfl) rfl rfl rfl ?_ | refine L_val (R_neIfNN rfl) rfl rfl rfl ?_) | (refine cL_lss ?_; refine L_val (R_ltI rfl rfl) rfl rfl rfl ?_) | (refine cL_add ?_; refine L_val (R_addI rfl rfl) rfl rfl rfl ?_) | refine L_nil ?_) | refine G_seq ?_ | refine G_region ?_ | refine G_skip ?_ | refine G_block ?_ | refine G_end ?_ | refine G_true rfl ?_ | refine G_false rfl ?_)); exact k_.out) : G := h ⟨k⟩
theorem r117 {G G' : Prop} (k : G') (h : Hid G' → G := by intro k_; (first | (refine cL ?_; first | (refine cL_move ?_; refine L_val R_move rfl rfl rfl ?_) | (refine cL_load ?_; first | refine L_val (R_loadB rfl (by assumption) (by rfl)) rfl rfl rfl ?_ | refine L_val (R_loadH (by assumption) rfl (by assumption) (by rfl)) rfl rfl rfl ?_) | (refine cL_fieldAddr ?_; refine L_val (R_fa rfl) rfl rfl rfl ?_) | (refine cL_nilCheck ?_; refine L_val (R_nil rfl) rfl rfl rfl ?_) | (refine cL_assign ?_; refine L_val R_assign rfl rfl rfl ?_) | (refine cL_call ?_; refine L_val (R_len rfl) rfl rfl rfl ?_) | (refine cL_eql ?_; first | refine L_val (R_eqPN rfl rfl) rfl rfl rfl ?_ | refine L_val (R_eqI rfl rfl) rfl rfl rfl ?_ | refine L_val (R_eqB rfl rfl) rfl rfl rfl ?_ | refine L_val (R_eqIfN rfl rfl) rfl rfl rfl ?_ | refine L_val (R_eqIfNN rfl) rfl rfl rfl ?_) | (refine cL_neq ?_; first | refine L_val (R_nePN rfl rfl) rfl rfl rfl ?_ | refine L_val (R_neI rfl rfl) rfl rfl rfl ?_ | refine L_val (R_neB rfl rfl) rfl rfl rfl ?_ | refine L_val (R_neIfN rfl rfl) rfl rfl rfl ?_ | refine L_val (R_neIfNN rfl) rfl rfl rfl ?_) | (refine cL_lss ?_; refine L_val (R_ltI rfl rfl) rfl rfl rfl ?_) | (refine cL_add ?_; refine L_val (R_addI rfl rfl) rfl rfl rfl ?_) | refine L_nil ?_) | refine G_seq ?_ | refine G_region ?_ | refine G_skip ?_ | refine G_block ?_ | refine G_end ?_ | refine G_true rfl ?_ | refine G_false rfl ?_); exact k_.out) : G := h ⟨k⟩
theorem r118 {G G' A : Prop} (ag : A) (k : G') (h : Hid G' → A → G := by intro k_ ag_; (first | (refine cX_move ?_; first | refine X_val0 (fun _ _ => R_move) rfl rfl ?_ | refine X_pure (fun _ => R_move) rfl rfl ?_) | (refine cX_load ?_; refine X_val0 (fun w he => R_loadH (ag_ w he) rfl (by assumption) (by rfl)) rfl rfl ?_) | (refine cX_fieldAddr ?_; first | refine X_val0 (fun _ _ => R_fa rfl) rfl rfl ?_ | refine X_pure (fun _ => R_fa rfl) rfl rfl ?_) | (refine cX_nilCheck ?_; first | refine X_val0 (fun _ _ => R_nil rfl) rfl rfl ?_ | refine X_pure (fun _ => R_nil rfl) rfl rfl ?_) | (refine cX_assign ?_; first | refine X_val0 (fun _ _ => R_assign) rfl rfl ?_ | refine X_pure (fun _ => R_assign) rfl rfl ?_) | (refine cX_call ?_; first | refine X_val0 (fun _ _ => R_len rfl) rfl rfl ?_ | refine X_pure (fun _ => R_len rfl) rfl rfl ?_) | (refine cX_eql ?_; first | refine X_val0 (fun _ _ => R_eqPN rfl rfl) rfl rfl ?_ | refine X_pure (fun _ => R_eqPN rfl rfl) rfl rfl ?_ | refine X_val0 (fun _ _ => R_eqI rfl rfl) rfl rfl ?_ | refine X_pure (fun _ => R_eqI rfl rfl) rfl rfl ?_ | refine X_val0 (fun _ _ => R_eqB rfl rfl) rfl rfl ?_ | refine X_pure (fun _ => R_eqB rfl rfl) rfl rfl ?_ | refine X_val0 (fun _ _ => R_eqIfN rfl rfl) rfl rfl ?_ | refine X_pure (fun _ => R_eqIfN rfl rfl) rfl rfl ?_ | refine X_val0 (fun _ _ => R_eqIfNN rfl) rfl rfl ?_ | refine X_pure (fun _ => R_eqIfNN rfl) rfl rfl ?_) | (refine cX_neq ?_; first | refine X_val0 (fun _ _ => R_nePN rfl rfl) rfl rfl ?_ | refine X_pure (fun _ => R_nePN rfl rfl) rfl rfl ?_ | refine X_val0 (fun _ _ => R_neI rfl rfl) rfl rfl ?_ | refine X_pure (fun _ => R_neI rfl rfl) rfl rfl ?_ | refine X_val0 (fun _ _ => R_neB rfl rfl) rfl rfl ?_ | refine X_pure (fun _ => R_neB rfl rfl) rfl rfl ?_ | refine X_val0 (fun _ _ => R_neIfN rfl rfl) rfl rfl ?_ | refine X_pure (fun _ => R_neIfN rfl rfl) rfl rfl ?_ | refine X_val0 (fun _ _ => R_neIfNN rfl) rfl rfl ?_ | refine X_pure (fun _ => R_neIfNN rfl) rfl rfl ?_) | (refine cX_lss ?_; first | refine X_val0 (fun _ _ => R_ltI rfl rfl) rfl rfl ?_ | refine X_pure (fun _ => R_ltI rfl rfl) rfl rfl ?_) | (refine cX_add ?_; first | refine X_val0 (fun _ _ => R_addI rfl rfl) rfl rfl ?_ | refine X_pure (fun _ => R_addI rfl rfl) rfl rfl ?_)); exact k_.out) : G := h ⟨k⟩ ag
theorem r119 {G G' A : Prop} (ag : A) (k : G') (h : Hid G' → A → G := by intro k_ ag_; (repeat (first | (refine cX_move ?_; first | refine X_val0 (fun _ _ => R_move) rfl rfl ?_ | refine X_pure (fun _ => R_move) rfl rfl ?_) | (refine cX_load ?_; refine X_val0 (fun w he => R_loadH (ag_ w he) rfl (by assumption) (by rfl)) rfl rfl ?_) | (refine cX_fieldAddr ?_; first | refine X_val0 (fun _ _ => R_fa rfl) rfl rfl ?_ | refine X_pure (fun _ => R_fa rfl) rfl rfl ?_) | (refine cX_nilCheck ?_; first | refine X_val0 (fun _ _ => R_nil rfl) rfl rfl ?_ | refine X_pure (fun _ => R_nil rfl) rfl rfl ?_) | (refine cX_assign ?_; first | refine X_val0 (fun _ _ => R_assign) rfl rfl ?_ | refine X_pure (fun _ => R_assign) rfl rfl ?_) | (refine cX_call ?_; first | refine X_val0 (fun _ _ => R_len rfl) rfl rfl ?_ | refine X_pure (fun _ => R_len rfl) rfl rfl ?_) | (refine cX_eql ?_; first | refine X_val0 (fun _ _ => R_eqPN rfl rfl) rfl rfl ?_ | refine X_pure (fun _ => R_eqPN rfl rfl) rfl rfl ?_ | refine X_val0 (fun _ _ => R_eqI rfl rfl) rfl rfl ?_ | refine X_pure (fun _ => R_eqI rfl rfl) rfl rfl ?_ | refine X_val0 (fun _ _ => R_eqB rfl rfl) rfl rfl ?_ | refine X_pure (fun _ => R_eqB rfl rfl) rfl rfl ?_ | refine X_val0 (fun _ _ => R_eqIfN rfl rfl) rfl rfl ?_ | refine X_pure (fun _ => R_eqIfN rfl rfl) rfl rfl ?_ | refine X_val0 (fun _ _ => R_eqIfNN rfl) rfl rfl ?_ | refine X_pure (fun _ => R_eqIfNN rfl) rfl rfl ?_) | (refine cX_neq ?_; first | refine X_val0 (fun _ _ => R_nePN rfl rfl) rfl rfl ?_ | refine X_pure (fun _ => R_nePN rfl rfl) rfl rfl ?_ | refine X_val0 (fun _ _ => R_neI rfl rfl) rfl rfl ?_ | refine X_pure (fun _ => R_neI rfl rfl) rfl rfl ?_ | refine X_val0 (fun _ _ => R_neB rfl rfl) rfl rfl ?_ | refine X_pure (fun _ => R_neB rfl rfl) rfl rfl ?_ | refine X_val0 (fun _ _ => R_neIfN rfl rfl) rfl rfl ?_ | refine X_pure (fun _ => R_neIfN rfl rfl) rfl rfl ?_ | refine X_val0 (fun _ _ => R_neIfNN rfl) rfl rfl ?_ | refine X_pure (fun _ => R_neIfNN rfl) rfl rfl ?_) | (refine cX_lss ?_; first | refine X_val0 (fun _ _ => R_ltI rfl rfl) rfl rfl ?_ | refine X_pure (fun _ => R_ltI rfl rfl) rfl rfl ?_) | (refine cX_add ?_; first | refine X_val0 (fun _ _ => R_addI rfl rfl) rfl rfl ?_ | refine X_pure (fun _ => R_addI rfl rfl) rfl rfl ?_))); exact k_.out) : G := h ⟨k⟩ ag

section
variable {E : Env} {ds : List (Int × Ty)} {p : Option Addr} {dcap bB : Nat} {H : Hp} {a : Nat} {nm : ByteArray} {c : Int} {b : Bool} (w : World) (hA : Agree H w)
include hA

theorem back_named {n : Int} {es : List Ty} {vs : List Value} {d : Nat} (hE : EnvOK E H) (hB : BuIs E H ds p dcap bB) (ih : ∀ e ∈ es, BackOK E ds p dcap bB e) (hL : RepL E H es vs) (hn : E.decls[n.toNat]? = some d) (h0 : 0 ≤ n) (ho : Orig H a d) (h16 : E.decls.length ≤ 1000) (hl : es.length ≤ 1000)
    (hargs : (es = [] ∧ ∀ w, Agree H w → Calls Tryz.prog 88 #[ptr a] w (Ret (Is (.pointer none) w))) ∨
      ∃ tl bt r cap, (∀ w, Agree H w → Calls Tryz.prog 88 #[ptr a] w (Ret (Is (ptr tl) w))) ∧ H tl = some (Ob [.slice (some ⟨bt, 0, none⟩) vs.length cap] 275) ∧ H bt = some (Ob (vs ++ r) 60)) :
    Calls Tryz.prog 66 #[ptr bB, ptr a] w (Ret (BackSays H w (.mk 1 n c b nm es))) := by
  have hlen := hL.length
  obtain ⟨n0, rfl⟩ := Int.eq_ofNat_of_zero_le h0
  simp only [Int.toNat_natCast] at hn
  have hn0 := (List.getElem?_eq_some_iff.1 hn).1
  obtain ⟨pk, vd, cd, vp, cp, hb1, hb2, hb3⟩ := hB.blk
  have hdl : ∀ (j x : Nat), E.decls[j]? = some x → LiveH H x := fun j x hx => let ⟨c, o, r, h1, h2⟩ := hE.dl j x hx; ⟨_, _, _, h2⟩
  (refine calls_enter Tryz.func66 Tryz.ntmps66 rfl rfl ?_)
  (refine r116 ?_)
  refine L_allocS rfl rfl fun b4 w1 hn1 => ?_
  (repeat (first | (refine cL ?_; first | (refine cL_build ?_; refine L_val (R_build (cs := tyCells 1 (-1) 0 false (.slice none 0 0) ⟨#[]⟩) rfl) rfl rfl rfl ?_)) | refine r117 ?_))
  refine L_allocS rfl rfl fun b5 w2 hn2 => ?_
  refine L_storeA (vs := tyCells 1 (-1) 0 false (.slice none 0 0) ⟨#[]⟩) rfl hn2.here rfl rfl rfl rfl rfl rfl fun w3 h3' e3 s3 => ?_
  have st0 := BSt.init hA hn1 hn2 h3' e3
  have hA3 := st0.gr.ag
  clear hn1 hn2 h3' e3 s3
  (refine r116 ?_)
  refine G_loop (fun f ds0 w0 => ds0 = [] ∧ ∃ (f0 : Fm) (j : Nat), f = with_ [(16, .int .i64 (j : Int)), (15, .int .i64 (E.decls.length : Int)), (0, ptr bB), (1, ptr a), (4, ptr b4), (5, ptr b5), (14, .slice vd E.decls.length cd)] f0 ∧ j ≤ E.decls.length ∧ BSt H w b4 b5 1 (if j ≤ n0 then -1 else (n0 : Int)) 0 false ⟨#[]⟩ [] H (.slice none 0 0) w0) (fun f _ _ => countM 16 15 f)
    ⟨rfl, _, 0, with_self ⟨rfl, rfl, rfl, rfl, rfl, rfl, rfl, trivial⟩, Nat.zero_le _, by rw [if_pos (Nat.zero_le _)]; exact st0⟩ ?_
  clear st0 hA3
  rintro f ds0 wr ⟨rfl, f0, j, rfl, hj, st⟩
  have hAr := st.gr.ag
  by_cases hlt : j < E.decls.length
  · have hbt : decide ((j : Int) < (E.decls.length : Int)) = true := decide_eq_true (by omega)
    obtain ⟨x, hx⟩ : ∃ x, E.decls[j]? = some x := ⟨_, List.getElem?_eq_getElem hlt⟩
    obtain ⟨g, gcs, T, rfl, hg1, hg2⟩ := hb2 j x hx
    have hlx := hAr.live (i := 0) (hdl j x hx)
    have hld := hAr.live (i := 0) (hdl n0 d hn)
    by_cases hjn : j = n0
    · subst hjn
      rw [hn] at hx
      injection hx with hx
      subst hx
      have h55 := st.h5
      (repeat (first | (refine cL ?_; first | (refine cL_load ?_; refine L_val (R_loadH hAr rfl hg1 hg2) rfl rfl rfl ?_) | (refine cL_call ?_; refine L_callI (origin_any _ hAr ho) rfl rfl ?_) | (refine cL_eql ?_; refine L_valB (R_eqP rfl rfl hld hlx) (peq_self _) rfl rfl rfl ?_) | (refine cL_lss ?_; refine L_valB (R_ltI rfl rfl) hbt rfl rfl rfl ?_) | (refine cL_indexAddr ?_; refine L_valE (R_ia rfl rfl (by omega) (by omega)) (ia0 _ _) rfl rfl rfl ?_)) | refine r117 ?_))
      refine L_store rfl h55 rfl rfl rfl fun w4 h4 e4 s4 => ?_
      (repeat (first | (refine cL ?_; first | (refine cL_add ?_; refine L_valE (R_addI rfl rfl) (succ_i64 hlt (by omega)) rfl rfl rfl ?_)) | refine r117 ?_))
      have st4 : BSt H w b4 b5 1 (if j + 1 ≤ j then -1 else (j : Int)) 0 false ⟨#[]⟩ [] H (.slice none 0 0) w4 := by
        rw [if_neg (by omega)]
        exact st.put5 h4 e4
      refine G_inv ⟨⟨rfl, _, j + 1, with_self ⟨rfl, rfl, rfl, rfl, rfl, rfl, rfl, trivial⟩, hlt, st4⟩, ?_⟩
      show ((E.decls.length : Int) - ((j + 1 : Nat) : Int)).toNat < ((E.decls.length : Int) - (j : Int)).toNat
      omega
    · have hne : x ≠ d := fun h => hjn (nodup_inj hE.dn hx (h ▸ hn))
      (repeat (first | (refine cL ?_; first | (refine cL_load ?_; refine L_val (R_loadH hAr rfl hg1 hg2) rfl rfl rfl ?_) | (refine cL_call ?_; refine L_callI (origin_any _ hAr ho) rfl rfl ?_) | (refine cL_eql ?_; refine L_valB (R_eqP rfl rfl hlx hld) (peq_false hne) rfl rfl rfl ?_) | (refine cL_lss ?_; refine L_valB (R_ltI rfl rfl) hbt rfl rfl rfl ?_) | (refine cL_indexAddr ?_; refine L_valE (R_ia rfl rfl (by omega) (by omega)) (ia0 _ _) rfl rfl rfl ?_) | (refine cL_add ?_; refine L_valE (R_addI rfl rfl) (succ_i64 hlt (by omega)) rfl rfl rfl ?_)) | refine r117 ?_))
      have st4 : BSt H w b4 b5 1 (if j + 1 ≤ n0 then -1 else (n0 : Int)) 0 false ⟨#[]⟩ [] H (.slice none 0 0) wr := by
        have e : (if j + 1 ≤ n0 then (-1 : Int) else (n0 : Int)) = if j ≤ n0 then -1 else (n0 : Int) := by
          by_cases hh : j ≤ n0
          · rw [if_pos hh, if_pos (by omega)]
          · rw [if_neg hh, if_neg (by omega)]
        rw [e]
        exact st
      refine G_inv ⟨⟨rfl, _, j + 1, with_self ⟨rfl, rfl, rfl, rfl, rfl, rfl, rfl, trivial⟩, hlt, st4⟩, ?_⟩
      show ((E.decls.length : Int) - ((j + 1 : Nat) : Int)).toNat < ((E.decls.length : Int) - (j : Int)).toNat
      omega
  · have hbt : decide ((j : Int) < (E.decls.length : Int)) = false := decide_eq_false (by omega)
    rw [if_neg (by omega)] at st
    rcases hargs with ⟨hnil, hta⟩ | ⟨tl, bt, r0, tcap, hta, ht1, ht2⟩
    · subst hnil
      have h55 := st.h5
      (repeat (first | (refine cL ?_; first | (refine cL_load ?_; refine L_val (R_loadAB rfl rfl h55) rfl rfl rfl ?_) | (refine cL_call ?_; refine L_callI (hta _ hAr) rfl rfl ?_) | (refine cL_lss ?_; refine L_valB (R_ltI rfl rfl) hbt rfl rfl rfl ?_)) | refine G_exit rfl ?_ | refine r117 ?_))
      refine L_storeA (vs := tyCells 1 (n0 : Int) 0 false (.slice none 0 0) ⟨#[]⟩) rfl st.h4 rfl rfl rfl rfl rfl rfl fun w9 h9 e9 s9 => ?_
      (refine r116 ?_)
      refine G_retC rfl rfl h9 rfl ?_
      obtain ⟨H9, g9, hd9⟩ := st.done e9 (by decide) (i64_small h0 (by omega)) (by decide) (by simp)
      exact ⟨_, rfl, _, H9, _, rfl, g9, hd9, by simp [ident, identL, alikeP]⟩
    · have htl := tlLen_any wr hAr ht1
      (repeat (first | (refine cL ?_; first | (refine cL_call ?_; first | refine L_callI (hta _ hAr) rfl rfl ?_ | refine L_callI htl rfl rfl ?_) | (refine cL_lss ?_; refine L_valB (R_ltI rfl rfl) hbt rfl rfl rfl ?_)) | refine G_exit rfl ?_ | refine r117 ?_))
      refine G_loop (fun f ds0 w0 => ds0 = [] ∧ ∃ (f0 : Fm) (ts : List Ty) (va : Value) (Hi : Hp), f = with_ [(34, .int .i64 (ts.length : Int)), (33, .int .i64 (vs.length : Int)), (0, ptr bB), (8, ptr tl), (4, ptr b4), (5, ptr b5)] f0 ∧ ts.length ≤ vs.length ∧ BSt H w b4 b5 1 (n0 : Int) 0 false ⟨#[]⟩ ts Hi va w0 ∧ RelP false ts (es.take ts.length)) (fun f _ _ => countM 34 33 f)
        ⟨rfl, _, [], _, H, with_self ⟨rfl, rfl, rfl, rfl, rfl, rfl, trivial⟩, Nat.zero_le _, st, RelP.nil false⟩ ?_
      clear st htl hAr hbt hlt hj
      clear j
      rintro f ds0 wr ⟨rfl, f0, ts, va, Hi, rfl, hi, st, hrel⟩
      have hAr := st.gr.ag
      have hle := st.gr.le
      by_cases hlt : ts.length < vs.length
      · have hbt : decide ((ts.length : Int) < (vs.length : Int)) = true := decide_eq_true (by omega)
        obtain ⟨v, hv⟩ : ∃ v, vs[ts.length]? = some v := ⟨_, List.getElem?_eq_getElem hlt⟩
        obtain ⟨e, he, hre⟩ := hL.get hv
        have hAg : ∀ w', Ext No wr w' → Agree Hi w' := fun _ he => hAr.ext0 he
        have h5r := st.h5
        have hat := fun w' (hA' : Agree Hi w') => tlAt_any w' hA' (hle _ _ ht1) (hle _ _ ht2) (show lget (vs ++ r0) ts.length = some v by rw [lget_eq, List.getElem?_append_left hlt]; exact hv) hlt
        (repeat (first | (refine cL ?_; first | (refine cL_lss ?_; refine L_valB (R_ltI rfl rfl) hbt rfl rfl rfl ?_)) | refine r117 ?_))
        (refine G_drawX No (.op 0 (.op 1 (.op 2 (.op 3 (.op 4 (.op 5 (.op 6 (.op 7 (.op 8 (.op 9 (.op 10 .nil))))))))))) [(6, 1), (7, 1), (8, 2), (9, 3), (10, 2)] follows (by kernel_rfl) ?_)
        (repeat (first | (refine cX_load ?_; refine X_val0 (fun w he => R_loadB rfl (he.heap (fun x => x) h5r) rfl) rfl rfl ?_) | (refine cX_call ?_; refine X_callQ (fun w he => Is.qt (hat w (hAg w he))) rfl ?_) | refine r118 hAg ?_))
        refine X_call (fun w' he' => ih e (List.mem_of_getElem? he) v Hi w' (hAg w' he') (hE.mono hle) (hB.mono hle) (Rep.mono hle _ _ hre)) rfl fun w1 r w2 he1 ⟨cs, H2, t', hr, g2, hd, hid⟩ => ⟨g2.ext, ?_⟩
        subst hr
        have st2 := (st.quiet he1).grow g2
        obtain ⟨q, cq, hcs, -⟩ := hd.cells
        have hd5 := hd
        rw [hcs] at hd5
        subst hcs
        refine X_make rfl rfl fun w3 he3 => ⟨_, _, R_buildSlice (vs := [.agg (tyCells t'.k t'.n t'.c t'.b (.slice q t'.es.length cq) t'.nm).toArray]) rfl rfl rfl rfl, Ext.alloc w3 _, ?_⟩
        have hn4 := newB_alloc w3 (Ob (flat [.agg (tyCells t'.k t'.n t'.c t'.b (.slice q t'.es.length cq) t'.nm).toArray]) 26)
        have st4 := (st2.quiet he3).quiet hn4.ext
        obtain ⟨cs6, hown6, hrow6⟩ := st4.own
        refine X_pushN (v := va) (n := ts.length) (xs := cs6) (us := tyCells t'.k t'.n t'.c t'.b (.slice q t'.es.length cq) t'.nm) rfl (fun w' he' => hown6.ext he' (fun _ _ h => h)) rfl (fun w' he' => he'.heap (fun x => x) hn4.here) rfl (show 0 < 6 by omega) rfl (show (ts.length + 1) * 72 ≤ 140737488355328 by omega) (by simp only [maxLen]; omega) rfl fun w5 va' w6 he5 hpu => ?_
        have st5 := st4.quiet he5
        have h56 := hpu.ext.heap (fun hx => (st5.ob b5 hx.symm).2.2.2 rfl) st5.h5
        obtain ⟨q7, c7, hva'⟩ := hpu.slice
        subst hva'
        (refine r119 hAg ?_)
        refine X_store rfl (fun w' he' => he'.heap (fun x => x) h56) rfl rfl rfl fun w7 w8 he7 h8 e8 s8 => ?_
        refine X_nil fun w9 he9 => ?_
        have st8 := (st5.push hrow6 hd5 hpu h8 e8 he7).quiet he9
        (repeat (first | (refine cL ?_; first | (refine cL_add ?_; refine L_valE (R_addI rfl rfl) (succ_i64 hlt (by omega)) rfl rfl rfl ?_)) | refine r117 ?_))
        have hl1 : (ts ++ [t']).length = ts.length + 1 := by simp
        refine G_inv ⟨⟨rfl, _, ts ++ [t'], _, H2, with_self (by rw [hl1]; exact ⟨rfl, rfl, rfl, rfl, rfl, rfl, trivial⟩), by omega, st8, ?_⟩, ?_⟩
        · rw [hl1]
          exact hrel.snoc he hid (fun h => by cases h)
        · show ((vs.length : Int) - ((ts.length + 1 : Nat) : Int)).toNat < ((vs.length : Int) - (ts.length : Int)).toNat
          omega
      · have hbt : decide ((ts.length : Int) < (vs.length : Int)) = false := decide_eq_false (by omega)
        have htl : ts.length = es.length := by omega
        have h55 := st.h5
        obtain ⟨qv, cv, hva⟩ := st.sl
        subst hva
        (repeat (first | (refine cL ?_; first | (refine cL_load ?_; refine L_val (R_loadAB rfl rfl h55) rfl rfl rfl ?_) | (refine cL_lss ?_; refine L_valB (R_ltI rfl rfl) hbt rfl rfl rfl ?_)) | refine G_exit rfl ?_ | refine r117 ?_))
        refine L_storeA (vs := tyCells 1 (n0 : Int) 0 false (.slice qv ts.length cv) ⟨#[]⟩) rfl st.h4 rfl rfl rfl rfl rfl rfl fun w9 h9 e9 s9 => ?_
        (refine r116 ?_)
        refine G_retC rfl rfl h9 rfl ?_
        obtain ⟨H9, g9, hd9⟩ := st.done e9 (by decide) (i64_small h0 (by omega)) (by decide) (by omega)
        rw [htl, List.take_length] at hrel
        exact ⟨_, rfl, _, H9, _, rfl, g9, hd9, by simp [ident, alikeP, hrel.len, hrel.id]⟩

/-- a kind that 'back' hands on -/
theorem back_on {T f : Nat} {t : Ty} (hT : (T = 111 ∧ f = 76) ∨ (T = 113 ∧ f = 77) ∨ (T = 80 ∧ f = 66))
    (h : ∀ w, Agree H w → Calls Tryz.prog f #[ptr bB, ptr a] w (Ret (BackSays H w t))) : Calls Tryz.prog 36 #[ptr bB, .iface T (ptr a)] w (Ret (BackSays H w t)) := by
  rcases hT with ⟨rfl, rfl⟩ | ⟨rfl, rfl⟩ | ⟨rfl, rfl⟩
  all_goals
    (refine calls_enter Tryz.func36 Tryz.ntmps36 rfl rfl ?_)
    (refine r106 ?_)
    refine L_allocS rfl rfl fun b4 w1 hn1 => ?_
    have hA1 := hA.ext0 hn1.ext
    (refine r106 ?_)
    refine L_callR (h w1 hA1) rfl rfl fun r w2 ⟨cs, H2, t', hr, g2, hd, hid⟩ => ?_
    subst hr
    obtain ⟨q, cq, hcs, -⟩ := hd.cells
    have hd5 := hd
    rw [hcs] at hd5
    subst hcs
    have h42 := g2.ext.heap (fun x => x) hn1.here
    refine L_storeA (vs := tyCells t'.k t'.n t'.c t'.b (.slice q t'.es.length cq) t'.nm) rfl h42 rfl rfl rfl rfl rfl rfl fun w3 h3 e3 s3 => ?_
    (refine r106 ?_)
    refine G_retC rfl rfl h3 rfl ?_
    exact ⟨_, rfl, _, H2, t', rfl, Grow.around hn1 g2 hA e3, hd5, hid⟩
end

theorem back_any {E : Env} {ds : List (Int × Ty)} {p : Option Addr} {dcap bB : Nat} (h8 : E.params.length ≤ 1000) (h16 : E.decls.length ≤ 1000) : ∀ t : Ty, okT t → BackOK E ds p dcap bB t := by
  refine Ty.ind fun k n c b nm es ih => ?_
  intro hok v H w hA hE hB hr
  simp only [okT] at hok
  obtain ⟨hn, h17, hl, hes⟩ := hok
  have ih' : ∀ e ∈ es, BackOK E ds p dcap bB e := fun e he => ih e he (hes.mem he)
  simp only [Rep] at hr
  obtain ⟨vs, hL, hS⟩ := hr
  have hlen := hL.length
  cases hS with
  | basic h h0 =>
    have := List.length_eq_zero_iff.1 hlen
    subst this
    exact back_basic w hA h h0 (h17 rfl)
  | param hp h0 =>
    have := List.length_eq_zero_iff.1 hlen
    subst this
    exact back_param w hA hE hB h8 hp h0
  | pointer h =>
    obtain ⟨e, rfl⟩ : ∃ e, es = [e] := List.length_eq_one_iff.1 hlen
    exact back_pointer w hA hE hB (ih' e (by simp)) (by simpa [RepL] using hL) h
  | slice h =>
    obtain ⟨e, rfl⟩ : ∃ e, es = [e] := List.length_eq_one_iff.1 hlen
    exact back_slice w hA hE hB (ih' e (by simp)) (by simpa [RepL] using hL) h
  | array h h0 =>
    obtain ⟨e, rfl⟩ : ∃ e, es = [e] := List.length_eq_one_iff.1 hlen
    exact back_array w hA hn hE hB (ih' e (by simp)) (by simpa [RepL] using hL) h
  | chan h h0 h3 =>
    obtain ⟨e, rfl⟩ : ∃ e, es = [e] := List.length_eq_one_iff.1 hlen
    exact back_chan w hA h0 h3 hE hB (ih' e (by simp)) (by simpa [RepL] using hL) h
  | map h =>
    rename_i a x1 x2
    obtain ⟨e1, e2, rfl⟩ : ∃ e1 e2, es = [e1, e2] := len2 hlen
    have h2 : Rep E H e1 x1 ∧ Rep E H e2 x2 := by
      simp only [RepL] at hL
      obtain ⟨v, vs', e3, h4, v2, vs2, e5, h6, e7⟩ := hL
      subst e7
      subst e5
      simp only [List.cons.injEq, and_true] at e3
      obtain ⟨rfl, rfl⟩ := e3
      exact ⟨h4, h6⟩
    exact back_map w hA hE hB (ih' e1 (by simp)) (ih' e2 (by simp)) h2.1 h2.2 h
  | struct h hs hc hln => exact back_on w hA (.inl ⟨rfl, rfl⟩) fun w' hA' => back_struct w' hA' hE hB ih' hL h hs hl
  | func h hx hy h0 h1 => exact back_on w hA (.inr (.inl ⟨rfl, rfl⟩)) fun w' hA' => back_func w' hA' hE hB ih' hL h hx hy h0 h1 hl
  | named hd h0 ho h hu =>
    have := List.length_eq_zero_iff.1 hlen
    subst this
    exact back_on w hA (.inr (.inr ⟨rfl, rfl⟩)) fun w' hA' => back_named w' hA' hE hB ih' hL hd h0 (.inl ⟨rfl, _, _, _, _, _, _, _, h⟩) h16 hl (.inl ⟨rfl, fun w hA => typeArgs_none w hA h⟩)
  | inst hd h0 h hi ht hs hu =>
    obtain ⟨bt, cap, r, rfl, hbt⟩ := hs
    exact back_on w hA (.inr (.inr ⟨rfl, rfl⟩)) fun w' hA' => back_named w' hA' hE hB ih' hL hd h0 (.inr ⟨_, _, _, _, _, _, _, _, _, h, hi⟩) h16 hl (.inr ⟨_, bt, r, cap, fun w hA => typeArgs_some w hA h hi, ht, hbt⟩)
end Go.Proofs.YtjilnjifegeceaaGreatDoor

/-
  The thin package's builder: 'unify' on one pair, whatever is inferred.
-/
namespace Go.Proofs.YtjilnjifegeceaaGreatDoor
set_option maxRecDepth 100000
set_option maxHeartbeats 4000000
attribute [local irreducible] Calls execOp

theorem r120 {G G' : Prop} (k : G') (h : Hid G' → G := by intro k_; (repeat (first | (refine cL ?_; first | (refine cL_guard ?_; refine L_unwanted rfl rfl rfl ?_) | (refine cL_move ?_; refine L_val R_move rfl rfl rfl ?_) | (refine cL_load ?_; first | refine L_val (R_loadB rfl (by assumption) (by rfl)) rfl rfl rfl ?_ | refine L_val (R_loadH (by assumption) rfl (by assumption) (by rfl)) rfl rfl rfl ?_) | (refine cL_fieldAddr ?_; refine L_val (R_fa rfl) rfl rfl rfl ?_) | (refine cL_nilCheck ?_; refine L_val (R_nil rfl) rfl rfl rfl ?_) | (refine cL_assign ?_; refine L_val R_assign rfl rfl rfl ?_) | (refine cL_extract ?_; refine L_val (R_extract rfl rfl) rfl rfl rfl ?_) | (refine cL_call ?_; refine L_val (R_len rfl) rfl rfl rfl ?_) | (refine cL_pick ?_; first | refine L_val (R_pickT rfl) rfl rfl rfl ?_ | refine L_val (R_pickF rfl) rfl rfl rfl ?_) | (refine cL_eql ?_; first | refine L_val (R_eqPN rfl rfl) rfl rfl rfl ?_ | refine L_val (R_eqI rfl rfl) rfl rfl rfl ?_ | refine L_val (R_eqB rfl rfl) rfl rfl rfl ?_ | refine L_val (R_eqIfN rfl rfl) rfl rfl rfl ?_ | refine L_val (R_eqIfNN rfl) rfl rfl rfl ?_) | (refine cL_lss ?_; refine L_val (R_ltI rfl rfl) rfl rfl rfl ?_) | (refine cL_add ?_; refine L_val (R_addI rfl rfl) rfl rfl rfl ?_) | (refine cL_sub ?_; refine L_val (R_subI rfl rfl) rfl rfl rfl ?_) | refine L_nil ?_) | refine G_seq ?_ | refine G_region ?_ | refine G_skip ?_ | refine G_block ?_ | refine G_end ?_ | refine G_true rfl ?_ | refine G_false rfl ?_)); exact k_.out) : G := h ⟨k⟩
theorem r121 {G G' : Prop} (k : G') (h : Hid G' → G := by intro k_; (first | (refine cL ?_; first | (refine cL_guard ?_; refine L_unwanted rfl rfl rfl ?_) | (refine cL_move ?_; refine L_val R_move rfl rfl rfl ?_) | (refine cL_load ?_; first | refine L_val (R_loadB rfl (by assumption) (by rfl)) rfl rfl rfl ?_ | refine L_val (R_loadH (by assumption) rfl (by assumption) (by rfl)) rfl rfl rfl ?_) | (refine cL_fieldAddr ?_; refine L_val (R_fa rfl) rfl rfl rfl ?_) | (refine cL_nilCheck ?_; refine L_val (R_nil rfl) rfl rfl rfl ?_) | (refine cL_assign ?_; refine L_val R_assign rfl rfl rfl ?_) | (refine cL_extract ?_; refine L_val (R_extract rfl rfl) rfl rfl rfl ?_) | (refine cL_call ?_; refine L_val (R_len rfl) rfl rfl rfl ?_) | (refine cL_pick ?_; first | refine L_val (R_pickT rfl) rfl rfl rfl ?_ | refine L_val (R_pickF rfl) rfl rfl rfl ?_) | (refine cL_eql ?_; first | refine L_val (R_eqPN rfl rfl) rfl rfl rfl ?_ | refine L_val (R_eqI rfl rfl) rfl rfl rfl ?_ | refine L_val (R_eqB rfl rfl) rfl rfl rfl ?_ | refine L_val (R_eqIfN rfl rfl) rfl rfl rfl ?_ | refine L_val (R_eqIfNN rfl) rfl rfl rfl ?_) | (refine cL_lss ?_; refine L_val (R_ltI rfl rfl) rfl rfl rfl ?_) | (refine cL_add ?_; refine L_val (R_addI rfl rfl) rfl rfl rfl ?_) | (refine cL_sub ?_; refine L_val (R_subI rfl rfl) rfl rfl rfl ?_) | refine L_nil ?_) | refine G_seq ?_ | refine G_region ?_ | refine G_skip ?_ | refine G_block ?_ | refine G_end ?_ | refine G_true rfl ?_ | refine G_false rfl ?_); exact k_.out) : G := h ⟨k⟩
theorem r122 {G G' A : Prop} (ag : A) (k : G') (h : Hid G' → A → G := by intro k_ ag_; (first | (refine cX_guard ?_; refine X_unwanted rfl rfl ?_) | (refine cX_move ?_; first | refine X_val0 (fun _ _ => R_move) rfl rfl ?_ | refine X_pure (fun _ => R_move) rfl rfl ?_) | (refine cX_load ?_; refine X_val0 (fun w he => R_loadH (ag_ w he) rfl (by assumption) (by rfl)) rfl rfl ?_) | (refine cX_fieldAddr ?_; first | refine X_val0 (fun _ _ => R_fa rfl) rfl rfl ?_ | refine X_pure (fun _ => R_fa rfl) rfl rfl ?_) | (refine cX_nilCheck ?_; first | refine X_val0 (fun _ _ => R_nil rfl) rfl rfl ?_ | refine X_pure (fun _ => R_nil rfl) rfl rfl ?_) | (refine cX_assign ?_; first | refine X_val0 (fun _ _ => R_assign) rfl rfl ?_ | refine X_pure (fun _ => R_assign) rfl rfl ?_) | (refine cX_extract ?_; first | refine X_val0 (fun _ _ => R_extract rfl rfl) rfl rfl ?_ | refine X_pure (fun _ => R_extract rfl rfl) rfl rfl ?_) | (refine cX_call ?_; first | refine X_val0 (fun _ _ => R_len rfl) rfl rfl ?_ | refine X_pure (fun _ => R_len rfl) rfl rfl ?_) | (refine cX_pick ?_; first | refine X_val0 (fun _ _ => R_pickT rfl) rfl rfl ?_ | refine X_pure (fun _ => R_pickT rfl) rfl rfl ?_ | refine X_val0 (fun _ _ => R_pickF rfl) rfl rfl ?_ | refine X_pure (fun _ => R_pickF rfl) rfl rfl ?_) | (refine cX_eql ?_; first | refine X_val0 (fun _ _ => R_eqPN rfl rfl) rfl rfl ?_ | refine X_pure (fun _ => R_eqPN rfl rfl) rfl rfl ?_ | refine X_val0 (fun _ _ => R_eqI rfl rfl) rfl rfl ?_ | refine X_pure (fun _ => R_eqI rfl rfl) rfl rfl ?_ | refine X_val0 (fun _ _ => R_eqB rfl rfl) rfl rfl ?_ | refine X_pure (fun _ => R_eqB rfl rfl) rfl rfl ?_ | refine X_val0 (fun _ _ => R_eqIfN rfl rfl) rfl rfl ?_ | refine X_pure (fun _ => R_eqIfN rfl rfl) rfl rfl ?_ | refine X_val0 (fun _ _ => R_eqIfNN rfl) rfl rfl ?_ | refine X_pure (fun _ => R_eqIfNN rfl) rfl rfl ?_) | (refine cX_lss ?_; first | refine X_val0 (fun _ _ => R_ltI rfl rfl) rfl rfl ?_ | refine X_pure (fun _ => R_ltI rfl rfl) rfl rfl ?_) | (refine cX_add ?_; first | refine X_val0 (fun _ _ => R_addI rfl rfl) rfl rfl ?_ | refine X_pure (fun _ => R_addI rfl rfl) rfl rfl ?_) | (refine cX_sub ?_; first | refine X_val0 (fun _ _ => R_subI rfl rfl) rfl rfl ?_ | refine X_pure (fun _ => R_subI rfl rfl) rfl rfl ?_)); exact k_.out) : G := h ⟨k⟩ ag
theorem r123 {G G' A : Prop} (ag : A) (k : G') (h : Hid G' → A → G := by intro k_ ag_; (repeat (first | (refine cX_guard ?_; refine X_unwanted rfl rfl ?_) | (refine cX_move ?_; first | refine X_val0 (fun _ _ => R_move) rfl rfl ?_ | refine X_pure (fun _ => R_move) rfl rfl ?_) | (refine cX_load ?_; refine X_val0 (fun w he => R_loadH (ag_ w he) rfl (by assumption) (by rfl)) rfl rfl ?_) | (refine cX_fieldAddr ?_; first | refine X_val0 (fun _ _ => R_fa rfl) rfl rfl ?_ | refine X_pure (fun _ => R_fa rfl) rfl rfl ?_) | (refine cX_nilCheck ?_; first | refine X_val0 (fun _ _ => R_nil rfl) rfl rfl ?_ | refine X_pure (fun _ => R_nil rfl) rfl rfl ?_) | (refine cX_assign ?_; first | refine X_val0 (fun _ _ => R_assign) rfl rfl ?_ | refine X_pure (fun _ => R_assign) rfl rfl ?_) | (refine cX_extract ?_; first | refine X_val0 (fun _ _ => R_extract rfl rfl) rfl rfl ?_ | refine X_pure (fun _ => R_extract rfl rfl) rfl rfl ?_) | (refine cX_call ?_; first | refine X_val0 (fun _ _ => R_len rfl) rfl rfl ?_ | refine X_pure (fun _ => R_len rfl) rfl rfl ?_) | (refine cX_pick ?_; first | refine X_val0 (fun _ _ => R_pickT rfl) rfl rfl ?_ | refine X_pure (fun _ => R_pickT rfl) rfl rfl ?_ | refine X_val0 (fun _ _ => R_pickF rfl) rfl rfl ?_ | refine X_pure (fun _ => R_pickF rfl) rfl rfl ?_) | (refine cX_eql ?_; first | refine X_val0 (fun _ _ => R_eqPN rfl rfl) rfl rfl ?_ | refine X_pure (fun _ => R_eqPN rfl rfl) rfl rfl ?_ | refine X_val0 (fun _ _ => R_eqI rfl rfl) rfl rfl ?_ | refine X_pure (fun _ => R_eqI rfl rfl) rfl rfl ?_ | refine X_val0 (fun _ _ => R_eqB rfl rfl) rfl rfl ?_ | refine X_pure (fun _ => R_eqB rfl rfl) rfl rfl ?_ | refine X_val0 (fun _ _ => R_eqIfN rfl rfl) rfl rfl ?_ | refine X_pure (fun _ => R_eqIfN rfl rfl) rfl rfl ?_ | refine X_val0 (fun _ _ => R_eqIfNN rfl) rfl rfl ?_ | refine X_pure (fun _ => R_eqIfNN rfl) rfl rfl ?_) | (refine cX_lss ?_; first | refine X_val0 (fun _ _ => R_ltI rfl rfl) rfl rfl ?_ | refine X_pure (fun _ => R_ltI rfl rfl) rfl rfl ?_) | (refine cX_add ?_; first | refine X_val0 (fun _ _ => R_addI rfl rfl) rfl rfl ?_ | refine X_pure (fun _ => R_addI rfl rfl) rfl rfl ?_) | (refine cX_sub ?_; first | refine X_val0 (fun _ _ => R_subI rfl rfl) rfl rfl ?_ | refine X_pure (fun _ => R_subI rfl rfl) rfl rfl ?_))); exact k_.out) : G := h ⟨k⟩ ag
theorem r124 {G G' A : Prop} (ag : A) (k : G') (h : Hid G' → A → G := by intro k_ ag_; (first | (refine cD_guard ?_; refine D_unwanted rfl rfl ?_) | (refine cD_move ?_; refine D_val0 (fun _ _ => R_move) rfl rfl ?_) | (refine cD_load ?_; refine D_val0 (fun w he => R_loadH (ag_ w he) rfl (by assumption) (by rfl)) rfl rfl ?_) | (refine cD_fieldAddr ?_; refine D_val0 (fun _ _ => R_fa rfl) rfl rfl ?_) | (refine cD_nilCheck ?_; refine D_val0 (fun _ _ => R_nil rfl) rfl rfl ?_) | (refine cD_assign ?_; refine D_val0 (fun _ _ => R_assign) rfl rfl ?_) | (refine cD_extract ?_; refine D_val0 (fun _ _ => R_extract rfl rfl) rfl rfl ?_) | (refine cD_call ?_; refine D_val0 (fun _ _ => R_len rfl) rfl rfl ?_) | (refine cD_pick ?_; first | refine D_val0 (fun _ _ => R_pickT rfl) rfl rfl ?_ | refine D_val0 (fun _ _ => R_pickF rfl) rfl rfl ?_) | (refine cD_eql ?_; first | refine D_val0 (fun _ _ => R_eqPN rfl rfl) rfl rfl ?_ | refine D_val0 (fun _ _ => R_eqI rfl rfl) rfl rfl ?_ | refine D_val0 (fun _ _ => R_eqB rfl rfl) rfl rfl ?_ | refine D_val0 (fun _ _ => R_eqIfN rfl rfl) rfl rfl ?_ | refine D_val0 (fun _ _ => R_eqIfNN rfl) rfl rfl ?_) | (refine cD_lss ?_; refine D_val0 (fun _ _ => R_ltI rfl rfl) rfl rfl ?_) | (refine cD_add ?_; refine D_val0 (fun _ _ => R_addI rfl rfl) rfl rfl ?_) | (refine cD_sub ?_; refine D_val0 (fun _ _ => R_subI rfl rfl) rfl rfl ?_)); exact k_.out) : G := h ⟨k⟩ ag

/-- a type argument read back: none, or a type that is identical to the one in memory -/
def Bk1 (E : Env) (H : Hp) (o : Option Ty) (v : Value) : Prop := (o = none ∧ v = .nilIface) ∨ ∃ t' t, o = some t' ∧ okT t ∧ Rep E H t v ∧ ident t' t = true

def InfOne (H : Hp) : Option Ty → List Value → Prop
  | none, c => c = zInf
  | some t, c => ∃ tc, c = .bool true :: tc ∧ DTy H t tc
def InfRow (H : Hp) : List (Option Ty) → List Value → Prop
  | [], cs => cs = []
  | o :: l, cs => ∃ c r, cs = c ++ r ∧ c.length = 7 ∧ InfOne H o c ∧ InfRow H l r

theorem InfOne.mono {H H' : Hp} (hh : Hp.le H H') : ∀ {o : Option Ty} {c : List Value}, InfOne H o c → InfOne H' o c
  | none, _, h => h
  | some _, _, ⟨tc, h1, h2⟩ => ⟨tc, h1, DTy.mono hh _ _ h2⟩
theorem InfRow.mono {H H' : Hp} (hh : Hp.le H H') : ∀ {l : List (Option Ty)} {cs : List Value}, InfRow H l cs → InfRow H' l cs
  | [], _, h => h
  | _ :: _, _, ⟨c, r, h1, h2, h3, h4⟩ => ⟨c, r, h1, h2, h3.mono hh, h4.mono hh⟩
theorem InfRow.snoc {H : Hp} {o : Option Ty} {c : List Value} (ho : InfOne H o c) (hc : c.length = 7) : ∀ {l : List (Option Ty)} {cs : List Value}, InfRow H l cs → InfRow H (l ++ [o]) (cs ++ c)
  | [], cs, h => by
    simp only [InfRow] at h
    subst h
    exact ⟨c, [], by simp, hc, ho, rfl⟩
  | _ :: _, _, ⟨c1, r, h1, h2, h3, h4⟩ => ⟨c1, r ++ c, by rw [h1]; simp, h2, h3, h4.snoc ho hc⟩
theorem InfRow.get {H : Hp} {o : Option Ty} : ∀ {l : List (Option Ty)} {cs : List Value} {i : Nat}, InfRow H l cs → l[i]? = some o → ∃ c, InfOne H o c ∧ c.length = 7 ∧ ∀ (j : Nat) (v : Value) (r : List Value), lget c j = some v → lget (cs ++ r) (i * 7 + j) = some v
  | [], _, _, _, h => by simp at h
  | _ :: _, _, 0, ⟨c, r, h1, h2, h3, _⟩, h => by
    simp only [List.getElem?_cons_zero, Option.some.injEq] at h
    subst h
    refine ⟨c, h3, h2, fun j v r' hj => ?_⟩
    rw [lget_eq] at hj ⊢
    have hlt := (List.getElem?_eq_some_iff.1 hj).1
    rw [h1, List.append_assoc, Nat.zero_mul, Nat.zero_add, List.getElem?_append_left hlt]
    exact hj
  | _ :: _, _, i + 1, ⟨c, r, h1, h2, _, h4⟩, h => by
    obtain ⟨c', g1, g2, g3⟩ := InfRow.get (i := i) h4 (by simpa using h)
    refine ⟨c', g1, g2, fun j v r' hj => ?_⟩
    have h5 := g3 j v r' hj
    rw [lget_eq] at h5 ⊢
    rw [h1, List.append_assoc, List.getElem?_append_right (by omega), show (i + 1) * 7 + j - c.length = i * 7 + j by omega]
    exact h5

/-- a row of what is inferred, at its start -/
def InfSl (H : Hp) (L : List (Option Ty)) (v : Value) : Prop := ∃ q c cs, v = .slice q L.length c ∧ InfRow H L cs ∧ (L = [] ∨ ∃ g r, q = some ⟨g, 0, none⟩ ∧ H g = some (Ob (cs ++ r) 35))

theorem InfSl.mono {H H' : Hp} (hh : Hp.le H H') {L : List (Option Ty)} {v : Value} : InfSl H L v → InfSl H' L v
  | ⟨q, c, cs, h1, h2, h3⟩ => ⟨q, c, cs, h1, h2.mono hh, h3.imp id fun ⟨g, r, h4, h5⟩ => ⟨g, r, h4, hh _ _ h5⟩⟩

/-- what the state at the end tells of what is inferred -/
def Tells (E : Env) (H : Hp) (Φ : Bool → List (Option Ty) → Prop) (r : Bool) (s : HS) : Prop :=
  (∀ h ∈ s.hs, s.val h = .nilIface ∨ ∃ t, okT t ∧ Rep E H t (s.val h)) ∧
    ∀ L' : List (Option Ty), L'.length = s.hs.length → (∀ (i : Nat) (o : Option Ty) (h : Nat), L'[i]? = some o → s.hs[i]? = some h → Bk1 E H o (s.val h)) → Φ r L'

def NfTells (E : Env) (H : Hp) (x y : Ty) (m : Int) (Φ : Bool → List (Option Ty) → Prop) : Prop :=
  ∀ (H' : Hp) (vx vy : Value), Hp.le H H' → Rep E H' (substT [] x) vx → Rep E H' (substT [] y) vy → ∃ Q : Bool → HS → Prop,
    (∀ (u hm : Nat) (M : Nat → Prop) (hu : M u) (hH : ∀ b o, H' b = some o → ¬ M b) (s : HS), s.hs.length = E.params.length → s.hs.Nodup → (∀ h ∈ s.hs, s.val h = .nilIface) → Nf (mkUC H' E.params u hm M hu hH) (uMode m) vx vy 0 s Q) ∧
    ∀ r s, Q r s → s.hs.length = E.params.length → Tells E H' Φ r s

theorem inf_push {H' Hi H5 : Hp} {w3 wl w5 w6 : World} {va v6 : Value} {e : TypeId} {sz n : Nat} {cs : List Value} (gl : Grow H' w3 Hi wl) (g5 : Grow Hi wl H5 w5) (hob : ∀ g, va.ownBlock = some g → Hi g = none ∧ w3.heap.size ≤ g) (hlt : ∀ g, va.ownBlock = some g → g < wl.heap.size) (hpu : PushedN w5 w6 e sz va v6 n cs) :
    Grow H' w3 H5 w6 ∧ ∀ g, v6.ownBlock = some g → H5 g = none ∧ w3.heap.size ≤ g := by
  have g35 := gl.trans g5
  have hno : ∀ g, va.ownBlock = some g → H5 g = none := fun g hg => by
    cases hh : H5 g with
    | none => rfl
    | some o =>
      rcases g5.new g o hh with h | h
      · rw [(hob g hg).1] at h; cases h
      · have := hlt g hg; omega
  have hz := g35.ext.size
  refine ⟨⟨g35.le, g35.ag.ext hpu.ext fun b o hb hm => ?_, g35.new, g35.ext.trans_new hpu.ext fun k hk hm => by have := (hob k hm.symm).2; omega⟩, fun g hg => ?_⟩
  · rw [hno b hm.symm] at hb; cases hb
  · rcases hpu.blk with h | h
    · exact ⟨hno g (h ▸ hg), (hob g (h ▸ hg)).2⟩
    · rw [h] at hg
      injection hg with hg
      refine ⟨?_, by omega⟩
      cases hh : H5 g with
      | none => rfl
      | some o => have := g35.ag.lt hh; omega

theorem bunify_any {E : Env} {H : Hp} {ds : List (Int × Ty)} {p : Option Addr} {dcap bB gp pc : Nat} {x y : Ty} {cx cy : List Value} {m : Int} {Φ : Bool → List (Option Ty) → Prop} (w : World) (hA : Agree H w) (hP : Props H) (hbu : BuIs E H ds p dcap bB) (hx : DTy H x cx) (hy : DTy H y cy) (hd : DDl H ds p)
    (htx : TypOK E ds p dcap bB 0 x) (hty : TypOK E ds p dcap bB 0 y) (hE : EnvOK E H) (h8 : E.params.length ≤ 8) (h16 : E.decls.length ≤ 1000) (hm : m = 0 ∨ m = 1 ∨ m = 2) (hp : H gp = some (Ob (cx ++ cy) 56)) (hnf : NfTells E H x y m Φ) :
    Calls Tryz.prog 22 #[ptr bB, .slice (some ⟨gp, 0, none⟩) 1 pc, .int .i64 m] w
      (Ret fun v w' => ∃ vo r L' H2, v = .tuple #[vo, .bool r] ∧ Grow H w H2 w' ∧ InfSl H2 L' vo ∧ L'.length = E.params.length ∧ Φ r L') := by
  obtain ⟨px, capx, hcx, -⟩ := hx.cells
  obtain ⟨py, capy, hcy, -⟩ := hy.cells
  have hmu : uMode m = 0 ∨ uMode m = 1 ∨ uMode m = 2 := by rcases hm with rfl | rfl | rfl <;> simp [uMode]
  obtain ⟨pk, vd, cd, vp, cp, hb1, hb2, hb3⟩ := hbu.blk
  (refine calls_enter Tryz.func22 Tryz.ntmps22 rfl rfl ?_)
  (refine r120 ?_)
  refine G_loop (fun f ds0 w0 => ds0 = [] ∧ ((∃ f0, f = with_ [(18, .int .i64 0), (17, .int .i64 1), (0, ptr bB), (1, .slice (some ⟨gp, 0, none⟩) 1 pc), (2, .int .i64 m), (8, .slice none 0 0), (16, .slice (some ⟨gp, 0, none⟩) 1 pc)] f0 ∧ w0 = w) ∨
      ∃ f0 g c H' vx vy rr, f = with_ [(18, .int .i64 1), (17, .int .i64 1), (0, ptr bB), (1, .slice (some ⟨gp, 0, none⟩) 1 pc), (2, .int .i64 m), (8, .slice (some ⟨g, 0, none⟩) 1 c)] f0 ∧ Grow H w H' w0 ∧ Rep E H' (substT [] x) vx ∧ Rep E H' (substT [] y) vy ∧ w0.heap[g]? = some (Ob (vx :: vy :: rr) 83))) (fun f _ _ => countM 18 17 f)
    ⟨rfl, .inl ⟨_, with_self ⟨rfl, rfl, rfl, rfl, rfl, rfl, rfl, trivial⟩, rfl⟩⟩ ?_
  rintro f ds0 wr ⟨rfl, ⟨f0, rfl, rfl⟩ | ⟨f0, g, c, H', vx, vy, rr, rfl, gr, hrx, hry, hg⟩⟩
  · subst hcx
    subst hcy
    (repeat (first | (refine cL ?_; first | (refine cL_guard ?_; refine L_unwanted rfl rfl rfl ?_) | (refine cL_load ?_; refine L_val (R_loadAB rfl rfl (hA _ _ hp)) rfl rfl rfl ?_) | (refine cL_indexAddr ?_; refine L_valE (R_ia rfl rfl (by omega) (by omega)) (show _ = Value.pointer (some ⟨gp, 0, none⟩) from rfl) rfl rfl rfl ?_)) | refine r121 ?_))
    refine L_allocZ rfl rfl rfl fun b10 w2 hn2 => ?_
    refine L_storeA rfl hn2.here rfl rfl rfl rfl rfl rfl fun w3 h3 e3 s3 => ?_
    have hn3 := hn2.store h3 e3 s3
    obtain ⟨H3, g3, hb10⟩ := Grow.ofNew hA hn3
    have hc1 : HCells H3 b10 0 (tyCells x.k x.n x.c x.b (.slice px x.es.length capx) x.nm) := fun j v hj => ⟨_, _, _, hb10, by
      match j, hj with
      | 0, hj => exact hj
      | 1, hj => exact hj
      | 2, hj => exact hj
      | 3, hj => exact hj
      | 4, hj => exact hj
      | 5, hj => exact hj
      | j + 6, hj => simp [lget] at hj⟩
    have hc2 : HCells H3 b10 6 (tyCells y.k y.n y.c y.b (.slice py y.es.length capy) y.nm) := hcells_ob (tyCells x.k x.n x.c x.b (.slice px x.es.length capx) x.nm) hb10
    have hA3 := g3.ag
    have hAg : ∀ w', Ext No w3 w' → Agree H3 w' := fun _ he => hA3.ext0 he
    (refine r120 ?_)
    (refine G_drawX No (.op 0 (.op 1 (.op 2 (.op 3 (.op 5 (.op 6 (.op 7 (.op 4 (.op 8 (.op 9 (.op 10 (.op 11 (.op 12 .nil))))))))))))) [(4, 1), (8, 1), (10, 1), (11, 2)] follows (by kernel_rfl) ?_)
    (repeat (first | (refine cX_guard ?_; refine X_unwanted rfl rfl ?_) | (refine cX_load ?_; first | refine X_val0 (fun w he => R_loadA rfl rfl fun j v hj => (hAg w he).hcell (hc1 j v hj)) rfl rfl ?_ | refine X_val0 (fun w he => R_loadA rfl rfl fun j v hj => (hAg w he).hcell (hc2 j v hj)) rfl rfl ?_) | (refine cX_indexAddr ?_; refine X_val0 (fun _ _ => R_iaArr rfl rfl (by omega) (by omega)) rfl rfl ?_) | refine r122 hAg ?_))
    have hcx : ∀ w', Ext No w3 w' → Calls Tryz.prog 24 #[ptr bB, .agg (tyCells x.k x.n x.c x.b (.slice px x.es.length capx) x.nm).toArray, .slice none 0 0] w' (Ret (TypSays E H3 w' [] x)) := fun w' he =>
      htx _ H3 w' [] [] none 0 (hAg w' he) (hP.mono g3.le) (hbu.mono g3.le) (DTy.mono g3.le _ _ hx) (hd.mono g3.le) rfl rfl (fun i v hv => by simp at hv)
    refine X_call hcx rfl fun w4 vx w5 he4 ⟨H5, g5, hrx, _⟩ => ⟨g5.ext, ?_⟩
    have g35 := g3.trans ((Grow.quiet hA3 he4).trans g5)
    have hAg5 : ∀ w', Ext No w5 w' → Agree H5 w' := fun _ he => g5.ag.ext0 he
    have hcy : ∀ w', Ext No w5 w' → Calls Tryz.prog 24 #[ptr bB, .agg (tyCells y.k y.n y.c y.b (.slice py y.es.length capy) y.nm).toArray, .slice none 0 0] w' (Ret (TypSays E H5 w' [] y)) := fun w' he =>
      hty _ H5 w' [] [] none 0 (hAg5 w' he) (hP.mono g35.le) (hbu.mono g35.le) (DTy.mono g35.le _ _ hy) (hd.mono g35.le) rfl rfl (fun i v hv => by simp at hv)
    refine X_call hcy rfl fun w6 vy w7 he6 ⟨H7, g7, hry, _⟩ => ⟨g7.ext, ?_⟩
    have g57 := g35.trans ((Grow.quiet g5.ag he6).trans g7)
    obtain ⟨Tx, ax, rfl⟩ := hrx.iface
    obtain ⟨Ty', ay, rfl⟩ := hry.iface
    have hrx7 := Rep.mono g7.le _ _ hrx
    (repeat (first | (refine cX_guard ?_; refine X_unwanted rfl rfl ?_) | (refine cX_build ?_; refine X_val0 (fun _ _ => R_buildArr (cs := [.iface Tx (ptr ax), .iface Ty' (ptr ay)]) rfl) rfl rfl ?_) | refine r122 hAg ?_))
    refine X_make rfl rfl fun w8 he8 => ⟨_, _, R_buildSlice (vs := [.agg #[.iface Tx (ptr ax), .iface Ty' (ptr ay)]]) rfl rfl rfl rfl, Ext.alloc w8 _, ?_⟩
    have hn9 := newB_alloc w8 (Ob (flat [.agg #[.iface Tx (ptr ax), .iface Ty' (ptr ay)]]) 83)
    have g78 := g57.trans (Grow.quiet g7.ag he8)
    refine X_pushN (v := .slice none 0 0) (n := 0) (xs := []) (us := [.iface Tx (ptr ax), .iface Ty' (ptr ay)]) rfl (fun w _ => .inl ⟨rfl, rfl, rfl⟩) rfl (fun w he => he.heap (fun x => x) hn9.here) rfl (show 0 < 2 by omega) rfl (show (0 + 1) * 32 ≤ 140737488355328 by omega) (by simp only [maxLen]; omega) rfl fun w10 v11 w11 he10 hpu => ?_
    (refine r123 hAg ?_)
    refine X_nil fun w12 he12 => ?_
    (refine r120 ?_)
    have hx11 : Ext No w10 w11 := hpu.ext.mono fun i _ h => by cases h
    have g9 := g78.trans (Grow.quiet g78.ag (hn9.ext.trans (he10.trans (hx11.trans he12))))
    rcases hpu.own with ⟨-, h0, -⟩ | ⟨g, cap, r, hv, hg, hg1, hg2⟩
    · cases h0
    · subst hv
      refine G_inv ⟨⟨rfl, .inr ⟨_, g, cap, H7, _, _, r, with_self ⟨rfl, rfl, rfl, rfl, rfl, rfl, trivial⟩, g9, hrx7, hry, he12.heap (fun x => x) hg⟩⟩, ?_⟩
      show ((1 : Int) - 1).toNat < ((1 : Int) - 0).toNat
      decide
  · obtain ⟨Tx, ax, rfl⟩ := hrx.iface
    obtain ⟨Ty', ay, rfl⟩ := hry.iface
    have hbH := gr.le _ _ hb1
    have hE' := hE.mono gr.le
    have hAr := gr.ag
    have hAg : ∀ w', Ext No wr w' → Agree H' w' := fun _ he => hAr.ext0 he
    (repeat (first | refine G_exit rfl ?_ | refine r121 ?_))
    (refine G_drawX No (.op 0 (.op 1 (.op 2 (.op 3 (.op 4 (.op 5 (.op 6 (.op 7 (.op 8 (.op 9 (.op 10 (.op 11 (.op 12 .nil))))))))))))) [(7, 1)] follows (by kernel_rfl) ?_)
    (repeat (first | (refine cX_guard ?_; refine X_unwanted rfl rfl ?_) | (refine cX_call ?_; refine X_callQ (fun w he => Is.qt (modeOf_any w hm)) rfl ?_) | refine r122 hAg ?_))
    obtain ⟨Q, hnf1, hnf2⟩ := hnf H' _ _ gr.le hrx hry
    refine X_call (fun w1 he1 => unify23 w1 (hAg w1 he1) (hb3.mono gr.le) (fun a ha => hE'.pl a ha) hE'.pn h8 hmu (he1.heap (fun x => x) hg) hnf1) rfl fun w1 v w2 he1 ⟨vo, gi, r, s, hv, hown, hgi, hsl, hQ, x2⟩ => ⟨x2, ?_⟩
    subst hv
    obtain ⟨hvals, hΦ⟩ := hnf2 r s hQ hsl
    have hAg2 : ∀ w', Ext No w2 w' → Agree H' w' := fun _ he => (hAg w1 he1).ext0 (x2.trans he)
    (refine r123 hAg2 ?_)
    refine X_nil fun w3 he3 => ?_
    have hown3 := hown.ext he3 (fun _ _ h => h)
    have hgi3 := he3.heap (fun x => x) hgi
    have g03 : Grow H w H' w3 := gr.trans (Grow.quiet hAr (he1.trans (x2.trans he3)))
    rcases hown3 with ⟨-, h0⟩ | ⟨go, co, ro, rfl, hgo, hgo2⟩
    · cases h0
    (refine r120 ?_)
    refine G_loop (fun f ds0 w0 => ds0 = [] ∧ ∃ (f0 : Fm) (va : Value) (L : List (Option Ty)) (cs : List Value) (Hi : Hp), f = with_ [(48, .int .i64 (L.length : Int)), (47, .int .i64 (E.params.length : Int)), (0, ptr bB), (1, .slice (some ⟨gp, 0, none⟩) 1 pc), (11, .slice (some ⟨go, 0, none⟩) 1 co), (13, va), (46, .slice (some ⟨gi, 0, none⟩) E.params.length E.params.length)] f0 ∧ L.length ≤ E.params.length ∧
        Grow H' w3 Hi w0 ∧ OwnN w0 35 7 va L.length cs ∧ InfRow Hi L cs ∧ (∀ g, va.ownBlock = some g → Hi g = none ∧ w3.heap.size ≤ g) ∧ ∀ (i : Nat) (o : Option Ty) (h : Nat), L[i]? = some o → s.hs[i]? = some h → Bk1 E H' o (s.val h)) (fun f _ _ => countM 48 47 f)
      ⟨rfl, _, .slice none 0 0, [], [], H', with_self ⟨rfl, rfl, rfl, rfl, rfl, rfl, rfl, trivial⟩, Nat.zero_le _, Grow.refl g03.ag, .inl ⟨rfl, rfl, rfl⟩, rfl, (fun g hg => by cases hg), fun i o h ho => by simp at ho⟩ ?_
    rintro f ds0 wl ⟨rfl, f1, va, L, cs, Hi, rfl, hi, gl, hva, hrow, hob, hbk⟩
    have hgil := gl.ext.heap (fun x => x) hgi3
    by_cases h : L.length < E.params.length
    · have hb : decide ((L.length : Int) < (E.params.length : Int)) = true := decide_eq_true (by omega)
      obtain ⟨hd', hh⟩ : ∃ v, s.hs[L.length]? = some v := ⟨_, List.getElem?_eq_getElem (by omega)⟩
      have hget : lget (s.hs.map s.val) L.length = some (s.val hd') := by
        rw [lget_eq, List.getElem?_map, hh]
        rfl
      have hdec : ∀ g, va.ownBlock = some g → g < wl.heap.size := hva.lt
      rcases hvals hd' (List.mem_of_getElem? hh) with hnil | ⟨t, hok, hrep⟩
      · rw [hnil] at hget
        (repeat (first | (refine cL ?_; first | (refine cL_guard ?_; refine L_unwanted rfl rfl rfl ?_) | (refine cL_load ?_; refine L_val (R_loadB rfl hgil hget) rfl rfl rfl ?_) | (refine cL_lss ?_; refine L_valB (R_ltI rfl rfl) hb rfl rfl rfl ?_) | (refine cL_indexAddr ?_; refine L_valE (R_ia rfl rfl (by omega) (by omega)) (ia0 _ _) rfl rfl rfl ?_) | (refine cL_build ?_; refine L_val (R_build (cs := zInf) rfl) rfl rfl rfl ?_)) | refine r121 ?_))
        refine L_buildSlice (vs := [.agg zInf.toArray]) rfl rfl rfl rfl rfl rfl fun b5 w5 hn5 => ?_
        refine L_pushN (v := va) (m := L.length) (xs := cs) (us := zInf) rfl (hva.ext hn5.ext (fun _ _ h => h)) rfl hn5.here rfl (show 0 < 7 by omega) rfl (show (L.length + 1) * 80 ≤ 140737488355328 by omega) (by simp only [maxLen]; omega) rfl rfl fun v6 w6 hpu => ?_
        (repeat (first | (refine cL ?_; first | (refine cL_guard ?_; refine L_unwanted rfl rfl rfl ?_) | (refine cL_add ?_; refine L_valE (R_addI rfl rfl) (succ_i64 h (by omega)) rfl rfl rfl ?_)) | refine r121 ?_))
        have hl1 : (L ++ [none]).length = L.length + 1 := by simp
        obtain ⟨g6, ob6⟩ := inf_push gl (Grow.quiet gl.ag hn5.ext) hob hdec hpu
        refine G_inv ⟨⟨rfl, _, v6, L ++ [none], cs ++ zInf, Hi, with_self (by rw [hl1]; exact ⟨rfl, rfl, rfl, rfl, rfl, rfl, rfl, trivial⟩), by omega, g6, by rw [hl1]; exact hpu.own, hrow.snoc (show InfOne Hi none zInf from rfl) rfl, ob6, ?_⟩, ?_⟩
        · intro i o h' ho hh'
          rcases Nat.lt_or_ge i L.length with hil | hil
          · rw [List.getElem?_append_left hil] at ho
            exact hbk i o h' ho hh'
          · rw [List.getElem?_append_right hil] at ho
            have hlt := (List.getElem?_eq_some_iff.1 ho).1
            have hi0 : i = L.length := by simp at hlt; omega
            subst hi0
            simp at ho
            rw [hh] at hh'
            injection hh' with hh'
            subst hh'
            exact .inl ⟨ho.symm, hnil⟩
        · show ((E.params.length : Int) - ((L.length + 1 : Nat) : Int)).toNat < ((E.params.length : Int) - (L.length : Int)).toNat
          omega
      · obtain ⟨Tv, av, hva'⟩ := hrep.iface
        have hget' := hget
        rw [hva'] at hget'
        have hgHi : Hp.le H' Hi := gl.le
        have gHi : Hp.le H Hi := Hp.le_trans gr.le gl.le
        (repeat (first | (refine cL ?_; first | (refine cL_guard ?_; refine L_unwanted rfl rfl rfl ?_) | (refine cL_load ?_; refine L_val (R_loadB rfl hgil hget') rfl rfl rfl ?_) | (refine cL_lss ?_; refine L_valB (R_ltI rfl rfl) hb rfl rfl rfl ?_) | (refine cL_indexAddr ?_; refine L_valE (R_ia rfl rfl (by omega) (by omega)) (ia0 _ _) rfl rfl rfl ?_)) | refine r121 ?_))
        have hbo := back_any (E := E) (ds := ds) (p := p) (dcap := dcap) (bB := bB) (by omega) h16 t hok (.iface Tv (ptr av)) Hi wl gl.ag (hE.mono gHi) (hbu.mono gHi) (hva' ▸ Rep.mono gl.le _ _ hrep)
        refine L_callR hbo rfl rfl fun rv w4 ⟨tc, H4, t', hrv, g4, hd4, hid4⟩ => ?_
        subst hrv
        obtain ⟨q4, c4, hcs4, -⟩ := hd4.cells
        have hd5 := hd4
        rw [hcs4] at hd5
        subst hcs4
        (repeat (first | (refine cL ?_; first | (refine cL_guard ?_; refine L_unwanted rfl rfl rfl ?_) | (refine cL_build ?_; refine L_val (R_build (cs := .bool true :: tyCells t'.k t'.n t'.c t'.b (.slice q4 t'.es.length c4) t'.nm) rfl) rfl rfl rfl ?_)) | refine r121 ?_))
        refine L_buildSlice (vs := [.agg (Value.bool true :: tyCells t'.k t'.n t'.c t'.b (.slice q4 t'.es.length c4) t'.nm).toArray]) rfl rfl rfl rfl rfl rfl fun b5 w5 hn5 => ?_
        have hva5 := (hva.ext g4.ext (fun _ _ h => h)).ext hn5.ext (fun _ _ h => h)
        refine L_pushN (v := va) (m := L.length) (xs := cs) (us := Value.bool true :: tyCells t'.k t'.n t'.c t'.b (.slice q4 t'.es.length c4) t'.nm) rfl hva5 rfl hn5.here rfl (show 0 < 7 by omega) rfl (show (L.length + 1) * 80 ≤ 140737488355328 by omega) (by simp only [maxLen]; omega) rfl rfl fun v6 w6 hpu => ?_
        (repeat (first | (refine cL ?_; first | (refine cL_guard ?_; refine L_unwanted rfl rfl rfl ?_) | (refine cL_add ?_; refine L_valE (R_addI rfl rfl) (succ_i64 h (by omega)) rfl rfl rfl ?_)) | refine r121 ?_))
        have hl1 : (L ++ [some t']).length = L.length + 1 := by simp
        obtain ⟨g6, ob6⟩ := inf_push gl (g4.trans (Grow.quiet g4.ag hn5.ext)) hob hdec hpu
        refine G_inv ⟨⟨rfl, _, v6, L ++ [some t'], _, H4, with_self (by rw [hl1]; exact ⟨rfl, rfl, rfl, rfl, rfl, rfl, rfl, trivial⟩), by omega, g6, by rw [hl1]; exact hpu.own, (hrow.mono g4.le).snoc (show InfOne H4 (some t') (Value.bool true :: tyCells t'.k t'.n t'.c t'.b (.slice q4 t'.es.length c4) t'.nm) from ⟨_, rfl, hd5⟩) rfl, ob6, ?_⟩, ?_⟩
        · intro i o h' ho hh'
          rcases Nat.lt_or_ge i L.length with hil | hil
          · rw [List.getElem?_append_left hil] at ho
            exact hbk i o h' ho hh'
          · rw [List.getElem?_append_right hil] at ho
            have hlt := (List.getElem?_eq_some_iff.1 ho).1
            have hi0 : i = L.length := by simp at hlt; omega
            subst hi0
            simp at ho
            rw [hh] at hh'
            injection hh' with hh'
            subst hh'
            exact .inr ⟨t', t, ho.symm, hok, hrep, hid4⟩
        · show ((E.params.length : Int) - ((L.length + 1 : Nat) : Int)).toNat < ((E.params.length : Int) - (L.length : Int)).toNat
          omega
    · have hb : decide ((L.length : Int) < (E.params.length : Int)) = false := decide_eq_false (by omega)
      have hil : L.length = E.params.length := by omega
      have hgol := gl.ext.heap (fun x => x) hgo
      have hΦ' := hΦ L (by omega) hbk
      have hAgl : ∀ w', Ext No wl w' → Agree Hi w' := fun _ he => gl.ag.ext0 he
      (repeat (first | (refine cL ?_; first | (refine cL_guard ?_; refine L_unwanted rfl rfl rfl ?_) | (refine cL_lss ?_; refine L_valB (R_ltI rfl rfl) hb rfl rfl rfl ?_)) | refine G_exit rfl ?_ | refine r121 ?_))
      (refine G_draw No (0 :: 1 :: 2 :: 3 :: 4 :: 5 :: 6 :: 7 :: 8 :: 9 :: 10 :: 11 :: 12 :: 13 :: 14 :: 15 :: []) [] follows (by kernel_rfl) rfl ?_)
      (repeat (first | (refine cD_guard ?_; refine D_unwanted rfl rfl ?_) | (refine cD_load ?_; refine D_val0 (fun w he => R_loadB rfl (he.heap (fun x => x) hgol) rfl) rfl rfl ?_) | (refine cD_eql ?_; refine D_valE (fun _ _ => R_eqI rfl rfl) (v' := .bool true) rfl rfl rfl ?_) | (refine cD_indexAddr ?_; refine D_val0 (fun _ _ => R_ia rfl rfl (by decide) (by decide)) rfl rfl ?_) | (refine cD_sub ?_; refine D_valE (fun _ _ => R_subI rfl rfl) (v' := .int .i64 0) rfl rfl rfl ?_) | refine r124 hAgl ?_))
      refine D_nil fun w9 he9 => ?_
      (refine r120 ?_)
      refine G_ret2 rfl ?_
      have hva9 := hva.ext he9 (fun _ _ h => h)
      have g09 : Grow H w Hi w9 := (g03.trans gl).trans (Grow.quiet gl.ag he9)
      rcases hva9 with ⟨rfl, h1, h2⟩ | ⟨g, cap, rr, rfl, h2, -, -⟩
      · exact ⟨_, rfl, .slice none 0 0, r, L, Hi, rfl, g09, ⟨none, 0, cs, by rw [h1], hrow, .inl (List.length_eq_zero_iff.1 h1)⟩, hil, hΦ'⟩
      · have := g03.ext.size
        obtain ⟨H2, g2, le2, hg2⟩ := g09.add h2 (by have := (hob g rfl).2; omega)
        exact ⟨_, rfl, _, r, L, H2, rfl, g2, ⟨_, cap, cs, rfl, hrow.mono le2, .inr ⟨g, rr, rfl, hg2⟩⟩, hil, hΦ'⟩
end Go.Proofs.YtjilnjifegeceaaGreatDoor

/-
  The thin package's 'Unify', whatever is inferred; types within bounds.
-/
namespace Go.Proofs.YtjilnjifegeceaaGreatDoor
set_option maxRecDepth 100000
set_option maxHeartbeats 4000000
attribute [local irreducible] Calls execOp

theorem r125 {G G' : Prop} (k : G') (h : Hid G' → G := by intro k_; (repeat (first | (refine cL ?_; first | (refine cL_move ?_; refine L_val R_move rfl rfl rfl ?_) | (refine cL_load ?_; first | refine L_val (R_loadB rfl (by assumption) (by rfl)) rfl rfl rfl ?_ | refine L_val (R_loadH (by assumption) rfl (by assumption) (by rfl)) rfl rfl rfl ?_) | (refine cL_assign ?_; refine L_val R_assign rfl rfl rfl ?_) | (refine cL_extract ?_; refine L_val (R_extract rfl rfl) rfl rfl rfl ?_) | refine L_nil ?_) | refine G_seq ?_ | refine G_region ?_ | refine G_skip ?_ | refine G_block ?_ | refine G_end ?_ | refine G_true rfl ?_ | refine G_false rfl ?_)); exact k_.out) : G := h ⟨k⟩
theorem r126 {G G' A : Prop} (ag : A) (k : G') (h : Hid G' → A → G := by intro k_ ag_; (first | (refine cX_move ?_; first | refine X_val0 (fun _ _ => R_move) rfl rfl ?_ | refine X_pure (fun _ => R_move) rfl rfl ?_) | (refine cX_load ?_; refine X_val0 (fun w he => R_loadH (ag_ w he) rfl (by assumption) (by rfl)) rfl rfl ?_) | (refine cX_assign ?_; first | refine X_val0 (fun _ _ => R_assign) rfl rfl ?_ | refine X_pure (fun _ => R_assign) rfl rfl ?_) | (refine cX_extract ?_; first | refine X_val0 (fun _ _ => R_extract rfl rfl) rfl rfl ?_ | refine X_pure (fun _ => R_extract rfl rfl) rfl rfl ?_)); exact k_.out) : G := h ⟨k⟩ ag
theorem r127 {G G' A : Prop} (ag : A) (k : G') (h : Hid G' → A → G := by intro k_ ag_; (repeat (first | (refine cX_move ?_; first | refine X_val0 (fun _ _ => R_move) rfl rfl ?_ | refine X_pure (fun _ => R_move) rfl rfl ?_) | (refine cX_load ?_; refine X_val0 (fun w he => R_loadH (ag_ w he) rfl (by assumption) (by rfl)) rfl rfl ?_) | (refine cX_assign ?_; first | refine X_val0 (fun _ _ => R_assign) rfl rfl ?_ | refine X_pure (fun _ => R_assign) rfl rfl ?_) | (refine cX_extract ?_; first | refine X_val0 (fun _ _ => R_extract rfl rfl) rfl rfl ?_ | refine X_pure (fun _ => R_extract rfl rfl) rfl rfl ?_))); exact k_.out) : G := h ⟨k⟩ ag

theorem shaped_parts {ds : List (Int × Ty)} {params own : Int} {k n c : Int} {b : Bool} {nm : ByteArray} {es : List Ty} (h : shapedB ds params own (.mk k n c b nm es) = true) : ∀ e ∈ es, shapedB ds params own e = true := by
  simp only [shapedB, Bool.and_eq_true] at h
  have h1 := h.2.1
  clear h
  induction es with
  | nil => intro e he; cases he
  | cons x es ih =>
    simp only [shapedLB, Bool.and_eq_true] at h1
    intro e he
    rcases List.mem_cons.1 he with rfl | he
    · exact h1.1
    · exact ih h1.2 e he

theorem okT_of {H : Hp} {ds : List (Int × Ty)} {params own : Int} : ∀ (t : Ty) (cs : List Value), DTy H t cs → shapedB ds params own t = true → Ty.size t ≤ 1000 → okT t := by
  refine Ty.ind fun k n c b nm es ih => ?_
  intro cs hd hs hz
  have hsz := hz
  simp only [Ty.size] at hsz
  have hle := Ty.len_sizeL es
  obtain ⟨p, cap, -, -, hn, -, -, hsl⟩ := hd.cells
  simp only [okT]
  refine ⟨hn, fun hk => ?_, by omega, ?_⟩
  · subst hk
    simp only [shapedB, Bool.and_eq_true] at hs
    have h1 := hs.1
    simp only [headB, Bool.and_eq_true, Bool.not_eq_true', head4, limitL, if_pos, Bool.or_eq_false_iff, Bool.and_eq_false_iff, decide_eq_false_iff_not] at h1
    obtain ⟨-, h2, -⟩ := h1
    rcases h2.2 with h3 | h3 <;> omega
  · have hp := shaped_parts hs
    have key : ∀ (l : List Ty), (∀ e ∈ l, okT e) → okTL l := by
      intro l
      induction l with
      | nil => intro _; simp [okTL]
      | cons x l ihl => intro h; exact ⟨h x List.mem_cons_self, ihl fun e he => h e (List.mem_cons_of_mem _ he)⟩
    refine key es fun e he => ?_
    obtain ⟨j, hj⟩ := List.mem_iff_getElem?.1 he
    obtain ⟨bk, off, ecs, -, -, hed⟩ := DSl.get (es := es) hsl hj
    have := Ty.size_mem he
    exact ih e he ecs hed (hp e he) (by omega)

theorem implUnify_any {H : Hp} {ds : List (Int × Ty)} {p : Option Addr} {dcap : Nat} {params m : Int} {x y : Ty} {cx cy : List Value} {Φ : Bool → List (Option Ty) → Prop} (w : World) (hA : Agree H w) (hP : Props H) (hd : DDl H ds p) (hx : DTy H x cx) (hy : DTy H y cy) (hv : ValidD ds params []) (hx1 : shapedB ds params 0 x = true) (hy1 : shapedB ds params 0 y = true) (hm : m = 0 ∨ m = 1 ∨ m = 2)
    (hnf : ∀ (E : Env) (H' : Hp), Hp.le H H' → EnvOK E H' → Props H' → (E.params.length : Int) = params → E.decls.length = ds.length → NfTells E H' x y m Φ) :
    Calls Tryz.prog 11 #[.slice p ds.length dcap, .int .i64 params, .agg cx.toArray, .agg cy.toArray, .int .i64 m] w
      (Ret fun v w' => ∃ vo r L' H2, v = .tuple #[vo, .bool r] ∧ Grow H w H2 w' ∧ InfSl H2 L' vo ∧ (L'.length : Int) = params ∧ Φ r L') := by
  have hV : DeclsV ds := fun n d hn => let ⟨h1, _, h3, h4, h5⟩ := hv.dd n d hn; ⟨h1, h3, h4, h5⟩
  obtain ⟨px, capx, hcx, -⟩ := hx.cells
  obtain ⟨py, capy, hcy, -⟩ := hy.cells
  subst hcx
  subst hcy
  have hbs : ∀ (w3 : World) (H3 : Hp) (bB : Nat) (E : Env) (gp pc : Nat), Grow H w H3 w3 → BuIs E H3 ds p dcap bB → (E.params.length : Int) = params → E.decls.length = ds.length → EnvOK E H3 →
      H3 gp = some (Ob (tyCells x.k x.n x.c x.b (.slice px x.es.length capx) x.nm ++ tyCells y.k y.n y.c y.b (.slice py y.es.length capy) y.nm) 56) →
      Calls Tryz.prog 22 #[ptr bB, .slice (some ⟨gp, 0, none⟩) 1 pc, .int .i64 m] w3
        (Ret fun v w' => ∃ vo r L' H2, v = .tuple #[vo, .bool r] ∧ Grow H3 w3 H2 w' ∧ InfSl H2 L' vo ∧ L'.length = E.params.length ∧ Φ r L') := by
    intro w3 H3 bB E gp pc g3 hbu hpl hdl hE hgp
    have hp8 := hv.p8
    have htk : ds.take ds.length = ds := List.take_length
    have hTx := typB_any (E := E) (p := p) (dcap := dcap) (bB := bB) hV ds.length (by omega) x params 0 hv.p0 (by omega) (Int.le_refl 0) (by rw [htk]; exact hx1)
    have hTy := typB_any (E := E) (p := p) (dcap := dcap) (bB := bB) hV ds.length (by omega) y params 0 hv.p0 (by omega) (Int.le_refl 0) (by rw [htk]; exact hy1)
    have hd16 := hv.d16
    exact bunify_any w3 g3.ag (hP.mono g3.le) hbu (DTy.mono g3.le _ _ hx) (DTy.mono g3.le _ _ hy) (hd.mono g3.le) hTx hTy hE (by omega) (by omega) hm hgp (hnf E H3 g3.le hE (hP.mono g3.le) hpl hdl)
  have hV8 := hv.p8
  (refine calls_enter Tryz.func11 Tryz.ntmps11 rfl rfl ?_)
  (refine r125 ?_)
  refine L_box rfl rfl rfl fun b7 w1 hn1 => ?_
  refine L_box rfl rfl rfl fun b8 w2 hn2 => ?_
  obtain ⟨H1, g1, hb7⟩ := Grow.ofNew hA hn1
  obtain ⟨H2, g2, hb8⟩ := Grow.ofNew g1.ag hn2
  have g12 := g1.trans g2
  have hb7 := g2.le _ _ hb7
  have hA2 := g12.ag
  have hAg : ∀ w', Ext No w2 w' → Agree H2 w' := fun _ he => hA2.ext0 he
  (refine r125 ?_)
  (refine G_drawX No (.op 0 (.op 1 (.op 3 (.op 4 (.op 5 (.op 7 (.fork (.op 2 (.op 6 (.op 8 (.op 9 (.op 10 (.op 11 (.op 12 .nil))))))) (.op 6 (.op 2 (.op 8 (.op 9 (.op 10 (.op 11 (.op 12 .nil)))))))))))))) [(2, 1), (6, 1), (8, 1)] follows (by kernel_rfl) ?_)
  (repeat (first | (refine cX_load ?_; first | refine X_val0 (fun w he => R_loadAB rfl rfl ((hAg w he) _ _ hb7)) rfl rfl ?_ | refine X_val0 (fun w he => R_loadAB rfl rfl ((hAg w he) _ _ hb8)) rfl rfl ?_) | (refine cX_build ?_; refine X_val0 (fun _ _ => R_buildArr (cs := tyCells x.k x.n x.c x.b (.slice px x.es.length capx) x.nm ++ tyCells y.k y.n y.c y.b (.slice py y.es.length capy) y.nm) rfl) rfl rfl ?_) | refine r126 hAg ?_))
  refine X_fork ?_ ?_
  · refine X_call (fun w' he => buildI_any w' (hAg w' he) (hP.mono g12.le) (hd.mono g12.le) hV hv.p0 hv.p8 hv.d16) rfl fun w3 v w4 he3 ⟨bB, E, H4, hv4, g4, hbu, hpl, hdl, hE⟩ => ⟨g4.ext, ?_⟩
    subst hv4
    refine X_make rfl rfl fun w5 he5 => ⟨_, _, R_buildSlice (vs := [.agg (tyCells x.k x.n x.c x.b (.slice px x.es.length capx) x.nm ++ tyCells y.k y.n y.c y.b (.slice py y.es.length capy) y.nm).toArray]) rfl rfl rfl rfl, Ext.alloc w5 _, ?_⟩
    have hn6 := newB_alloc w5 (Ob (flat [.agg (tyCells x.k x.n x.c x.b (.slice px x.es.length capx) x.nm ++ tyCells y.k y.n y.c y.b (.slice py y.es.length capy) y.nm).toArray]) 56)
    have gA := (g12.trans (Grow.quiet hA2 he3)).trans (g4.trans (Grow.quiet g4.ag he5))
    obtain ⟨H6, g6, hgp⟩ := Grow.ofNew gA.ag hn6
    have gB := gA.trans g6
    refine X_call (fun w' he => hbs w' H6 bB E _ _ (gB.trans (Grow.quiet gB.ag he)) (hbu.mono g6.le) hpl hdl (hE.mono g6.le) hgp) rfl fun w7 v w8 he7 ⟨vo, r, L', H8, hv8, g8, hsl, hll, hΦ⟩ => ⟨g8.ext, ?_⟩
    subst hv8
    (refine r127 hAg ?_)
    refine X_nil fun w9 he9 => ?_
    (refine r125 ?_)
    refine G_ret2 rfl ?_
    have gD := (gB.trans (Grow.quiet gB.ag he7)).trans (g8.trans (Grow.quiet g8.ag he9))
    exact ⟨_, rfl, vo, r, L', H8, rfl, gD, hsl, by omega, hΦ⟩
  · refine X_make rfl rfl fun w5 he5 => ⟨_, _, R_buildSlice (vs := [.agg (tyCells x.k x.n x.c x.b (.slice px x.es.length capx) x.nm ++ tyCells y.k y.n y.c y.b (.slice py y.es.length capy) y.nm).toArray]) rfl rfl rfl rfl, Ext.alloc w5 _, ?_⟩
    have hn6 := newB_alloc w5 (Ob (flat [.agg (tyCells x.k x.n x.c x.b (.slice px x.es.length capx) x.nm ++ tyCells y.k y.n y.c y.b (.slice py y.es.length capy) y.nm).toArray]) 56)
    have gA := g12.trans (Grow.quiet hA2 he5)
    obtain ⟨H6, g6, hgp⟩ := Grow.ofNew gA.ag hn6
    have gB := gA.trans g6
    refine X_call (fun w' he => buildI_any w' (gB.ag.ext0 he) (hP.mono gB.le) (hd.mono gB.le) hV hv.p0 hv.p8 hv.d16) rfl fun w3 v w4 he3 ⟨bB, E, H4, hv4, g4, hbu, hpl, hdl, hE⟩ => ⟨g4.ext, ?_⟩
    subst hv4
    have gC := (gB.trans (Grow.quiet gB.ag he3)).trans g4
    refine X_call (fun w' he => hbs w' H4 bB E _ _ (gC.trans (Grow.quiet gC.ag he)) hbu hpl hdl hE (g4.le _ _ hgp)) rfl fun w7 v w8 he7 ⟨vo, r, L', H8, hv8, g8, hsl, hll, hΦ⟩ => ⟨g8.ext, ?_⟩
    subst hv8
    (refine r127 hAg ?_)
    refine X_nil fun w9 he9 => ?_
    (refine r125 ?_)
    refine G_ret2 rfl ?_
    have gD := (gC.trans (Grow.quiet gC.ag he7)).trans (g8.trans (Grow.quiet g8.ag he9))
    exact ⟨_, rfl, vo, r, L', H8, rfl, gD, hsl, by omega, hΦ⟩
end Go.Proofs.YtjilnjifegeceaaGreatDoor

/-
  Identical types: an equivalence. Plain Lean.
-/
namespace Go.Proofs.YtjilnjifegeceaaGreatDoor

def identR (es es' : List Ty) (i : Nat) : Bool := match es[i]?, es'[i]? with
  | some e, some e' => ident e e'
  | _, _ => true

theorem range_all_succ (n : Nat) (p : Nat → Bool) : (List.range (n + 1)).all p = (p 0 && (List.range n).all fun i => p (i + 1)) := by
  rw [List.range_succ_eq_map, List.all_cons, List.all_map]
  rfl

theorem identL_eq : ∀ {es es' : List Ty}, es.length = es'.length → identL es es' = (List.range es.length).all (identR es es')
  | [], [], _ => rfl
  | e :: es, e' :: es', h => by
    rw [List.length_cons, range_all_succ, identL, identL_eq (by simpa using h)]
    rfl
  | [], _ :: _, h => by simp at h
  | _ :: _, [], h => by simp at h

theorem ident_iff {k n c k' n' c' : Int} {b b' : Bool} {nm nm' : ByteArray} {es es' : List Ty} : ident (.mk k n c b nm es) (.mk k' n' c' b' nm' es') = true ↔
    k = k' ∧ es.length = es'.length ∧ (k = 9 → namesEq es es' = true) ∧ (k = 10 → c = c' ∧ b = b') ∧ (k ≠ 9 → k ≠ 10 → ¬ (k = 4 ∨ k = 5 ∨ k = 7) → n = n') ∧ identL es es' = true := by
  simp only [ident, alikeP, Bool.and_eq_true, beq_iff_eq]
  constructor
  · rintro ⟨⟨⟨rfl, hl⟩, h⟩, h2⟩
    refine ⟨rfl, hl, fun h9 => ?_, fun h10 => ?_, fun h9 h10 h4 => ?_, h2⟩
    · simpa [h9] using h
    · subst h10; simpa using h
    · simpa [h9, h10, h4] using h
  · rintro ⟨rfl, hl, h9, h10, hn, h2⟩
    refine ⟨⟨⟨rfl, hl⟩, ?_⟩, h2⟩
    by_cases k9 : k = 9
    · simp [k9, h9 k9]
    · by_cases k10 : k = 10
      · obtain ⟨e1, e2⟩ := h10 k10
        simp [k10, e1, e2]
      · by_cases k4 : k = 4 ∨ k = 5 ∨ k = 7
        · simp [k9, k10, k4]
        · simp [k9, k10, k4, hn k9 k10 k4]

theorem identL_iff : ∀ {es es' : List Ty}, es.length = es'.length → (identL es es' = true ↔ ∀ (i : Nat) (e e' : Ty), es[i]? = some e → es'[i]? = some e' → ident e e' = true)
  | [], [], _ => by simp [identL]
  | e :: es, e' :: es', h => by
    rw [identL, Bool.and_eq_true, identL_iff (by simpa using h)]
    constructor
    · rintro ⟨h1, h2⟩ i x x' hx hx'
      cases i with
      | zero =>
        simp only [List.getElem?_cons_zero, Option.some.injEq] at hx hx'
        subst hx; subst hx'
        exact h1
      | succ i => exact h2 i x x' (by simpa using hx) (by simpa using hx')
    · intro h1
      exact ⟨h1 0 e e' rfl rfl, fun i x x' hx hx' => h1 (i + 1) x x' (by simpa using hx) (by simpa using hx')⟩
  | [], _ :: _, h => by simp at h
  | _ :: _, [], h => by simp at h

theorem namesEq_iff : ∀ {es es' : List Ty}, es.length = es'.length → (namesEq es es' = true ↔ ∀ (i : Nat) (e e' : Ty), es[i]? = some e → es'[i]? = some e' → beqB e.nm e'.nm = true)
  | [], [], _ => by simp [namesEq]
  | e :: es, e' :: es', h => by
    rw [namesEq, Bool.and_eq_true, namesEq_iff (by simpa using h)]
    constructor
    · rintro ⟨h1, h2⟩ i x x' hx hx'
      cases i with
      | zero =>
        simp only [List.getElem?_cons_zero, Option.some.injEq] at hx hx'
        subst hx; subst hx'
        exact h1
      | succ i => exact h2 i x x' (by simpa using hx) (by simpa using hx')
    · intro h1
      exact ⟨h1 0 e e' rfl rfl, fun i x x' hx hx' => h1 (i + 1) x x' (by simpa using hx) (by simpa using hx')⟩
  | [], _ :: _, h => by simp at h
  | _ :: _, [], h => by simp at h

theorem beqB_iff {a b : ByteArray} : beqB a b = true ↔ a.toList = b.toList := by simp [beqB]

theorem ident_trans : ∀ (t u v : Ty), ident t u = true → ident u v = true → ident t v = true := by
  refine Ty.ind fun k n c b nm es ih => ?_
  intro u v
  cases u with
  | mk k2 n2 c2 b2 nm2 es2 =>
  cases v with
  | mk k3 n3 c3 b3 nm3 es3 =>
  rw [ident_iff, ident_iff, ident_iff]
  rintro ⟨rfl, l1, a1, b1, d1, e1⟩ ⟨rfl, l2, a2, b2, d2, e2⟩
  have l3 := l1.trans l2
  rw [identL_iff l1] at e1
  rw [identL_iff l2] at e2
  refine ⟨rfl, l3, fun h => ?_, fun h => ⟨(b1 h).1.trans (b2 h).1, (b1 h).2.trans (b2 h).2⟩, fun h h' h'' => (d1 h h' h'').trans (d2 h h' h''), (identL_iff l3).2 ?_⟩
  · have f1 := (namesEq_iff l1).1 (a1 h)
    have f2 := (namesEq_iff l2).1 (a2 h)
    refine (namesEq_iff l3).2 fun i e e' he he' => ?_
    obtain ⟨x, hx⟩ : ∃ x, es2[i]? = some x := ⟨_, List.getElem?_eq_getElem (by have := (List.getElem?_eq_some_iff.1 he).1; omega)⟩
    have g1 := beqB_iff.1 (f1 i e x he hx)
    have g2 := beqB_iff.1 (f2 i x e' hx he')
    exact beqB_iff.2 (g1.trans g2)
  · intro i e e' he he'
    obtain ⟨x, hx⟩ : ∃ x, es2[i]? = some x := ⟨_, List.getElem?_eq_getElem (by have := (List.getElem?_eq_some_iff.1 he).1; omega)⟩
    exact ih e (List.mem_of_getElem? he) x e' (e1 i e x he hx) (e2 i x e' hx he')

theorem ident_symm : ∀ (t u : Ty), ident t u = true → ident u t = true := by
  refine Ty.ind fun k n c b nm es ih => ?_
  intro u
  cases u with
  | mk k2 n2 c2 b2 nm2 es2 =>
  rw [ident_iff, ident_iff]
  rintro ⟨rfl, l1, a1, b1, d1, e1⟩
  rw [identL_iff l1] at e1
  refine ⟨rfl, l1.symm, fun h => ?_, fun h => ⟨(b1 h).1.symm, (b1 h).2.symm⟩, fun h h' h'' => (d1 h h' h'').symm, (identL_iff l1.symm).2 fun i e e' he he' => ih e' (List.mem_of_getElem? he') e (e1 i e' e he' he)⟩
  exact (namesEq_iff l1.symm).2 fun i e e' he he' => beqB_iff.2 (beqB_iff.1 ((namesEq_iff l1).1 (a1 h) i e' e he' he)).symm

theorem ident_self : ∀ t : Ty, ident t t = true := by
  refine Ty.ind fun k n c b nm es ih => ?_
  rw [ident_iff]
  exact ⟨rfl, rfl, fun _ => (namesEq_iff rfl).2 fun i e e' he he' => by rw [he] at he'; injection he' with he'; rw [he']; exact beqB_iff.2 rfl, fun _ => ⟨rfl, rfl⟩, fun _ _ _ => rfl,
    (identL_iff rfl).2 fun i e e' he he' => by rw [he] at he'; injection he' with he'; subst he'; exact ih e (List.mem_of_getElem? he)⟩
end Go.Proofs.YtjilnjifegeceaaGreatDoor

/-
  A type parameter and a type that is none: what the unifier infers.
-/
namespace Go.Proofs.YtjilnjifegeceaaGreatDoor
set_option maxRecDepth 100000
set_option maxHeartbeats 4000000

theorem nf_setS {E : Env} {H : Hp} {as_ : List Nat} {u hm : Nat} {M : Nat → Prop} {hu : M u} {hH : ∀ b o, H b = some o → ¬ M b} {s : HS} {d : Nat} {m m' : Int} {i a h : Nat} {k n c : Int} {b : Bool} {nms : List ByteArray} {vs : List Value} {v : Value} (hm0 : Md m m') (hd : d + 1 ≤ 50) (hal : ∀ a ∈ as_, LiveH H a) (hnd : as_.Nodup) (ha : as_[i]? = some a) (hh : s.hs[i]? = some h) (hnil : s.val h = .nilIface) (hS : Sh E H k n c b nms vs v) (hE : EnvOK E H) (hk : k ≠ 2) {Q : Bool → HS → Prop} (hq : Q true (s.put h v)) :
    Nf (mkUC H as_ u hm M hu hH) m (.iface 72 (ptr a)) v d s Q ∧ Nf (mkUC H as_ u hm M hu hH) m v (.iface 72 (ptr a)) d s Q := by
  obtain ⟨_, _, hv, hl⟩ := hS.live hE
  cases hS with
  | param => exact absurd rfl hk
  | named =>
    injection hv with _ hv
    have := ptr_inj hv
    subst this
    exact ⟨nf_setN hm0 hd hal hnd ha hh hnil hl hq, nf_setNB hm0 hd hal hnd ha hh hnil hl hq⟩
  | inst =>
    injection hv with _ hv
    have := ptr_inj hv
    subst this
    exact ⟨nf_setN hm0 hd hal hnd ha hh hnil hl hq, nf_setNB hm0 hd hal hnd ha hh hnil hl hq⟩
  | _ =>
    injection hv with _ hv
    have := ptr_inj hv
    subst this
    exact ⟨nf_set rfl rfl rfl hm0 hd hal hnd ha hh hnil hl hq, nf_setB rfl rfl rfl hm0 hd hal hnd ha hh hnil hl hq⟩

/-- what the pair of a type parameter and another type yields -/
def InfersΦ (p : Nat) (t : Ty) (r : Bool) (L : List (Option Ty)) : Prop := r = true ∧ ∃ t', L[p]? = some (some t') ∧ ident t' t = true

theorem uMode_md {m : Int} (hm : m = 0 ∨ m = 1 ∨ m = 2) : ∃ mq, Md (uMode m) mq := by
  rcases hm with rfl | rfl | rfl
  · exact ⟨2, by simp [Md, uMode]⟩
  · exact ⟨3, by simp [Md, uMode]⟩
  · exact ⟨0, by simp [Md, uMode]⟩

theorem tells_param {E : Env} {H : Hp} {p : Nat} {t : Ty} {m : Int} {c : Int} {b : Bool} {nm : ByteArray} (hm : m = 0 ∨ m = 1 ∨ m = 2) (hE : EnvOK E H) (hp : p < E.params.length) (hok : okT t) (hk : t.k ≠ 2) (hsub : substT [] t = t) (hsp : substT [] (Ty.mk 2 (p : Int) c b nm []) = .mk 2 (p : Int) c b nm []) :
    NfTells E H (.mk 2 (p : Int) c b nm []) t m (InfersΦ p t) ∧ NfTells E H t (.mk 2 (p : Int) c b nm []) m (InfersΦ p t) := by
  obtain ⟨mq, hmq⟩ := uMode_md hm
  have key : ∀ (H' : Hp) (vp vt : Value), Hp.le H H' → Rep E H' (.mk 2 (p : Int) c b nm []) vp → Rep E H' t vt → ∃ Q : Bool → HS → Prop,
      (∀ (u hm : Nat) (M : Nat → Prop) (hu : M u) (hH : ∀ b o, H' b = some o → ¬ M b) (s : HS), s.hs.length = E.params.length → s.hs.Nodup → (∀ h ∈ s.hs, s.val h = .nilIface) → Nf (mkUC H' E.params u hm M hu hH) (uMode m) vp vt 0 s Q ∧ Nf (mkUC H' E.params u hm M hu hH) (uMode m) vt vp 0 s Q) ∧
      ∀ r s, Q r s → s.hs.length = E.params.length → Tells E H' (InfersΦ p t) r s := by
    intro H' vp vt hle hrp hrt
    have hE' := hE.mono hle
    refine ⟨fun r s => r = true ∧ (∀ h ∈ s.hs, s.val h = .nilIface ∨ s.val h = vt) ∧ ∀ h, s.hs[p]? = some h → s.val h = vt, ?_, ?_⟩
    · intro u hm' M hu hH s hsl hsn hs0
      obtain ⟨h, hh⟩ : ∃ h, s.hs[p]? = some h := ⟨_, List.getElem?_eq_getElem (by omega)⟩
      have hrp0 := hrp
      simp only [Rep, RepL] at hrp0
      obtain ⟨vs, hvs, hS⟩ := hrp0
      subst hvs
      cases hS with
      | param hn h0 =>
        cases t with
        | mk k n c' b' nm' es =>
        have hrt0 := hrt
        simp only [Rep] at hrt0
        obtain ⟨vs', -, hS'⟩ := hrt0
        refine nf_setS hmq (by omega) (fun a ha => hE'.pl a ha) hE'.pn (by simpa using hn) hh (hs0 h (List.mem_of_getElem? hh)) hS' hE' hk ⟨rfl, fun h' hh' => ?_, fun h' hh' => ?_⟩
        · by_cases e : h' = h
          · exact .inr (by simp [HS.put, e])
          · exact .inl (by simpa [HS.put, e] using hs0 h' hh')
        · have e : h' = h := by
            have : s.hs[p]? = some h' := hh'
            rw [hh] at this
            injection this with this
            exact this.symm
          simp [HS.put, e]
    · rintro r s ⟨hr, hv, hvp⟩ hsl
      refine ⟨fun h hh => ?_, fun L' hL hbk => ⟨hr, ?_⟩⟩
      · rcases hv h hh with e | e
        · exact .inl e
        · exact .inr ⟨t, hok, by rw [e]; exact hrt⟩
      obtain ⟨h, hh⟩ : ∃ h, s.hs[p]? = some h := ⟨_, List.getElem?_eq_getElem (by omega)⟩
      obtain ⟨o, ho⟩ : ∃ o, L'[p]? = some o := ⟨_, List.getElem?_eq_getElem (by omega)⟩
      have hb := hbk p o h ho hh
      rw [hvp h hh] at hb
      obtain ⟨Tv, av, hvt⟩ := hrt.iface
      rcases hb with ⟨-, hb⟩ | ⟨t', t2, rfl, -, hr2, hid⟩
      · rw [hvt] at hb; cases hb
      · exact ⟨t', ho, ident_trans _ _ _ hid (ident_same hE' _ _ _ hr2 hrt)⟩
  constructor
  · intro H' vx vy hle hrx hry
    rw [hsp] at hrx
    rw [hsub] at hry
    obtain ⟨Q, h1, h2⟩ := key H' vx vy hle hrx hry
    exact ⟨Q, fun u hm M hu hH s e1 e2 e3 => (h1 u hm M hu hH s e1 e2 e3).1, h2⟩
  · intro H' vx vy hle hrx hry
    rw [hsub] at hrx
    rw [hsp] at hry
    obtain ⟨Q, h1, h2⟩ := key H' vy vx hle hry hrx
    exact ⟨Q, fun u hm M hu hH s e1 e2 e3 => (h1 u hm M hu hH s e1 e2 e3).2, h2⟩
end Go.Proofs.YtjilnjifegeceaaGreatDoor

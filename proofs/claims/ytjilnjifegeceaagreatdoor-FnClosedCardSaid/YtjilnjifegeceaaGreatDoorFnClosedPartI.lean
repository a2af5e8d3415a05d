/-
  A part of the proof that laws.FnClosed returns true at every input: the walk's own rules and the contracts of functions, in build order.
  Its conditions are those of the statement: see the last text.
-/
import Derived.Test.YtjilnjifegeceaaGreatDoorFnClosedPartH

/-
  The unifier's 'nify' on one type twice.
-/
namespace Go.Proofs.YtjilnjifegeceaaGreatDoor
set_option maxRecDepth 100000
set_option maxHeartbeats 4000000

variable {σ : Type}

theorem beqB_self (a : ByteArray) : beqB a a = true := by simp [beqB]

theorem nify_same {E : Env} : ∀ (t : Ty) (C : UC σ) (s : σ) (d : Nat) (m m' : Int) (v v' : Value), EnvOK E C.H → Props C.H → Md m m' → Rep E C.H t v → Rep E C.H t v' → d + 2 * Ty.size t ≤ 50 →
    Nf C m v v' d s fun r s' => r = true ∧ s' = s := by
  refine Ty.ind fun k n c b nm es ih => ?_
  intro C s d m m' v v' hE hp hm h h' hd
  simp only [Rep] at h h'
  obtain ⟨vs, hL, hS⟩ := h
  obtain ⟨vs', hL', hS'⟩ := h'
  have hl := hL.length
  have hl' := hL'.length
  have hsz : Ty.sizeL es + 1 ≤ 25 := by simp only [Ty.size] at hd; omega
  have hle := Ty.len_sizeL es
  have hmm : Md m' m' := by
    rcases hm with ⟨rfl, rfl⟩ | ⟨rfl, rfl⟩ | ⟨rfl, rfl⟩ | ⟨rfl, rfl⟩ <;> simp [Md]
  refine nf_alike hm hE hp hS hS' ⟨by omega, fun _ => rfl, fun _ => ⟨rfl, rfl⟩, fun _ i a a' h1 h2 => ?_⟩ (by simp only [Ty.size] at hd; omega) (by omega) (fun _ => ⟨rfl, rfl⟩) (pre := fun _ s' => s' = s) rfl (fun s' h => ⟨rfl, h⟩) (fun _ _ _ _ _ h => h) ?_
  · rw [h1] at h2
    injection h2 with h2
    subst h2
    exact beqB_self a
  · rintro i x x' s' dd mm h1 h2 rfl hdd hmd
    obtain ⟨e, g1, g2⟩ := hL.get h1
    obtain ⟨e', g1', g2'⟩ := hL'.get h2
    rw [g1] at g1'
    injection g1' with g1'
    subst g1'
    have hmem := List.mem_of_getElem? g1
    have hsz2 := Ty.size_mem hmem
    have hdd' : dd + 2 * Ty.size e ≤ 50 := by simp only [Ty.size] at hd; omega
    obtain ⟨mq, hmq⟩ : ∃ mq, Md mm mq := by
      rcases hmd with rfl | rfl
      · exact ⟨_, hm⟩
      · exact ⟨_, hmm⟩
    exact ⟨(ih e hmem C s' dd mm mq x x' hE hp hmq g2 g2' hdd').mono (by rintro r s1 ⟨rfl, rfl⟩; rfl), (ih e hmem C s' dd mm mq x' x hE hp hmq g2' g2 hdd').mono (by rintro r s1 ⟨rfl, rfl⟩; rfl)⟩
end Go.Proofs.YtjilnjifegeceaaGreatDoor

/-
  A new unifier; rows of zero elements.
-/
namespace Go.Proofs.YtjilnjifegeceaaGreatDoor
set_option maxRecDepth 100000
set_option maxHeartbeats 4000000
attribute [local irreducible] Calls execOp

theorem r100 {G G' : Prop} (k : G') (h : Hid G' → G := by intro k_; (first | (refine cL ?_; first | (refine cL_move ?_; refine L_val R_move rfl rfl rfl ?_) | (refine cL_load ?_; first | refine L_val (R_loadB rfl (by assumption) (by rfl)) rfl rfl rfl ?_ | refine L_val (R_loadH (by assumption) rfl (by assumption) (by rfl)) rfl rfl rfl ?_) | (refine cL_assign ?_; refine L_val R_assign rfl rfl rfl ?_) | (refine cL_call ?_; refine L_val (R_len rfl) rfl rfl rfl ?_) | (refine cL_lss ?_; refine L_val (R_ltI rfl rfl) rfl rfl rfl ?_) | (refine cL_add ?_; refine L_val (R_addI rfl rfl) rfl rfl rfl ?_) | (refine cL_geq ?_; refine L_val (R_geI rfl rfl) rfl rfl rfl ?_) | refine L_nil ?_) | refine G_seq ?_ | refine G_region ?_ | refine G_skip ?_ | refine G_block ?_ | refine G_end ?_ | refine G_true rfl ?_ | refine G_false rfl ?_); exact k_.out) : G := h ⟨k⟩
theorem r101 {G G' : Prop} (k : G') (h : Hid G' → G := by intro k_; (repeat (first | (refine cL ?_; first | (refine cL_move ?_; refine L_val R_move rfl rfl rfl ?_) | (refine cL_load ?_; first | refine L_val (R_loadB rfl (by assumption) (by rfl)) rfl rfl rfl ?_ | refine L_val (R_loadH (by assumption) rfl (by assumption) (by rfl)) rfl rfl rfl ?_) | (refine cL_assign ?_; refine L_val R_assign rfl rfl rfl ?_) | (refine cL_call ?_; refine L_val (R_len rfl) rfl rfl rfl ?_) | (refine cL_lss ?_; refine L_val (R_ltI rfl rfl) rfl rfl rfl ?_) | (refine cL_add ?_; refine L_val (R_addI rfl rfl) rfl rfl rfl ?_) | (refine cL_geq ?_; refine L_val (R_geI rfl rfl) rfl rfl rfl ?_) | refine L_nil ?_) | refine G_seq ?_ | refine G_region ?_ | refine G_skip ?_ | refine G_block ?_ | refine G_end ?_ | refine G_true rfl ?_ | refine G_false rfl ?_)); exact k_.out) : G := h ⟨k⟩

section
variable {P : Program} {n : Nat} {ops rest : List Oper} {K : LK} {f : Fm} {ds : List Deferred} {w : World}
variable {dst : Option Nat} {ty : TypeId} {pos : String} {aft : Array Edge} {g : Option (Nat × Bool)}

theorem L_mapUpdateP {t kt et : Nat} {z : Value} [hm : MapP P t kt et z] [PtrEq P kt] {x y v : Operand} {k r : Nat} {kvs : List (Nat × Value)} (hx : ev f x = .map (some r)) (hy : ev f y = ptr k) (hr : MapPt w r kvs) (hk : PLive w (some ⟨k, 0, none⟩)) (hl : ∀ kv ∈ kvs, PLive w (some ⟨kv.1, 0, none⟩)) (hn : ∀ kv ∈ kvs, kv.1 ≠ k)
    (hw : wantd ops f ⟨none, .mapUpdate t x y v, ty, pos, aft, g⟩ = true) (h : ∀ w', MapPt w' r (kvs ++ [(k, ev f v)]) → Ext (fun b => b = r) w w' → w'.heap.size = w.heap.size → L P n ops K rest f ds w') : L P n ops K (⟨none, .mapUpdate t x y v, ty, pos, aft, g⟩ :: rest) f ds w := by
  obtain ⟨w', h1, h2, h3, h4⟩ := R_mapUpdateP (P := P) (dst := none) (ty := ty) (pos := pos) (aft := aft) (g := g) (t := t) (v := v) hx hy hr hk hl hn
  exact L_skip h1 hw rfl (h w' h2 h3 h4)
end

section
attribute [local semireducible] execOp
theorem R_makeTypes {f : Fm} {w : World} {dst : Option Nat} {ty : TypeId} {pos : String} {aft : Array Edge} {g : Option (Nat × Bool)} {x y : Operand} {n : Nat} (hx : ev f x = .int .i64 (n : Int)) (hy : ev f y = .int .i64 (n : Int)) (h8 : n ≤ 8) :
    (execOp (ev f) ⟨dst, .makeSlice 85 x y, ty, pos, aft, g⟩).run Tryz.prog w = .ok (.value (.slice (some ⟨w.heap.size, 0, none⟩) n n)) (w.alloc (Ob (List.replicate n .nilIface) 60)) := by
  have hu : Tryz.prog.underlying 85 = some (.slice 60) := by kernel_rfl
  have hi : (Tryz.prog.info? 60).map (fun i => (i.zero, i.size, i.bytes)) = some (some .nilIface, 1, 16) := by kernel_rfl
  obtain ⟨i, h1, h2⟩ := Option.map_eq_some_iff.1 hi
  simp only [Prod.mk.injEq] at h2
  obtain ⟨hz, hs, hb⟩ := h2
  have hwr : IntKind.i64.wrap (n : Int) = (n : Int) := wrap_i64 (by omega) (by omega)
  have e1 : ¬ (16 * (n : Int) > 281474976710656) := by omega
  have e2 : ¬ ((n : Int) < 0) := by omega
  have e3 : ¬ (n * 16 > roomBytes) := by unfold roomBytes; omega
  have hcells : (Array.range n).map (fun j => (Value.nilIface.cells)[j % Value.nilIface.cells.size]!) = (List.replicate n Value.nilIface).toArray := by
    apply Array.ext
    · simp
    · intro j h1 h2
      have : Value.nilIface.cells = #[Value.nilIface] := rfl
      simp [this, Nat.mod_one]
  have ht : ∀ w, (typeInfo 60).run Tryz.prog w = .ok i w := fun w => by simp [typeInfo, h1]
  have hso : ∀ w, (sizeOf 60).run Tryz.prog w = .ok 1 w := fun w => by simp [sizeOf, ht, hs]
  have hzv : ∀ w, (zeroValue 60).run Tryz.prog w = .ok .nilIface w := fun w => by simp [zeroValue, ht, hz]
  simp [execOp, hx, hy, Instr.makeSlice, run_underlying hu, asInt, asIntOf, ht, hb, hwr, e1, e2, askRoom, hso]
  split
  · rename_i h0
    subst h0
    have e0 : (Array.map (fun _ => (default : Value)) (Array.range 0)) = #[] := by apply Array.ext <;> simp
    simp [newRow, Result.andThen, Ob, e0]
  · rw [hcells]
    simp [newRow, Result.andThen, Ob]
end

instance map_handles : MapP Tryz.prog 250 72 251 (.pointer none) := ⟨by kernel_rfl, ⟨241, by kernel_rfl⟩, by kernel_rfl⟩

def hMap (as_ hs : List Nat) : List (Nat × Value) := (as_.zip hs).map fun p => (p.1, ptr p.2)

theorem hMap_snoc {as_ hs : List Nat} {a h i : Nat} (hl : hs.length = i) (ha : as_[i]? = some a) : hMap (as_.take i) hs ++ [(a, ptr h)] = hMap (as_.take (i + 1)) (hs ++ [h]) := by
  have hlt := (List.getElem?_eq_some_iff.1 ha).1
  have h1 : (as_.take i).length = hs.length := by rw [List.length_take]; omega
  rw [List.take_add_one, ha]
  unfold hMap
  simp only [Option.toList_some]
  rw [List.zip_append h1]
  simp

/-- a new unifier for these type parameters -/
structure NewU (as_ : List Nat) (w : World) (u hm : Nat) (hs : List Nat) (w' : World) : Prop where
  len : hs.length = as_.length
  ub : w'.heap[u]? = some (Ob (UCells (.pointer none) hm 0) 253)
  mp : MapPt w' hm (hMap as_ hs)
  hb : ∀ h ∈ hs, w'.heap[h]? = some (Ob [.nilIface] 60)
  hn : hs.Nodup
  fu : w.heap.size ≤ u
  fm : w.heap.size ≤ hm
  fh : ∀ h ∈ hs, w.heap.size ≤ h
  ne : u ≠ hm ∧ u ∉ hs ∧ hm ∉ hs
  ext : Ext No w w'

theorem newUnifier_any {H : Hp} {as_ : List Nat} {q : Option Addr} {qc : Nat} (w : World) (hA : Agree H w) (hq : PtrsAt H as_ q) (hal : ∀ a ∈ as_, LiveH H a) (hnd : as_.Nodup) (h8 : as_.length ≤ 8) :
    Calls Tryz.prog 61 #[.pointer none, .slice q as_.length qc, .slice none 0 0, .bool false] w (Ret fun v w' => ∃ u hm hs, v = ptr u ∧ NewU as_ w u hm hs w') := by
  have hge : decide ((as_.length : Int) ≥ ((0 : Nat) : Int)) = true := decide_eq_true (by omega)
  (refine calls_enter Tryz.func61 Tryz.ntmps61 rfl rfl ?_)
  (repeat (first | (refine cL ?_; first | (refine cL_call ?_; refine L_callI (assert_true _) rfl rfl ?_) | (refine cL_geq ?_; refine L_valB (R_geI rfl rfl) hge rfl rfl rfl ?_)) | refine r100 ?_))
  refine L_val (R_makeMapH map_handles.h rfl) rfl rfl rfl ?_
  have hmn : w.heap.size ≤ w.heap.size := Nat.le_refl _
  obtain ⟨hm, hhm⟩ : ∃ hm, w.heap.size = hm := ⟨_, rfl⟩
  have hmap0 : MapPt (w.alloc (.map #[] 0)) hm (hMap (as_.take 0) []) := ⟨#[], 0, by rw [← hhm]; exact (newB_alloc w (.map #[] 0)).here, rfl, by simp, by simp⟩
  have x0 : Ext No w (w.alloc (.map #[] 0)) := Ext.alloc w _
  have hsz : hm < (w.alloc (.map #[] 0)).heap.size := by rw [← hhm]; exact lt_of_heap (newB_alloc w (.map #[] 0)).here
  rw [hhm]
  generalize w.alloc (.map #[] 0) = w1 at *
  (refine r101 ?_)
  refine G_loop (fun f ds0 w0 => ds0 = [] ∧ ∃ (f0 : Fm) (i : Nat) (hs : List Nat), f = with_ [(24, .int .i64 (i : Int)), (23, .int .i64 (as_.length : Int)), (0, .pointer none), (2, .slice none 0 0), (3, .bool false), (9, .map (some hm)), (22, .slice q as_.length qc)] f0 ∧ i ≤ as_.length ∧ hs.length = i ∧
      Ext No w w0 ∧ hm < w0.heap.size ∧ MapPt w0 hm (hMap (as_.take i) hs) ∧ (∀ h ∈ hs, w0.heap[h]? = some (Ob [.nilIface] 60) ∧ hm < h) ∧ hs.Nodup) (fun f _ _ => countM 24 23 f)
    ⟨rfl, _, 0, [], with_self ⟨rfl, rfl, rfl, rfl, rfl, rfl, rfl, trivial⟩, Nat.zero_le _, rfl, x0, hsz, hmap0, (fun h hh => by cases hh), List.nodup_nil⟩ ?_
  rintro f ds0 wr ⟨rfl, f0, i, hs, rfl, hi, hlen, hext, hmr, hmp, hhs, hnh⟩
  have hAr : Agree H wr := hA.ext0 hext
  by_cases h : i < as_.length
  · have hb : decide ((i : Int) < (as_.length : Int)) = true := decide_eq_true (by omega)
    have hb0 : decide ((i : Int) < ((0 : Nat) : Int)) = false := decide_eq_false (by omega)
    obtain ⟨a, ha⟩ : ∃ v, as_[i]? = some v := ⟨_, List.getElem?_eq_getElem h⟩
    obtain ⟨gb, cs, T, rfl, hg1, hg2⟩ := hq i a ha
    (repeat (first | (refine cL ?_; first | (refine cL_load ?_; refine L_val (R_loadH hAr rfl hg1 hg2) rfl rfl rfl ?_) | (refine cL_lss ?_; refine L_valB (R_ltI rfl rfl) hb rfl rfl rfl ?_) | (refine cL_indexAddr ?_; refine L_valE (R_ia rfl rfl (by omega) (by omega)) (ia0 _ _) rfl rfl rfl ?_)) | refine r100 ?_))
    refine L_allocZ rfl rfl rfl fun hb' w2 hn2 => ?_
    have hfr := hn2.fresh
    have hmp2 : MapPt w2 hm (hMap (as_.take i) hs) := hmp.ext hn2.ext (fun x => x)
    have hA2 := hAr.ext0 hn2.ext
    (repeat (first | (refine cL ?_; first | (refine cL_lss ?_; refine L_valB (R_ltI rfl rfl) hb0 rfl rfl rfl ?_)) | refine r100 ?_))
    refine L_mapUpdateP rfl rfl hmp2 (hA2.live (hal a (List.mem_of_getElem? ha))) ?_ ?_ rfl fun w3 hmp3 x3 s3 => ?_
    · intro kv hkv
      obtain ⟨⟨k1, k2⟩, hz, rfl⟩ := List.mem_map.1 hkv
      exact hA2.live (hal k1 (List.mem_of_mem_take (List.of_mem_zip hz).1))
    · intro kv hkv
      obtain ⟨⟨k1, k2⟩, hz, rfl⟩ := List.mem_map.1 hkv
      intro hk
      obtain ⟨j, hj⟩ := List.mem_iff_getElem?.1 (List.of_mem_zip hz).1
      have hjl := (List.getElem?_eq_some_iff.1 hj).1
      rw [List.length_take] at hjl
      rw [List.getElem?_take_of_lt (by omega)] at hj
      have : j = i := nodup_inj hnd (hj.trans (by rw [show k1 = a from hk])) ha
      omega
    · have hne : hb' ≠ hm := by omega
      (repeat (first | (refine cL ?_; first | (refine cL_add ?_; refine L_valE (R_addI rfl rfl) (succ_i64 h (by omega)) rfl rfl rfl ?_)) | refine r100 ?_))
      refine G_inv ⟨⟨rfl, _, i + 1, hs ++ [hb'], with_self ⟨rfl, rfl, rfl, rfl, rfl, rfl, rfl, trivial⟩, h, by simp [hlen], ?_, by have := hn2.ext.size; omega, ?_, ?_, ?_⟩, ?_⟩
      · exact (hext.trans hn2.ext).trans_new x3 (fun j hj hm' => by omega)
      · rw [← hMap_snoc hlen ha]
        exact hmp3
      · intro h0 hh0
        rcases List.mem_append.1 hh0 with hh0 | hh0
        · obtain ⟨e1, e2⟩ := hhs h0 hh0
          exact ⟨x3.heap (fun x => by omega) (hn2.ext.heap (fun x => x) e1), e2⟩
        · simp only [List.mem_singleton] at hh0
          subst hh0
          exact ⟨x3.heap (fun x => hne x) hn2.here, by omega⟩
      · refine List.nodup_append.2 ⟨hnh, by simp, ?_⟩
        rintro x hx y hy rfl
        simp only [List.mem_singleton] at hy
        subst hy
        have := lt_of_heap (hhs _ hx).1
        omega
      · show ((as_.length : Int) - ((i + 1 : Nat) : Int)).toNat < ((as_.length : Int) - (i : Int)).toNat
        omega
  · have hb : decide ((i : Int) < (as_.length : Int)) = false := decide_eq_false (by omega)
    have hil : i = as_.length := by omega
    (repeat (first | (refine cL ?_; first | (refine cL_lss ?_; refine L_valB (R_ltI rfl rfl) hb rfl rfl rfl ?_) | (refine cL_build ?_; refine L_val (R_build (cs := UCells (.pointer none) hm 0) rfl) rfl rfl rfl ?_)) | refine G_exit rfl ?_ | refine r100 ?_))
    refine L_box rfl rfl rfl fun u w2 hn2 => ?_
    have hfr := hn2.fresh
    (refine r101 ?_)
    (refine G_retF rfl ?_)
    rw [hil, List.take_length] at hmp
    refine ⟨ptr u, rfl, u, hm, hs, rfl, ⟨by omega, hn2.here, hmp.ext hn2.ext (fun x => x), fun h hh => hn2.ext.heap (fun x => x) (hhs h hh).1, hnh, by have := hext.size; omega, by omega, fun h hh => by have := (hhs h hh).2; omega, ⟨by omega, fun hu => ?_, fun hu => ?_⟩, hext.trans hn2.ext⟩⟩
    · have := lt_of_heap (hhs u hu).1; omega
    · have := (hhs hm hu).2; omega
end Go.Proofs.YtjilnjifegeceaaGreatDoor

/-
  A unifier's handles: what is inferred.
-/
namespace Go.Proofs.YtjilnjifegeceaaGreatDoor
set_option maxRecDepth 100000
set_option maxHeartbeats 4000000
attribute [local irreducible] Calls execOp

/-- the handles of the type parameters, and what lies there -/
structure HS where
  hs : List Nat
  val : Nat → Value

def SIh (as_ : List Nat) (u hm : Nat) (M : Nat → Prop) (s : HS) (w : World) : Prop :=
  s.hs.length = as_.length ∧ MapPt w hm (hMap as_ s.hs) ∧ (∀ h ∈ s.hs, w.heap[h]? = some (Ob [s.val h] 60) ∧ M h ∧ h ≠ u ∧ (s.val h).oneCell' = true) ∧ hm ≠ u ∧ M hm

def mkUC (H : Hp) (as_ : List Nat) (u hm : Nat) (M : Nat → Prop) (hu : M u) (hH : ∀ b o, H b = some o → ¬ M b) : UC HS where
  H := H
  u := u
  hm := hm
  ck := .pointer none
  M := M
  SI := SIh as_ u hm M
  hu := hu
  hH := hH
  hS := fun _ _ _ he ⟨h1, h2, h3, h4, h5⟩ => ⟨h1, h2.ext he h4, fun h hh => let ⟨g1, g2, g3, g4⟩ := h3 h hh; ⟨he.heap g3 g1, g2, g3, g4⟩, h4, h5⟩

section
variable {H : Hp} {as_ : List Nat} {u hm : Nat} {M : Nat → Prop} {hu : M u} {hH : ∀ b o, H b = some o → ¬ M b} {s : HS} {d : Nat} {w : World}

theorem hMap_get {hs : List Nat} {i a h : Nat} (ha : as_[i]? = some a) (hh : hs[i]? = some h) : (hMap as_ hs)[i]? = some (a, ptr h) := by
  unfold hMap
  have h1 : (as_.zip hs)[i]? = some (a, h) := by
    rw [List.getElem?_zip_eq_some]
    exact ⟨ha, hh⟩
  rw [List.getElem?_map, h1]
  rfl
theorem hMap_keys {hs : List Nat} (hl : hs.length = as_.length) : (hMap as_ hs).map (·.1) = as_ := by
  unfold hMap
  rw [List.map_map]
  exact List.map_fst_zip (by omega)
theorem hMap_live {H : Hp} {hs : List Nat} (hA : Agree H w) (hal : ∀ a ∈ as_, LiveH H a) : ∀ kv ∈ hMap as_ hs, PLive w (some ⟨kv.1, 0, none⟩) := by
  intro kv hkv
  obtain ⟨⟨k1, k2⟩, hz, rfl⟩ := List.mem_map.1 hkv
  exact hA.live (hal k1 (List.of_mem_zip hz).1)

theorem at_any (hw : UW (mkUC H as_ u hm M hu hH) s d w) (hal : ∀ a ∈ as_, LiveH H a) (hnd : as_.Nodup) {i a h : Nat} (ha : as_[i]? = some a) (hh : s.hs[i]? = some h) :
    Calls Tryz.prog 112 #[ptr u, ptr a] w (Ret (Is (s.val h) w)) := by
  have hub := hw.ub
  unfold UCells at hub
  obtain ⟨h1, h2, h3, h4, h5⟩ := hw.si
  have hA : Agree H w := hw.ag
  obtain ⟨g1, -, -, -⟩ := h3 h (List.mem_of_getElem? hh)
  have hlk : (match lookI (hMap as_ s.hs) a 0 with | some (_, v) => v | none => .pointer none) = ptr h := by
    rw [lookI_some (by rw [hMap_keys h1]; exact hnd) (hMap_get ha hh)]
  have hub' : w.heap[u]? = some (Ob [.pointer none, .map (some hm), .int .i64 (d : Int), .bool false] 253) := hub
  clear hub
  (refine calls_enter Tryz.func112 Tryz.ntmps112 rfl rfl ?_)
  (repeat (first | (refine cL ?_; first | refine L_valE (R_lookupP rfl rfl h2 (hA.live (hal a (List.mem_of_getElem? ha))) (hMap_live hA hal)) hlk rfl rfl rfl ?_) | refine r12 ?_))
  (refine G_retF rfl ?_)
  exact ⟨_, rfl, rfl, rfl⟩

theorem inferred_any {q : Option Addr} {qc : Nat} (hw : UW (mkUC H as_ u hm M hu hH) s d w) (hq : PtrsAt H as_ q) (hal : ∀ a ∈ as_, LiveH H a) (hnd : as_.Nodup) (h8 : as_.length ≤ 8) :
    Calls Tryz.prog 63 #[ptr u, .slice q as_.length qc] w (Ret fun v w' => ∃ g, v = .slice (some ⟨g, 0, none⟩) as_.length as_.length ∧ w'.heap[g]? = some (Ob (s.hs.map s.val) 60) ∧ w.heap.size ≤ g ∧ Ext No w w') := by
  obtain ⟨hl, -, hvv, -, -⟩ := hw.si
  (refine calls_enter Tryz.func63 Tryz.ntmps63 rfl rfl ?_)
  (refine r81 ?_)
  refine L_val (R_makeTypes (n := as_.length) rfl rfl h8) rfl rfl rfl ?_
  have hn1 := newB_alloc w (Ob (List.replicate as_.length .nilIface) 60)
  obtain ⟨g, hg⟩ : ∃ g, w.heap.size = g := ⟨_, rfl⟩
  rw [hg] at hn1 ⊢
  generalize w.alloc (Ob (List.replicate as_.length .nilIface) 60) = w1 at *
  have hx1 := hn1.ext
  (refine r81 ?_)
  refine G_loop (fun f ds0 w0 => ds0 = [] ∧ ∃ (f0 : Fm) (i : Nat), f = with_ [(13, .int .i64 (i : Int)), (12, .int .i64 (as_.length : Int)), (0, ptr u), (5, .slice (some ⟨g, 0, none⟩) as_.length as_.length), (11, .slice q as_.length qc)] f0 ∧ i ≤ as_.length ∧
      Ext (fun k => k = g) w1 w0 ∧ w0.heap[g]? = some (Ob ((s.hs.map s.val).take i ++ List.replicate (as_.length - i) .nilIface) 60)) (fun f _ _ => countM 13 12 f)
    ⟨rfl, _, 0, with_self ⟨rfl, rfl, rfl, rfl, rfl, trivial⟩, Nat.zero_le _, Ext.refl _ _, by simpa using hn1.here⟩ ?_
  rintro f ds0 wr ⟨rfl, f0, i, rfl, hi, hext, hgr⟩
  have hxw : Ext No w wr := hx1.trans_new hext fun j hj hm' => by omega
  have hwr := hw.ext hxw
  have hAr : Agree H wr := hwr.ag
  by_cases h : i < as_.length
  · have hb : decide ((i : Int) < (as_.length : Int)) = true := decide_eq_true (by omega)
    obtain ⟨a, ha⟩ : ∃ v, as_[i]? = some v := ⟨_, List.getElem?_eq_getElem h⟩
    obtain ⟨hd', hh⟩ : ∃ v, s.hs[i]? = some v := ⟨_, List.getElem?_eq_getElem (by omega)⟩
    obtain ⟨gb, cs, T, rfl, hg1, hg2⟩ := hq i a ha
    have hgi : lget ((s.hs.map s.val).take i ++ List.replicate (as_.length - i) .nilIface) i = some .nilIface := by
      have e3 : i - ((s.hs.map s.val).take i).length = 0 := by simp; omega
      rw [lget_eq, List.getElem?_append_right (by simp; omega), e3, List.getElem?_replicate, if_pos (by omega)]
    have hne : gb ≠ g := by
      have := lt_of_heap (hw.ag _ _ hg1)
      omega
    (repeat (first | (refine cL ?_; first | (refine cL_load ?_; refine L_val (R_loadH hAr rfl hg1 hg2) rfl rfl rfl ?_) | (refine cL_call ?_; refine L_callI (at_any hwr hal hnd ha hh) rfl rfl ?_) | (refine cL_lss ?_; refine L_valB (R_ltI rfl rfl) hb rfl rfl rfl ?_) | (refine cL_indexAddr ?_; refine L_valE (R_ia rfl rfl (by omega) (by omega)) (ia0 _ _) rfl rfl rfl ?_)) | refine r82 ?_))
    refine L_store rfl hgr hgi (hvv hd' (List.mem_of_getElem? hh)).2.2.2 rfl fun w2 h2 x2 s2 => ?_
    (repeat (first | (refine cL ?_; first | (refine cL_add ?_; refine L_valE (R_addI rfl rfl) (succ_i64 h (by omega)) rfl rfl rfl ?_)) | refine r82 ?_))
    refine G_inv ⟨⟨rfl, _, i + 1, with_self ⟨rfl, rfl, rfl, rfl, rfl, trivial⟩, h, hext.trans x2, ?_⟩, ?_⟩
    · rw [h2]
      congr 2
      rw [lset_eq, List.set_append_right _ _ (by simp; omega)]
      have e1 : (List.map s.val s.hs)[i]? = some (s.val hd') := by simp [hh]
      have e2 : as_.length - i = (as_.length - (i + 1)) + 1 := by omega
      have e3 : i - ((s.hs.map s.val).take i).length = 0 := by simp; omega
      rw [e3, e2, List.replicate_succ, List.set_cons_zero, List.take_add_one, e1]
      simp
      rfl
    · show ((as_.length : Int) - ((i + 1 : Nat) : Int)).toNat < ((as_.length : Int) - (i : Int)).toNat
      omega
  · have hb : decide ((i : Int) < (as_.length : Int)) = false := decide_eq_false (by omega)
    have hil : i = as_.length := by omega
    subst hil
    (repeat (first | (refine cL ?_; first | (refine cL_lss ?_; refine L_valB (R_ltI rfl rfl) hb rfl rfl rfl ?_)) | refine G_exit rfl ?_ | refine r82 ?_))
    (refine G_retF rfl ?_)
    refine ⟨.slice (some ⟨g, 0, none⟩) as_.length as_.length, rfl, g, rfl, ?_, by omega, hxw⟩
    rw [hgr]
    congr 2
    rw [List.take_of_length_le (by simp; omega)]
    simp
end
end Go.Proofs.YtjilnjifegeceaaGreatDoor

/-
  The package's 'Unify' on one pair of types.
-/
namespace Go.Proofs.YtjilnjifegeceaaGreatDoor
set_option maxRecDepth 100000
set_option maxHeartbeats 4000000
attribute [local irreducible] Calls execOp

theorem r102 {G G' : Prop} (k : G') (h : Hid G' → G := by intro k_; (repeat (first | (refine cL ?_; first | (refine cL_move ?_; refine L_val R_move rfl rfl rfl ?_) | (refine cL_load ?_; first | refine L_val (R_loadB rfl (by assumption) (by rfl)) rfl rfl rfl ?_ | refine L_val (R_loadH (by assumption) rfl (by assumption) (by rfl)) rfl rfl rfl ?_) | (refine cL_assign ?_; refine L_val R_assign rfl rfl rfl ?_) | (refine cL_call ?_; refine L_val (R_len rfl) rfl rfl rfl ?_) | (refine cL_lss ?_; refine L_val (R_ltI rfl rfl) rfl rfl rfl ?_) | (refine cL_not ?_; refine L_val (R_not rfl) rfl rfl rfl ?_) | (refine cL_add ?_; refine L_val (R_addI rfl rfl) rfl rfl rfl ?_) | refine L_nil ?_) | refine G_seq ?_ | refine G_region ?_ | refine G_skip ?_ | refine G_block ?_ | refine G_end ?_ | refine G_true rfl ?_ | refine G_false rfl ?_)); exact k_.out) : G := h ⟨k⟩
theorem r103 {G G' : Prop} (k : G') (h : Hid G' → G := by intro k_; (first | (refine cL ?_; first | (refine cL_move ?_; refine L_val R_move rfl rfl rfl ?_) | (refine cL_load ?_; first | refine L_val (R_loadB rfl (by assumption) (by rfl)) rfl rfl rfl ?_ | refine L_val (R_loadH (by assumption) rfl (by assumption) (by rfl)) rfl rfl rfl ?_) | (refine cL_assign ?_; refine L_val R_assign rfl rfl rfl ?_) | (refine cL_call ?_; refine L_val (R_len rfl) rfl rfl rfl ?_) | (refine cL_lss ?_; refine L_val (R_ltI rfl rfl) rfl rfl rfl ?_) | (refine cL_not ?_; refine L_val (R_not rfl) rfl rfl rfl ?_) | (refine cL_add ?_; refine L_val (R_addI rfl rfl) rfl rfl rfl ?_) | refine L_nil ?_) | refine G_seq ?_ | refine G_region ?_ | refine G_skip ?_ | refine G_block ?_ | refine G_end ?_ | refine G_true rfl ?_ | refine G_false rfl ?_); exact k_.out) : G := h ⟨k⟩

theorem unify50 {σ : Type} {C : UC σ} {m : Int} {x y : Value} {Q : Bool → σ → Prop} {w : World} (h : NfAt C m x y 0 Q w) :
    Calls Tryz.prog 62 #[ptr C.u, x, y, .int .u64 m] w (Ret fun v w' => ∃ r s', v = .bool r ∧ Q r s' ∧ UW C s' 0 w' ∧ Ext C.M w w') := by
  unfold NfAt at h
  (refine calls_enter Tryz.func62 Tryz.ntmps62 rfl rfl ?_)
  (refine r33 ?_)
  refine L_callR h rfl rfl fun v w' hv => ?_
  (refine r33 ?_)
  (refine G_retF rfl ?_)
  exact ⟨_, rfl, hv⟩

instance app_bools : AppT Tryz.prog 84 4 1 := ⟨by kernel_rfl, by kernel_rfl⟩

instance zero_pair : ZeroT Tryz.prog 83 (.agg #[.nilIface, .nilIface]) := ⟨by kernel_rfl⟩

theorem unify23 {H : Hp} {as_ : List Nat} {q : Option Addr} {qc gp pc Tx Ty' ax ay : Nat} {rr : List Value} {m : Int} {Q : Bool → HS → Prop} (w : World) (hA : Agree H w) (hq : PtrsAt H as_ q) (hal : ∀ a ∈ as_, LiveH H a) (hnd : as_.Nodup) (h8 : as_.length ≤ 8)
    (hm : m = 0 ∨ m = 1 ∨ m = 2) (hp : w.heap[gp]? = some (Ob (.iface Tx (ptr ax) :: .iface Ty' (ptr ay) :: rr) 83))
    (hnf : ∀ (u hm : Nat) (M : Nat → Prop) (hu : M u) (hH : ∀ b o, H b = some o → ¬ M b) (s : HS), s.hs.length = as_.length → s.hs.Nodup → (∀ h ∈ s.hs, s.val h = .nilIface) → Nf (mkUC H as_ u hm M hu hH) m (.iface Tx (ptr ax)) (.iface Ty' (ptr ay)) 0 s Q) :
    Calls Tryz.prog 34 #[.slice q as_.length qc, .slice (some ⟨gp, 0, none⟩) 1 pc, .int .i64 m, .bool false] w
      (Ret fun v w' => ∃ vo gi r s, v = .tuple #[vo, .slice (some ⟨gi, 0, none⟩) as_.length as_.length] ∧ OwnS w' 4 vo [.bool r] ∧ w'.heap[gi]? = some (Ob (s.hs.map s.val) 60) ∧ s.hs.length = as_.length ∧ Q r s ∧ Ext No w w') := by
  have hcv : Value.int .u64 (IntKind.u64.wrap m) = .int .u64 m := by rcases hm with rfl | rfl | rfl <;> rfl
  (refine calls_enter Tryz.func34 Tryz.ntmps34 rfl rfl ?_)
  (refine r102 ?_)
  refine L_callR (newUnifier_any w hA hq hal hnd h8) rfl rfl fun v w1 ⟨u, hm', hs, hv, hN⟩ => ?_
  subst hv
  obtain ⟨hN1, hN2, hN3, hN4, hN5, hN6, hN7, hN8, ⟨hN9, hN10, hN11⟩, hN12⟩ := hN
  have hu1 := lt_of_heap hN2
  have hmlt : hm' < w1.heap.size := by obtain ⟨es, c, e1, -⟩ := hN3; exact lt_of_heap e1
  have hMu : w.heap.size ≤ u ∧ u < w1.heap.size := ⟨hN6, hu1⟩
  have hHM : ∀ b o, H b = some o → ¬ (w.heap.size ≤ b ∧ b < w1.heap.size) := fun b o hb hM => by
    have := lt_of_heap (hA _ _ hb)
    omega
  have hU1 : UW (mkUC H as_ u hm' (fun b => w.heap.size ≤ b ∧ b < w1.heap.size) hMu hHM) ⟨hs, fun _ => .nilIface⟩ 0 w1 :=
    ⟨hA.ext0 hN12, hN2, fun b hb => hb.2, ⟨hN1, hN3, fun h hh => ⟨hN4 h hh, ⟨hN8 h hh, lt_of_heap (hN4 h hh)⟩, fun e => hN10 (e ▸ hh), rfl⟩, fun e => hN9 e.symm, ⟨hN7, hmlt⟩⟩⟩
  have hn := hnf u hm' _ hMu hHM ⟨hs, fun _ => .nilIface⟩ hN1 hN5 (fun _ _ => rfl)
  generalize hC : mkUC H as_ u hm' (fun b => w.heap.size ≤ b ∧ b < w1.heap.size) hMu hHM = C at *
  have hCu : C.u = u := by rw [← hC]; rfl
  have hp1 := hN12.heap (fun x => x) hp
  have hcl : ∀ j v, lget [.iface Tx (ptr ax), .iface Ty' (ptr ay)] j = some v → w1.cell? ⟨gp, 0 + j, none⟩ = some v := fun j v hj => by
    rw [Nat.zero_add]
    refine cell_of_heap hp1 ?_
    match j, hj with
    | 0, hj => exact hj
    | 1, hj => exact hj
    | j + 2, hj => simp [lget] at hj
  have htl : ∀ {s : HS} {w2 : World}, UW C s 0 w2 → s.hs.length = as_.length := fun h => by subst hC; exact h.si.1
  have hinf : ∀ {s : HS} {w2 : World}, UW C s 0 w2 → Calls Tryz.prog 63 #[ptr u, .slice q as_.length qc] w2 (Ret fun v w' => ∃ g, v = .slice (some ⟨g, 0, none⟩) as_.length as_.length ∧ w'.heap[g]? = some (Ob (s.hs.map s.val) 60) ∧ w2.heap.size ≤ g ∧ Ext No w2 w') := fun h => by subst hC; exact inferred_any h hq hal hnd h8
  have hCM : ∀ {a b : World}, Ext C.M a b → Ext (fun b => w.heap.size ≤ b) a b := fun h => by subst hC; exact h.mono fun i _ hi => hi.1
  clear hN2 hN3 hN4 hnf
  (refine r102 ?_)
  refine G_loop (fun f ds0 w0 => ds0 = [] ∧ ((∃ f0, f = with_ [(19, .int .i64 0), (18, .int .i64 1), (0, .slice q as_.length qc), (2, .int .i64 m), (8, .slice none 0 0), (10, ptr u), (17, .slice (some ⟨gp, 0, none⟩) 1 pc)] f0 ∧ w0 = w1) ∨
      ∃ f0 vo s, f = with_ [(19, .int .i64 1), (18, .int .i64 1), (0, .slice q as_.length qc), (8, vo), (10, ptr u)] f0 ∧ OwnS w0 4 vo [.bool true] ∧ UW C s 0 w0 ∧ Q true s ∧ Ext No w w0)) (fun f _ _ => countM 19 18 f)
    ⟨rfl, .inl ⟨_, with_self ⟨rfl, rfl, rfl, rfl, rfl, rfl, rfl, trivial⟩, rfl⟩⟩ ?_
  rintro f ds0 wr ⟨rfl, ⟨f0, rfl, rfl⟩ | ⟨f0, vo, s, rfl, hown, hUr, hQr, hxr⟩⟩
  · (repeat (first | (refine cL ?_; first | (refine cL_load ?_; refine L_val (R_loadA (vs := [.iface Tx (ptr ax), .iface Ty' (ptr ay)]) rfl rfl hcl) rfl rfl rfl ?_) | (refine cL_indexAddr ?_; refine L_valE (R_ia rfl rfl (by omega) (by omega)) (show _ = Value.pointer (some ⟨gp, 0, none⟩) from rfl) rfl rfl rfl ?_)) | refine r103 ?_))
    refine L_allocZ rfl rfl rfl fun b12 w2 hn2 => ?_
    refine L_storeA rfl hn2.here rfl rfl rfl rfl rfl rfl fun w3 h3 e3 s3 => ?_
    have hn3 := hn2.store h3 e3 s3
    have hU3 := hU1.ext hn3.ext
    (repeat (first | (refine cL ?_; first | (refine cL_indexAddr ?_; refine L_val (R_iaArr rfl rfl (by omega) (by omega)) rfl rfl rfl ?_) | (refine cL_convert ?_; refine L_valE (R_conv rfl) hcv rfl rfl rfl ?_)) | refine r103 ?_))
    have h50 := unify50 (C := C) (hn w3 hU3)
    rw [hCu] at h50
    refine L_callR h50 rfl rfl fun v w4 ⟨r, s4, hv, hq4, hU4, x4⟩ => ?_
    subst hv
    have hx4 : Ext No w w4 := (hN12.trans hn3.ext).trans_new (hCM x4) fun i hi hm' => by omega
    (refine r102 ?_)
    refine L_buildSlice (vs := [.bool r]) rfl rfl rfl rfl rfl rfl fun b33 w5 hn5 => ?_
    refine L_push (v := .slice none 0 0) (xs := []) (u := .bool r) rfl (.inl ⟨rfl, rfl⟩) rfl hn5.here rfl (by simp) (by simp only [maxLen]; simp) rfl rfl fun vo w6 hpu => ?_
    have hx6 : Ext No w5 w6 := hpu.ext.mono fun i _ h => by cases h
    have hU6 := (hU4.ext hn5.ext).ext hx6
    have hx46 : Ext No w w6 := hx4.trans (hn5.ext.trans hx6)
    cases r with
    | true =>
      (refine r102 ?_)
      refine G_inv ⟨⟨rfl, .inr ⟨_, vo, s4, with_self ⟨rfl, rfl, rfl, rfl, rfl, trivial⟩, hpu.own, hU6, hq4, hx46⟩⟩, ?_⟩
      show ((1 : Int) - 1).toNat < ((1 : Int) - 0).toNat
      decide
    | false =>
      (repeat (first | refine G_exit rfl ?_ | refine r103 ?_))
      refine L_callR (hinf hU6) rfl rfl fun v w7 ⟨g, hv, hg, hgl, x7⟩ => ?_
      subst hv
      (refine r102 ?_)
      refine G_ret2 rfl ?_
      exact ⟨_, rfl, vo, g, false, s4, rfl, hpu.own.ext x7 (fun _ _ h => h), hg, htl hU6, hq4, hx46.trans x7⟩
  · (repeat (first | refine G_exit rfl ?_ | refine r103 ?_))
    refine L_callR (hinf hUr) rfl rfl fun v w7 ⟨g, hv, hg, hgl, x7⟩ => ?_
    subst hv
    (refine r102 ?_)
    refine G_ret2 rfl ?_
    exact ⟨_, rfl, vo, g, true, s, rfl, hown.ext x7 (fun _ _ h => h), hg, htl hUr, hQr, hxr.trans x7⟩
end Go.Proofs.YtjilnjifegeceaaGreatDoor

/-
  The thin package's 'back': a type in memory as data; the small kinds.
-/
namespace Go.Proofs.YtjilnjifegeceaaGreatDoor
set_option maxRecDepth 100000
set_option maxHeartbeats 4000000
attribute [local irreducible] Calls execOp

theorem r104 {G G' : Prop} (k : G') (h : Hid G' → G := by intro k_; (repeat (first | (refine cL ?_; first | (refine cL_move ?_; refine L_val R_move rfl rfl rfl ?_) | (refine cL_load ?_; first | refine L_val (R_loadB rfl (by assumption) (by rfl)) rfl rfl rfl ?_ | refine L_val (R_loadH (by assumption) rfl (by assumption) (by rfl)) rfl rfl rfl ?_) | (refine cL_fieldAddr ?_; refine L_val (R_fa rfl) rfl rfl rfl ?_) | (refine cL_nilCheck ?_; refine L_val (R_nil rfl) rfl rfl rfl ?_) | (refine cL_assign ?_; refine L_val R_assign rfl rfl rfl ?_) | (refine cL_call ?_; refine L_val (R_len rfl) rfl rfl rfl ?_) | (refine cL_eql ?_; first | refine L_val (R_eqPN rfl rfl) rfl rfl rfl ?_ | refine L_val (R_eqI rfl rfl) rfl rfl rfl ?_ | refine L_val (R_eqB rfl rfl) rfl rfl rfl ?_ | refine L_val (R_eqIfN rfl rfl) rfl rfl rfl ?_ | refine L_val (R_eqIfNN rfl) rfl rfl rfl ?_) | (refine cL_lss ?_; refine L_val (R_ltI rfl rfl) rfl rfl rfl ?_) | (refine cL_add ?_; refine L_val (R_addI rfl rfl) rfl rfl rfl ?_) | refine L_nil ?_) | refine G_seq ?_ | refine G_region ?_ | refine G_skip ?_ | refine G_block ?_ | refine G_end ?_ | refine G_true rfl ?_ | refine G_false rfl ?_)); exact k_.out) : G := h ⟨k⟩
theorem r105 {G G' : Prop} (k : G') (h : Hid G' → G := by intro k_; (first | (refine cL ?_; first | (refine cL_move ?_; refine L_val R_move rfl rfl rfl ?_) | (refine cL_load ?_; first | refine L_val (R_loadB rfl (by assumption) (by rfl)) rfl rfl rfl ?_ | refine L_val (R_loadH (by assumption) rfl (by assumption) (by rfl)) rfl rfl rfl ?_) | (refine cL_fieldAddr ?_; refine L_val (R_fa rfl) rfl rfl rfl ?_) | (refine cL_nilCheck ?_; refine L_val (R_nil rfl) rfl rfl rfl ?_) | (refine cL_assign ?_; refine L_val R_assign rfl rfl rfl ?_) | (refine cL_call ?_; refine L_val (R_len rfl) rfl rfl rfl ?_) | (refine cL_eql ?_; first | refine L_val (R_eqPN rfl rfl) rfl rfl rfl ?_ | refine L_val (R_eqI rfl rfl) rfl rfl rfl ?_ | refine L_val (R_eqB rfl rfl) rfl rfl rfl ?_ | refine L_val (R_eqIfN rfl rfl) rfl rfl rfl ?_ | refine L_val (R_eqIfNN rfl) rfl rfl rfl ?_) | (refine cL_lss ?_; refine L_val (R_ltI rfl rfl) rfl rfl rfl ?_) | (refine cL_add ?_; refine L_val (R_addI rfl rfl) rfl rfl rfl ?_) | refine L_nil ?_) | refine G_seq ?_ | refine G_region ?_ | refine G_skip ?_ | refine G_block ?_ | refine G_end ?_ | refine G_true rfl ?_ | refine G_false rfl ?_); exact k_.out) : G := h ⟨k⟩
theorem r106 {G G' : Prop} (k : G') (h : Hid G' → G := by intro k_; (repeat (first | (refine cL ?_; first | (refine cL_move ?_; refine L_val R_move rfl rfl rfl ?_) | (refine cL_assign ?_; refine L_val R_assign rfl rfl rfl ?_) | (refine cL_extract ?_; refine L_val (R_extract rfl rfl) rfl rfl rfl ?_) | (refine cL_typeAssert ?_; first | refine L_val (R_taY rfl) rfl rfl rfl ?_ | refine L_val (R_taN rfl rfl) rfl rfl rfl ?_ | refine L_val (R_taNil rfl) rfl rfl rfl ?_) | (refine cL_sub ?_; refine L_val (R_subI rfl rfl) rfl rfl rfl ?_) | refine L_nil ?_) | refine G_seq ?_ | refine G_region ?_ | refine G_skip ?_ | refine G_block ?_ | refine G_end ?_ | refine G_true rfl ?_ | refine G_false rfl ?_)); exact k_.out) : G := h ⟨k⟩
theorem r107 {G G' : Prop} (k : G') (h : Hid G' → G := by intro k_; (first | (refine cL ?_; first | (refine cL_move ?_; refine L_val R_move rfl rfl rfl ?_) | (refine cL_assign ?_; refine L_val R_assign rfl rfl rfl ?_) | (refine cL_extract ?_; refine L_val (R_extract rfl rfl) rfl rfl rfl ?_) | (refine cL_typeAssert ?_; first | refine L_val (R_taY rfl) rfl rfl rfl ?_ | refine L_val (R_taN rfl rfl) rfl rfl rfl ?_ | refine L_val (R_taNil rfl) rfl rfl rfl ?_) | (refine cL_sub ?_; refine L_val (R_subI rfl rfl) rfl rfl rfl ?_) | refine L_nil ?_) | refine G_seq ?_ | refine G_region ?_ | refine G_skip ?_ | refine G_block ?_ | refine G_end ?_ | refine G_true rfl ?_ | refine G_false rfl ?_); exact k_.out) : G := h ⟨k⟩

/-! ### results that lie in a variable -/

theorem resV_cell {P : Program} {fn : Func} {t : Tmp} {ty b n : Nat} {vs : List Value} {T : TypeId} [hp : AggT P ty n] (h : fn.results = #[.cell t ty]) {f : Fm} {w : World} (hf : f t = .pointer (some ⟨b, 0, none⟩)) (hb : w.heap[b]? = some (Ob vs T)) (hn : vs.length = n) : ResV P fn f w (.agg vs.toArray) := by
  intro tmps ht
  have h2 := run_loadCellsFrom (P := P) (w := w) (b := b) (o := 0) vs 0 #[] (fun j v hj => by rw [Nat.zero_add, Nat.zero_add]; exact cell_of_heap hb hj)
  rw [hn] at h2
  have ht' := ht t
  rw [hf] at ht'
  simp only [results, h]
  simp only [Array.getD_eq_getD_getElem?] at ht'
  simp [ht', asAddr, loadVar, run_isAgg_agg hp.h, run_sizeOf_agg hp.h, loadCells, h2]

theorem G_retC {P : Program} {n : Nat} {k : List It} {fn : Func} {R : Ending → World → Prop} {f : Fm} {w : World} {t : Tmp} {ty b m : Nat} {vs : List Value} {T : TypeId} [AggT P ty m] (hr : fn.results = #[.cell t ty]) (hf : f t = .pointer (some ⟨b, 0, none⟩)) (hb : w.heap[b]? = some (Ob vs T)) (hn : vs.length = m) (h : R (.returned (.agg vs.toArray)) w) :
    G P n (.code .ret :: k) (QF P fn R) f [] w :=
  G_ret ⟨rfl, _, resV_cell hr hf hb hn, h⟩

theorem Grow.around {H H' : Hp} {w w1 w2 w3 : World} {b : Nat} {o : Obj} (hn : NewB w w1 b o) (g : Grow H w1 H' w2) (hA : Agree H w) (e : Ext (fun k => k = b) w2 w3) : Grow H w H' w3 where
  le := g.le
  ag := g.ag.ext e fun k p hk hkb => by
    subst hkb
    have h1 := hn.fresh
    have h2 := hn.size
    rcases g.new k p hk with h | h
    · have := hA.lt h; omega
    · omega
  new := fun k p hk => by
    rcases g.new k p hk with h | h
    · exact .inl h
    · have := hn.size; exact .inr (by omega)
  ext := (hn.ext.trans g.ext).trans_new e fun j hj hm => by have := hn.fresh; omega

theorem X_pushN {P : Program} {M : Nat → Prop} {ops : List Oper} {K : DK} {rest : DT} {f : Fm} {wb : World} {ty : TypeId} {pos : String} {aft : Array Edge} {g : Option (Nat × Bool)} {d t e sz by_ : Nat} {x y : Operand} [ha : AppN P t e sz by_] {v : Value} {n : Nat} {xs : List Value} {b c : Nat} {us : List Value} {T : TypeId}
    (hv : ev f x = v) (hown : ∀ w, Ext No wb w → OwnN w e sz v n xs) (hy : ev f y = .slice (some ⟨b, 0, none⟩) 1 c) (hb : ∀ w, Ext No wb w → w.heap[b]? = some (Ob us T)) (hus : us.length = sz) (h0 : 0 < sz) (h1 : us.all (·.oneCell') = true)
    (hbd : (n + 1) * by_ ≤ 140737488355328) (hl : n + 1 ≤ maxLen) (hw : wantd ops f ⟨some d, .call ⟨.builtin .append, #[x, y], #[t, t]⟩, ty, pos, aft, g⟩ = true)
    (h : ∀ w v' w', Ext No wb w → PushedN w w' e sz v v' (n + 1) (xs ++ us) → X P M ops K rest (upd f d v') w') : X P M ops K (.op ⟨some d, .call ⟨.builtin .append, #[x, y], #[t, t]⟩, ty, pos, aft, g⟩ 2 rest) f wb :=
  X_wild hw rfl fun w he => by
    obtain ⟨v', w', h2, h3⟩ := R_pushN (P := P) (dst := some d) (ty := ty) (pos := pos) (aft := aft) (g := g) (t := t) hv (hown w he) hy (hb w he) hus h0 h1 hbd hl
    exact ⟨v', w', h2, h w v' w' he h3⟩

/-! ### rows of types -/

def DRow (H : Hp) : List Ty → List Value → Prop
  | [], cs => cs = []
  | e :: es, cs => ∃ c1 c2, cs = c1 ++ c2 ∧ c1.length = 6 ∧ DTy H e c1 ∧ DRow H es c2

theorem DTy.six {H : Hp} {t : Ty} {cs : List Value} (h : DTy H t cs) : cs.length = 6 := by
  obtain ⟨p, cap, rfl, -⟩ := h.cells
  rfl
theorem DRow.mono {H H' : Hp} (hh : Hp.le H H') : ∀ {es : List Ty} {cs : List Value}, DRow H es cs → DRow H' es cs
  | [], _, h => h
  | _ :: _, _, ⟨c1, c2, h1, h2, h3, h4⟩ => ⟨c1, c2, h1, h2, DTy.mono hh _ _ h3, h4.mono hh⟩
theorem DRow.snoc {H : Hp} {e : Ty} {c : List Value} (he : DTy H e c) : ∀ {es : List Ty} {cs : List Value}, DRow H es cs → DRow H (es ++ [e]) (cs ++ c)
  | [], cs, h => by
    simp only [DRow] at h
    subst h
    exact ⟨c, [], by simp, he.six, he, rfl⟩
  | _ :: _, _, ⟨c1, c2, h1, h2, h3, h4⟩ => ⟨c1, c2 ++ c, by rw [h1]; simp, h2, h3, h4.snoc he⟩
theorem DRow.el {H : Hp} {b T : Nat} : ∀ {es : List Ty} {cs pre r : List Value}, DRow H es cs → H b = some (Ob (pre ++ (cs ++ r)) T) → DEl H es b pre.length
  | [], _, _, _, _, _ => by simp [DEl]
  | e :: es, _, pre, r, ⟨c1, c2, h1, h2, h3, h4⟩, hb => by
    subst h1
    simp only [DEl]
    refine ⟨⟨c1, fun j v hj => ?_, h3⟩, ?_⟩
    · refine ⟨_, _, _, hb, ?_⟩
      rw [lget_eq] at hj
      have hlt := (List.getElem?_eq_some_iff.1 hj).1
      simp only [List.getElem?_toArray, List.append_assoc]
      rw [List.getElem?_append_right (by omega), show pre.length + j - pre.length = j by omega, List.getElem?_append_left hlt]
      exact hj
    · have h5 := DRow.el (T := T) (pre := pre ++ c1) (r := r) h4 (by rw [hb]; simp)
      rw [List.length_append, h2] at h5
      exact h5
theorem DRow.sl {H : Hp} {b T : Nat} {es : List Ty} {cs r : List Value} (h : DRow H es cs) (hb : H b = some (Ob (cs ++ r) T)) : DSl H es (some ⟨b, 0, none⟩) :=
  .inr ⟨b, 0, rfl, DRow.el (pre := []) h hb⟩

theorem DTy.mk {H : Hp} {k n c : Int} {b : Bool} {nm : ByteArray} {es : List Ty} {p : Option Addr} {cap : Nat} (hk : i64ok k) (hn : i64ok n) (hc : i64ok c) (hl : es.length * 72 ≤ 140737488351232 ∧ es.length ≤ cap) (hs : DSl H es p) : DTy H (.mk k n c b nm es) (tyCells k n c b (.slice p es.length cap) nm) := by
  simp only [DTy]
  exact ⟨p, cap, rfl, hk, hn, hc, hl, hs⟩

/-! ### what is asked, what is answered -/

mutual
/-- numbers within their bounds, rows that are not long -/
def okT : Ty → Prop
  | .mk k n _ _ _ es => i64ok n ∧ (k = 0 → n < 17) ∧ es.length ≤ 1000 ∧ okTL es
def okTL : List Ty → Prop
  | [] => True
  | e :: es => okT e ∧ okTL es
end
theorem okTL.mem {e : Ty} : ∀ {es : List Ty}, okTL es → e ∈ es → okT e
  | x :: es, ⟨h1, h2⟩, h => by
    rcases List.mem_cons.1 h with rfl | h
    · exact h1
    · exact okTL.mem h2 h

def BackSays (H : Hp) (w : World) (t : Ty) : Value → World → Prop := fun r w' =>
  ∃ cs H' t', r = .agg cs.toArray ∧ Grow H w H' w' ∧ DTy H' t' cs ∧ ident t' t = true

def BackOK (E : Env) (ds : List (Int × Ty)) (p : Option Addr) (dcap bB : Nat) (t : Ty) : Prop :=
  ∀ (v : Value) (H : Hp) (w : World), Agree H w → EnvOK E H → BuIs E H ds p dcap bB → Rep E H t v → Calls Tryz.prog 36 #[ptr bB, v] w (Ret (BackSays H w t))

instance (n : Int) : Decidable (i64ok n) := by unfold i64ok; infer_instance
theorem i64_small {n : Int} (h0 : 0 ≤ n) (h1 : n < 1000000) : i64ok n := by unfold i64ok; omega

/-! ### functions that read one field -/

section
variable {H : Hp} {a : Nat} {cs : List Value} {v : Value} {T : Nat} (w : World) (hA : Agree H w) (h : H a = some (Ob cs T))
include hA h
theorem get_bKind (hv : lget cs 0 = some v) : Calls Tryz.prog 64 #[ptr a] w (Ret (Is v w)) := by
  (refine calls_enter Tryz.func64 Tryz.ntmps64 rfl rfl ?_)
  (repeat (first | (refine cL ?_; first | (refine cL_load ?_; refine L_val (R_loadH hA rfl h hv) rfl rfl rfl ?_)) | refine r12 ?_))
  (refine G_retF rfl ?_)
  exact ⟨_, rfl, rfl, rfl⟩
theorem get_pElem (hv : lget cs 0 = some v) : Calls Tryz.prog 67 #[ptr a] w (Ret (Is v w)) := by
  (refine calls_enter Tryz.func67 Tryz.ntmps67 rfl rfl ?_)
  (repeat (first | (refine cL ?_; first | (refine cL_load ?_; refine L_val (R_loadH hA rfl h hv) rfl rfl rfl ?_)) | refine r12 ?_))
  (refine G_retF rfl ?_)
  exact ⟨_, rfl, rfl, rfl⟩
theorem get_sElem (hv : lget cs 0 = some v) : Calls Tryz.prog 68 #[ptr a] w (Ret (Is v w)) := by
  (refine calls_enter Tryz.func68 Tryz.ntmps68 rfl rfl ?_)
  (repeat (first | (refine cL ?_; first | (refine cL_load ?_; refine L_val (R_loadH hA rfl h hv) rfl rfl rfl ?_)) | refine r12 ?_))
  (refine G_retF rfl ?_)
  exact ⟨_, rfl, rfl, rfl⟩
theorem get_aLen (hv : lget cs 0 = some v) : Calls Tryz.prog 69 #[ptr a] w (Ret (Is v w)) := by
  (refine calls_enter Tryz.func69 Tryz.ntmps69 rfl rfl ?_)
  (repeat (first | (refine cL ?_; first | (refine cL_load ?_; refine L_val (R_loadH hA rfl h hv) rfl rfl rfl ?_)) | refine r12 ?_))
  (refine G_retF rfl ?_)
  exact ⟨_, rfl, rfl, rfl⟩
theorem get_aElem (hv : lget cs 1 = some v) : Calls Tryz.prog 70 #[ptr a] w (Ret (Is v w)) := by
  (refine calls_enter Tryz.func70 Tryz.ntmps70 rfl rfl ?_)
  (repeat (first | (refine cL ?_; first | (refine cL_load ?_; refine L_val (R_loadH hA rfl h hv) rfl rfl rfl ?_)) | refine r12 ?_))
  (refine G_retF rfl ?_)
  exact ⟨_, rfl, rfl, rfl⟩
theorem get_mKey (hv : lget cs 0 = some v) : Calls Tryz.prog 71 #[ptr a] w (Ret (Is v w)) := by
  (refine calls_enter Tryz.func71 Tryz.ntmps71 rfl rfl ?_)
  (repeat (first | (refine cL ?_; first | (refine cL_load ?_; refine L_val (R_loadH hA rfl h hv) rfl rfl rfl ?_)) | refine r12 ?_))
  (refine G_retF rfl ?_)
  exact ⟨_, rfl, rfl, rfl⟩
theorem get_mElem (hv : lget cs 1 = some v) : Calls Tryz.prog 72 #[ptr a] w (Ret (Is v w)) := by
  (refine calls_enter Tryz.func72 Tryz.ntmps72 rfl rfl ?_)
  (repeat (first | (refine cL ?_; first | (refine cL_load ?_; refine L_val (R_loadH hA rfl h hv) rfl rfl rfl ?_)) | refine r12 ?_))
  (refine G_retF rfl ?_)
  exact ⟨_, rfl, rfl, rfl⟩
theorem get_cDir (hv : lget cs 0 = some v) : Calls Tryz.prog 74 #[ptr a] w (Ret (Is v w)) := by
  (refine calls_enter Tryz.func74 Tryz.ntmps74 rfl rfl ?_)
  (repeat (first | (refine cL ?_; first | (refine cL_load ?_; refine L_val (R_loadH hA rfl h hv) rfl rfl rfl ?_)) | refine r12 ?_))
  (refine G_retF rfl ?_)
  exact ⟨_, rfl, rfl, rfl⟩
theorem get_cElem (hv : lget cs 1 = some v) : Calls Tryz.prog 75 #[ptr a] w (Ret (Is v w)) := by
  (refine calls_enter Tryz.func75 Tryz.ntmps75 rfl rfl ?_)
  (repeat (first | (refine cL ?_; first | (refine cL_load ?_; refine L_val (R_loadH hA rfl h hv) rfl rfl rfl ?_)) | refine r12 ?_))
  (refine G_retF rfl ?_)
  exact ⟨_, rfl, rfl, rfl⟩
theorem get_gParams (hv : lget cs 2 = some v) : Calls Tryz.prog 119 #[ptr a] w (Ret (Is v w)) := by
  (refine calls_enter Tryz.func119 Tryz.ntmps119 rfl rfl ?_)
  (repeat (first | (refine cL ?_; first | (refine cL_load ?_; refine L_val (R_loadH hA rfl h hv) rfl rfl rfl ?_)) | refine r12 ?_))
  (refine G_retF rfl ?_)
  exact ⟨_, rfl, rfl, rfl⟩
theorem get_gResults (hv : lget cs 3 = some v) : Calls Tryz.prog 121 #[ptr a] w (Ret (Is v w)) := by
  (refine calls_enter Tryz.func121 Tryz.ntmps121 rfl rfl ?_)
  (repeat (first | (refine cL ?_; first | (refine cL_load ?_; refine L_val (R_loadH hA rfl h hv) rfl rfl rfl ?_)) | refine r12 ?_))
  (refine G_retF rfl ?_)
  exact ⟨_, rfl, rfl, rfl⟩
theorem get_gVariadic (hv : lget cs 4 = some v) : Calls Tryz.prog 120 #[ptr a] w (Ret (Is v w)) := by
  (refine calls_enter Tryz.func120 Tryz.ntmps120 rfl rfl ?_)
  (repeat (first | (refine cL ?_; first | (refine cL_load ?_; refine L_val (R_loadH hA rfl h hv) rfl rfl rfl ?_)) | refine r12 ?_))
  (refine G_retF rfl ?_)
  exact ⟨_, rfl, rfl, rfl⟩
theorem get_oType (hv : lget cs 3 = some v) : Calls Tryz.prog 117 #[ptr a] w (Ret (Is v w)) := by
  (refine calls_enter Tryz.func117 Tryz.ntmps117 rfl rfl ?_)
  (repeat (first | (refine cL ?_; first | (refine cL_load ?_; refine L_val (R_loadH hA rfl h hv) rfl rfl rfl ?_)) | refine r12 ?_))
  (refine G_retF rfl ?_)
  exact ⟨_, rfl, rfl, rfl⟩
theorem get_oName (hv : lget cs 2 = some v) : Calls Tryz.prog 118 #[ptr a] w (Ret (Is v w)) := by
  (refine calls_enter Tryz.func118 Tryz.ntmps118 rfl rfl ?_)
  (repeat (first | (refine cL ?_; first | (refine cL_load ?_; refine L_val (R_loadH hA rfl h hv) rfl rfl rfl ?_)) | refine r12 ?_))
  (refine G_retF rfl ?_)
  exact ⟨_, rfl, rfl, rfl⟩
end

theorem number_any {n : Int} (w : World) (h0 : 0 ≤ n) (h3 : n < 3) : Calls Tryz.prog 73 #[.int .i64 n] w (Ret (Is (.int .i64 n) w)) := by
  obtain rfl | rfl | rfl : n = 0 ∨ n = 1 ∨ n = 2 := by omega
  all_goals
    (refine calls_enter Tryz.func73 Tryz.ntmps73 rfl rfl ?_)
    (refine r14 ?_)
    (refine G_retF rfl ?_)
    exact ⟨_, rfl, rfl, rfl⟩

theorem param_any {E : Env} {H : Hp} {ds : List (Int × Ty)} {p : Option Addr} {dcap bB i a : Nat} (w : World) (hA : Agree H w) (hE : EnvOK E H) (hB : BuIs E H ds p dcap bB) (h8 : E.params.length ≤ 1000) (hi : E.params[i]? = some a) :
    Calls Tryz.prog 65 #[ptr bB, ptr a] w (Ret (Is (.int .i64 (i : Int)) w)) := by
  obtain ⟨pk, vd, cd, vp, cp, hb1, hb2, hb3⟩ := hB.blk
  have hil := (List.getElem?_eq_some_iff.1 hi).1
  (refine calls_enter Tryz.func65 Tryz.ntmps65 rfl rfl ?_)
  (refine r104 ?_)
  refine G_loop (fun f ds0 w0 => ds0 = [] ∧ w0 = w ∧ ∃ (f0 : Fm) (j : Nat), f = with_ [(12, .int .i64 (j : Int)), (11, .int .i64 (E.params.length : Int)), (1, ptr a), (10, .slice vp E.params.length cp)] f0 ∧ j ≤ i) (fun f _ _ => countM 12 11 f)
    ⟨rfl, rfl, _, 0, with_self ⟨rfl, rfl, rfl, rfl, trivial⟩, Nat.zero_le _⟩ ?_
  rintro f ds0 w0 ⟨rfl, rfl, f0, j, rfl, hj⟩
  have hb : decide ((j : Int) < (E.params.length : Int)) = true := decide_eq_true (by omega)
  obtain ⟨c, hc⟩ : ∃ c, E.params[j]? = some c := ⟨_, List.getElem?_eq_getElem (by omega)⟩
  obtain ⟨g, cs, T, rfl, hg1, hg2⟩ := hb3 j c hc
  have hlc := hA.live (i := 0) (hE.pl c (List.mem_of_getElem? hc))
  have hla := hA.live (i := 0) (hE.pl a (List.mem_of_getElem? hi))
  by_cases hji : j = i
  · subst hji
    rw [hi] at hc
    injection hc with hc
    subst hc
    (repeat (first | (refine cL ?_; first | (refine cL_load ?_; refine L_val (R_loadH hA rfl hg1 hg2) rfl rfl rfl ?_) | (refine cL_eql ?_; refine L_valB (R_eqP rfl rfl hla hlc) (peq_self _) rfl rfl rfl ?_) | (refine cL_lss ?_; refine L_valB (R_ltI rfl rfl) hb rfl rfl rfl ?_) | (refine cL_indexAddr ?_; refine L_valE (R_ia rfl rfl (by omega) (by omega)) (ia0 _ _) rfl rfl rfl ?_)) | refine r105 ?_))
    (refine G_retF rfl ?_)
    exact ⟨_, rfl, rfl, rfl⟩
  · have hne : c ≠ a := fun h => hji (nodup_inj hE.pn hc (h ▸ hi))
    (repeat (first | (refine cL ?_; first | (refine cL_load ?_; refine L_val (R_loadH hA rfl hg1 hg2) rfl rfl rfl ?_) | (refine cL_eql ?_; refine L_valB (R_eqP rfl rfl hlc hla) (peq_false hne) rfl rfl rfl ?_) | (refine cL_lss ?_; refine L_valB (R_ltI rfl rfl) hb rfl rfl rfl ?_) | (refine cL_indexAddr ?_; refine L_valE (R_ia rfl rfl (by omega) (by omega)) (ia0 _ _) rfl rfl rfl ?_) | (refine cL_add ?_; refine L_valE (R_addI rfl rfl) (succ_i64 (len := E.params.length) (by omega) (by omega)) rfl rfl rfl ?_)) | refine r105 ?_))
    refine G_inv ⟨⟨rfl, rfl, _, j + 1, with_self ⟨rfl, rfl, rfl, rfl, trivial⟩, by omega⟩, ?_⟩
    show ((E.params.length : Int) - ((j + 1 : Nat) : Int)).toNat < ((E.params.length : Int) - (j : Int)).toNat
    omega

section
variable {E : Env} {ds : List (Int × Ty)} {p : Option Addr} {dcap bB : Nat} {H : Hp} {a : Nat} {nm : ByteArray} {c : Int} {b : Bool} (w : World) (hA : Agree H w)
include hA

theorem back_basic {n : Int} {info s : Value} (h : H a = some (Ob [.int .i64 (n + 1), info, s] 173)) (h0 : 0 ≤ n) (h1 : n < 17) : Calls Tryz.prog 36 #[ptr bB, .iface 156 (ptr a)] w (Ret (BackSays H w (.mk 0 n c b nm []))) := by
  have hsub : Value.int .i64 (IntKind.i64.wrap (n + 1 - 1)) = .int .i64 n := by rw [wrap_i64 (by omega) (by omega)]; congr 1; omega
  (refine calls_enter Tryz.func36 Tryz.ntmps36 rfl rfl ?_)
  (refine r106 ?_)
  refine L_allocS rfl rfl fun b4 w1 hn1 => ?_
  have hA1 := hA.ext0 hn1.ext
  (repeat (first | (refine cL ?_; first | (refine cL_call ?_; refine L_callI (get_bKind _ hA1 h rfl) rfl rfl ?_) | (refine cL_sub ?_; refine L_valE (R_subI rfl rfl) hsub rfl rfl rfl ?_) | (refine cL_build ?_; refine L_val (R_build (cs := tyCells 0 n 0 false (.slice none 0 0) ⟨#[]⟩) rfl) rfl rfl rfl ?_)) | refine r107 ?_))
  refine L_storeA (vs := tyCells 0 n 0 false (.slice none 0 0) ⟨#[]⟩) rfl hn1.here rfl rfl rfl rfl rfl rfl fun w2 h2 e2 s2 => ?_
  (refine r106 ?_)
  refine G_retC rfl rfl h2 rfl ?_
  exact ⟨_, rfl, _, H, .mk 0 n 0 false ⟨#[]⟩ [], rfl, Grow.around hn1 (Grow.refl hA1) hA e2, DTy.mk (by decide) (i64_small h0 (by omega)) (by decide) (by decide) (.inl rfl), by simp [ident, identL, alikeP]⟩

theorem back_param {n : Int} (hE : EnvOK E H) (hB : BuIs E H ds p dcap bB) (h8 : E.params.length ≤ 1000) (hn : E.params[n.toNat]? = some a) (h0 : 0 ≤ n) : Calls Tryz.prog 36 #[ptr bB, .iface 72 (ptr a)] w (Ret (BackSays H w (.mk 2 n c b nm []))) := by
  have hil := (List.getElem?_eq_some_iff.1 hn).1
  obtain ⟨i, rfl⟩ := Int.eq_ofNat_of_zero_le h0
  (refine calls_enter Tryz.func36 Tryz.ntmps36 rfl rfl ?_)
  (refine r106 ?_)
  refine L_allocS rfl rfl fun b4 w1 hn1 => ?_
  have hA1 := hA.ext0 hn1.ext
  (repeat (first | (refine cL ?_; first | (refine cL_call ?_; refine L_callI (param_any _ hA1 hE hB h8 hn) rfl rfl ?_) | (refine cL_build ?_; refine L_val (R_build (cs := tyCells 2 (i : Int) 0 false (.slice none 0 0) ⟨#[]⟩) rfl) rfl rfl rfl ?_)) | refine r107 ?_))
  refine L_storeA (vs := tyCells 2 (i : Int) 0 false (.slice none 0 0) ⟨#[]⟩) rfl hn1.here rfl rfl rfl rfl rfl rfl fun w2 h2 e2 s2 => ?_
  (refine r106 ?_)
  refine G_retC rfl rfl h2 rfl ?_
  exact ⟨_, rfl, _, H, .mk 2 (i : Int) 0 false ⟨#[]⟩ [], rfl, Grow.around hn1 (Grow.refl hA1) hA e2, DTy.mk (by decide) (i64_small h0 (by simp at hil; omega)) (by decide) (by decide) (.inl rfl), by simp [ident, identL, alikeP]⟩

theorem back_pointer {n : Int} (hE : EnvOK E H) (hB : BuIs E H ds p dcap bB) {e : Ty} {v : Value} (ih : BackOK E ds p dcap bB e) (hr : Rep E H e v) (h : H a = some (Ob [v] 191)) : Calls Tryz.prog 36 #[ptr bB, .iface 95 (ptr a)] w (Ret (BackSays H w (.mk 4 n c b nm [e]))) := by
  (refine calls_enter Tryz.func36 Tryz.ntmps36 rfl rfl ?_)
  (refine r106 ?_)
  refine L_allocS rfl rfl fun b4 w1 hn1 => ?_
  have hA1 := hA.ext0 hn1.ext
  (repeat (first | (refine cL ?_; first | (refine cL_call ?_; refine L_callI (get_pElem _ hA1 h rfl) rfl rfl ?_)) | refine r107 ?_))
  refine L_callR (ih v H w1 hA1 hE hB hr) rfl rfl fun r w2 ⟨cs, H2, t', hv, g2, hd, hid⟩ => ?_
  subst hv
  obtain ⟨q, cq, hcs, -⟩ := hd.cells
  have hd6 := hd
  rw [hcs] at hd6
  subst hcs
  refine L_buildSlice (vs := [.agg (tyCells t'.k t'.n t'.c t'.b (.slice q t'.es.length cq) t'.nm).toArray]) rfl rfl rfl rfl rfl rfl fun b5 w5 hn5 => ?_
  obtain ⟨H5, g5, hb5⟩ := Grow.ofNew g2.ag hn5
  have hd5 : DRow H5 [t'] (tyCells t'.k t'.n t'.c t'.b (.slice q t'.es.length cq) t'.nm) := ⟨_, [], by simp, rfl, DTy.mono g5.le _ _ hd6, rfl⟩
  have hb5' : H5 b5 = some (Ob (tyCells t'.k t'.n t'.c t'.b (.slice q t'.es.length cq) t'.nm ++ []) 26) := by rw [hb5]; rfl
  (repeat (first | (refine cL ?_; first | (refine cL_build ?_; refine L_val (R_build (cs := tyCells 4 0 0 false (.slice (some ⟨b5, 0, none⟩) 1 1) ⟨#[]⟩) rfl) rfl rfl rfl ?_)) | refine r107 ?_))
  refine L_storeA (vs := tyCells 4 0 0 false (.slice (some ⟨b5, 0, none⟩) 1 1) ⟨#[]⟩) rfl (hn5.ext.heap (fun x => x) (g2.ext.heap (fun x => x) hn1.here)) rfl rfl rfl rfl rfl rfl fun w6 h6 e6 s6 => ?_
  (refine r106 ?_)
  refine G_retC rfl rfl h6 rfl ?_
  exact ⟨_, rfl, _, H5, .mk 4 0 0 false ⟨#[]⟩ [t'], rfl, Grow.around hn1 (g2.trans g5) hA e6, DTy.mk (es := [t']) (by decide) (by decide) (by decide) (by simp) (hd5.sl hb5'), by simp [ident, identL, alikeP, hid]⟩

theorem back_slice {n : Int} (hE : EnvOK E H) (hB : BuIs E H ds p dcap bB) {e : Ty} {v : Value} (ih : BackOK E ds p dcap bB e) (hr : Rep E H e v) (h : H a = some (Ob [v] 179)) : Calls Tryz.prog 36 #[ptr bB, .iface 97 (ptr a)] w (Ret (BackSays H w (.mk 5 n c b nm [e]))) := by
  (refine calls_enter Tryz.func36 Tryz.ntmps36 rfl rfl ?_)
  (refine r106 ?_)
  refine L_allocS rfl rfl fun b4 w1 hn1 => ?_
  have hA1 := hA.ext0 hn1.ext
  (repeat (first | (refine cL ?_; first | (refine cL_call ?_; refine L_callI (get_sElem _ hA1 h rfl) rfl rfl ?_)) | refine r107 ?_))
  refine L_callR (ih v H w1 hA1 hE hB hr) rfl rfl fun r w2 ⟨cs, H2, t', hv, g2, hd, hid⟩ => ?_
  subst hv
  obtain ⟨q, cq, hcs, -⟩ := hd.cells
  have hd6 := hd
  rw [hcs] at hd6
  subst hcs
  refine L_buildSlice (vs := [.agg (tyCells t'.k t'.n t'.c t'.b (.slice q t'.es.length cq) t'.nm).toArray]) rfl rfl rfl rfl rfl rfl fun b5 w5 hn5 => ?_
  obtain ⟨H5, g5, hb5⟩ := Grow.ofNew g2.ag hn5
  have hd5 : DRow H5 [t'] (tyCells t'.k t'.n t'.c t'.b (.slice q t'.es.length cq) t'.nm) := ⟨_, [], by simp, rfl, DTy.mono g5.le _ _ hd6, rfl⟩
  have hb5' : H5 b5 = some (Ob (tyCells t'.k t'.n t'.c t'.b (.slice q t'.es.length cq) t'.nm ++ []) 26) := by rw [hb5]; rfl
  (repeat (first | (refine cL ?_; first | (refine cL_build ?_; refine L_val (R_build (cs := tyCells 5 0 0 false (.slice (some ⟨b5, 0, none⟩) 1 1) ⟨#[]⟩) rfl) rfl rfl rfl ?_)) | refine r107 ?_))
  refine L_storeA (vs := tyCells 5 0 0 false (.slice (some ⟨b5, 0, none⟩) 1 1) ⟨#[]⟩) rfl (hn5.ext.heap (fun x => x) (g2.ext.heap (fun x => x) hn1.here)) rfl rfl rfl rfl rfl rfl fun w6 h6 e6 s6 => ?_
  (refine r106 ?_)
  refine G_retC rfl rfl h6 rfl ?_
  exact ⟨_, rfl, _, H5, .mk 5 0 0 false ⟨#[]⟩ [t'], rfl, Grow.around hn1 (g2.trans g5) hA e6, DTy.mk (es := [t']) (by decide) (by decide) (by decide) (by simp) (hd5.sl hb5'), by simp [ident, identL, alikeP, hid]⟩

theorem back_array {n : Int} (hn : i64ok n) (hE : EnvOK E H) (hB : BuIs E H ds p dcap bB) {e : Ty} {v : Value} (ih : BackOK E ds p dcap bB e) (hr : Rep E H e v) (h : H a = some (Ob [.int .i64 n, v] 176)) : Calls Tryz.prog 36 #[ptr bB, .iface 99 (ptr a)] w (Ret (BackSays H w (.mk 6 n c b nm [e]))) := by
  (refine calls_enter Tryz.func36 Tryz.ntmps36 rfl rfl ?_)
  (refine r106 ?_)
  refine L_allocS rfl rfl fun b4 w1 hn1 => ?_
  have hA1 := hA.ext0 hn1.ext
  (repeat (first | (refine cL ?_; first | (refine cL_call ?_; first | refine L_callI (get_aLen _ hA1 h rfl) rfl rfl ?_ | refine L_callI (get_aElem _ hA1 h rfl) rfl rfl ?_)) | refine r107 ?_))
  refine L_callR (ih v H w1 hA1 hE hB hr) rfl rfl fun r w2 ⟨cs, H2, t', hv, g2, hd, hid⟩ => ?_
  subst hv
  obtain ⟨q, cq, hcs, -⟩ := hd.cells
  have hd6 := hd
  rw [hcs] at hd6
  subst hcs
  refine L_buildSlice (vs := [.agg (tyCells t'.k t'.n t'.c t'.b (.slice q t'.es.length cq) t'.nm).toArray]) rfl rfl rfl rfl rfl rfl fun b5 w5 hn5 => ?_
  obtain ⟨H5, g5, hb5⟩ := Grow.ofNew g2.ag hn5
  have hd5 : DRow H5 [t'] (tyCells t'.k t'.n t'.c t'.b (.slice q t'.es.length cq) t'.nm) := ⟨_, [], by simp, rfl, DTy.mono g5.le _ _ hd6, rfl⟩
  have hb5' : H5 b5 = some (Ob (tyCells t'.k t'.n t'.c t'.b (.slice q t'.es.length cq) t'.nm ++ []) 26) := by rw [hb5]; rfl
  (repeat (first | (refine cL ?_; first | (refine cL_build ?_; refine L_val (R_build (cs := tyCells 6 n 0 false (.slice (some ⟨b5, 0, none⟩) 1 1) ⟨#[]⟩) rfl) rfl rfl rfl ?_)) | refine r107 ?_))
  refine L_storeA (vs := tyCells 6 n 0 false (.slice (some ⟨b5, 0, none⟩) 1 1) ⟨#[]⟩) rfl (hn5.ext.heap (fun x => x) (g2.ext.heap (fun x => x) hn1.here)) rfl rfl rfl rfl rfl rfl fun w6 h6 e6 s6 => ?_
  (refine r106 ?_)
  refine G_retC rfl rfl h6 rfl ?_
  exact ⟨_, rfl, _, H5, .mk 6 n 0 false ⟨#[]⟩ [t'], rfl, Grow.around hn1 (g2.trans g5) hA e6, DTy.mk (es := [t']) (by decide) hn (by decide) (by simp) (hd5.sl hb5'), by simp [ident, identL, alikeP, hid]⟩

theorem back_chan {n : Int} (h0 : 0 ≤ n) (h3 : n < 3) (hE : EnvOK E H) (hB : BuIs E H ds p dcap bB) {e : Ty} {v : Value} (ih : BackOK E ds p dcap bB e) (hr : Rep E H e v) (h : H a = some (Ob [.int .i64 n, v] 215)) : Calls Tryz.prog 36 #[ptr bB, .iface 103 (ptr a)] w (Ret (BackSays H w (.mk 8 n c b nm [e]))) := by
  (refine calls_enter Tryz.func36 Tryz.ntmps36 rfl rfl ?_)
  (refine r106 ?_)
  refine L_allocS rfl rfl fun b4 w1 hn1 => ?_
  have hA1 := hA.ext0 hn1.ext
  (repeat (first | (refine cL ?_; first | (refine cL_call ?_; first | refine L_callI (get_cDir _ hA1 h rfl) rfl rfl ?_ | refine L_callI (number_any _ h0 h3) rfl rfl ?_ | refine L_callI (get_cElem _ hA1 h rfl) rfl rfl ?_)) | refine r107 ?_))
  refine L_callR (ih v H w1 hA1 hE hB hr) rfl rfl fun r w2 ⟨cs, H2, t', hv, g2, hd, hid⟩ => ?_
  subst hv
  obtain ⟨q, cq, hcs, -⟩ := hd.cells
  have hd6 := hd
  rw [hcs] at hd6
  subst hcs
  refine L_buildSlice (vs := [.agg (tyCells t'.k t'.n t'.c t'.b (.slice q t'.es.length cq) t'.nm).toArray]) rfl rfl rfl rfl rfl rfl fun b5 w5 hn5 => ?_
  obtain ⟨H5, g5, hb5⟩ := Grow.ofNew g2.ag hn5
  have hd5 : DRow H5 [t'] (tyCells t'.k t'.n t'.c t'.b (.slice q t'.es.length cq) t'.nm) := ⟨_, [], by simp, rfl, DTy.mono g5.le _ _ hd6, rfl⟩
  have hb5' : H5 b5 = some (Ob (tyCells t'.k t'.n t'.c t'.b (.slice q t'.es.length cq) t'.nm ++ []) 26) := by rw [hb5]; rfl
  (repeat (first | (refine cL ?_; first | (refine cL_build ?_; refine L_val (R_build (cs := tyCells 8 n 0 false (.slice (some ⟨b5, 0, none⟩) 1 1) ⟨#[]⟩) rfl) rfl rfl rfl ?_)) | refine r107 ?_))
  refine L_storeA (vs := tyCells 8 n 0 false (.slice (some ⟨b5, 0, none⟩) 1 1) ⟨#[]⟩) rfl (hn5.ext.heap (fun x => x) (g2.ext.heap (fun x => x) hn1.here)) rfl rfl rfl rfl rfl rfl fun w6 h6 e6 s6 => ?_
  (refine r106 ?_)
  refine G_retC rfl rfl h6 rfl ?_
  exact ⟨_, rfl, _, H5, .mk 8 n 0 false ⟨#[]⟩ [t'], rfl, Grow.around hn1 (g2.trans g5) hA e6, DTy.mk (es := [t']) (by decide) (i64_small h0 (by omega)) (by decide) (by simp) (hd5.sl hb5'), by simp [ident, identL, alikeP, hid]⟩

theorem back_map {n : Int} (hE : EnvOK E H) (hB : BuIs E H ds p dcap bB) {e e2 : Ty} {v v2 : Value} (ih : BackOK E ds p dcap bB e) (ih2 : BackOK E ds p dcap bB e2) (hr : Rep E H e v) (hr2 : Rep E H e2 v2) (h : H a = some (Ob [v, v2] 212)) : Calls Tryz.prog 36 #[ptr bB, .iface 101 (ptr a)] w (Ret (BackSays H w (.mk 7 n c b nm [e, e2]))) := by
  (refine calls_enter Tryz.func36 Tryz.ntmps36 rfl rfl ?_)
  (refine r106 ?_)
  refine L_allocS rfl rfl fun b4 w1 hn1 => ?_
  have hA1 := hA.ext0 hn1.ext
  (repeat (first | (refine cL ?_; first | (refine cL_call ?_; refine L_callI (get_mKey _ hA1 h rfl) rfl rfl ?_)) | refine r107 ?_))
  refine L_callR (ih v H w1 hA1 hE hB hr) rfl rfl fun r w2 ⟨cs, H2, t', hv, g2, hd, hid⟩ => ?_
  subst hv
  have hA2 := g2.ag
  have h' := g2.le _ _ h
  (repeat (first | (refine cL ?_; first | (refine cL_call ?_; refine L_callI (get_mElem _ hA2 h' rfl) rfl rfl ?_)) | refine r107 ?_))
  refine L_callR (ih2 v2 H2 w2 hA2 (hE.mono g2.le) (hB.mono g2.le) (Rep.mono g2.le _ _ hr2)) rfl rfl fun r w3 ⟨cs3, H3, t3, hv, g3, hd3, hid3⟩ => ?_
  subst hv
  obtain ⟨q, cq, hcs, -⟩ := hd.cells
  obtain ⟨q3, cq3, hcs3, -⟩ := hd3.cells
  have hd6 := DTy.mono g3.le _ _ hd
  have hd7 := hd3
  subst hcs
  subst hcs3
  refine L_buildSlice (vs := [.agg (tyCells t'.k t'.n t'.c t'.b (.slice q t'.es.length cq) t'.nm).toArray, .agg (tyCells t3.k t3.n t3.c t3.b (.slice q3 t3.es.length cq3) t3.nm).toArray]) rfl rfl rfl rfl rfl rfl fun b5 w5 hn5 => ?_
  obtain ⟨H5, g5, hb5⟩ := Grow.ofNew g3.ag hn5
  have hd5 : DRow H5 [t', t3] (tyCells t'.k t'.n t'.c t'.b (.slice q t'.es.length cq) t'.nm ++ tyCells t3.k t3.n t3.c t3.b (.slice q3 t3.es.length cq3) t3.nm) := ⟨_, _, rfl, rfl, DTy.mono g5.le _ _ hd6, _, [], by simp, rfl, DTy.mono g5.le _ _ hd7, rfl⟩
  have hb5' : H5 b5 = some (Ob ((tyCells t'.k t'.n t'.c t'.b (.slice q t'.es.length cq) t'.nm ++ tyCells t3.k t3.n t3.c t3.b (.slice q3 t3.es.length cq3) t3.nm) ++ []) 26) := by rw [hb5]; rfl
  (repeat (first | (refine cL ?_; first | (refine cL_build ?_; refine L_val (R_build (cs := tyCells 7 0 0 false (.slice (some ⟨b5, 0, none⟩) 2 2) ⟨#[]⟩) rfl) rfl rfl rfl ?_)) | refine r107 ?_))
  refine L_storeA (vs := tyCells 7 0 0 false (.slice (some ⟨b5, 0, none⟩) 2 2) ⟨#[]⟩) rfl (hn5.ext.heap (fun x => x) (g3.ext.heap (fun x => x) (g2.ext.heap (fun x => x) hn1.here))) rfl rfl rfl rfl rfl rfl fun w6 h6 e6 s6 => ?_
  (refine r106 ?_)
  refine G_retC rfl rfl h6 rfl ?_
  exact ⟨_, rfl, _, H5, .mk 7 0 0 false ⟨#[]⟩ [t', t3], rfl, Grow.around hn1 ((g2.trans g3).trans g5) hA e6, DTy.mk (es := [t', t3]) (by decide) (by decide) (by decide) (by simp) (hd5.sl hb5'), by simp [ident, identL, alikeP, hid, hid3]⟩
end
end Go.Proofs.YtjilnjifegeceaaGreatDoor

/-
  Small things about the thin package's 'unify' and the laws that call it.
-/
namespace Go.Proofs.YtjilnjifegeceaaGreatDoor
set_option maxRecDepth 100000
set_option maxHeartbeats 4000000
attribute [local irreducible] Calls execOp

theorem r108 {G G' : Prop} (k : G') (h : Hid G' → G := by intro k_; (first | (refine cL ?_; first | (refine cL_move ?_; refine L_val R_move rfl rfl rfl ?_) | (refine cL_assign ?_; refine L_val R_assign rfl rfl rfl ?_) | (refine cL_add ?_; refine L_val (R_addI rfl rfl) rfl rfl rfl ?_) | refine L_nil ?_) | refine G_seq ?_ | refine G_region ?_ | refine G_skip ?_ | refine G_block ?_ | refine G_end ?_ | refine G_true rfl ?_ | refine G_false rfl ?_); exact k_.out) : G := h ⟨k⟩

/-- the unifier's mode -/
def uMode (m : Int) : Int := if m = 0 then 2 else if m = 1 then 1 else 0

theorem modeOf_any {m : Int} (w : World) (hm : m = 0 ∨ m = 1 ∨ m = 2) : Calls Tryz.prog 35 #[.int .i64 m] w (Ret (Is (.int .i64 (uMode m)) w)) := by
  rcases hm with rfl | rfl | rfl
  all_goals
    (refine calls_enter Tryz.func35 Tryz.ntmps35 rfl rfl ?_)
    (refine r14 ?_)
    (refine G_retF rfl ?_)
    exact ⟨_, rfl, rfl, rfl⟩

instance zero_pairI : ZeroT Tryz.prog 56 (.agg #[.int .i64 0, .int .i64 0, .int .i64 0, .bool false, .slice none 0 0, .string ⟨#[]⟩, .int .i64 0, .int .i64 0, .int .i64 0, .bool false, .slice none 0 0, .string ⟨#[]⟩]) := ⟨by kernel_rfl⟩
instance app_pairs : AppN Tryz.prog 82 83 2 32 := ⟨by kernel_rfl, by kernel_rfl⟩
instance app_inferred : AppN Tryz.prog 31 35 7 80 := ⟨by kernel_rfl, by kernel_rfl⟩

def zInf : List Value := [.bool false, .int .i64 0, .int .i64 0, .int .i64 0, .bool false, .slice none 0 0, .string ⟨#[]⟩]
def zInfs : Nat → List Value
  | 0 => []
  | n + 1 => zInfs n ++ zInf


theorem R_remI {P : Program} {f : Fm} {w : World} {dst : Option Nat} {ty : TypeId} {pos : String} {aft : Array Edge} {g : Option (Nat × Bool)} {xt yt : TypeId} {x y : Operand} {k : IntKind} {a b : Int} (hx : ev f x = .int k a) (hy : ev f y = .int k b) (h0 : b ≠ 0) :
    (execOp (ev f) ⟨dst, .binOp .rem xt x y yt, ty, pos, aft, g⟩).run P w = .ok (.value (.int k (a.tmod b))) w :=
  R_bin rfl (by rw [hx, hy]; simp [binOp, Op.intDiv, h0])

theorem place_any (n : Int) (w : World) : Calls Tryz.prog 13 #[.int .i64 n, .int .i64 3] w (Ret fun v w' => ∃ m, v = .int .i64 m ∧ (m = 0 ∨ m = 1 ∨ m = 2) ∧ w' = w) := by
  have h1 : -3 < n.tmod 3 := Int.lt_tmod_of_pos n (by omega)
  have h2 : n.tmod 3 < 3 := Int.tmod_lt_of_pos n (by omega)
  have hw : Value.int .i64 (IntKind.i64.wrap (n.tmod 3 + 3)) = .int .i64 (n.tmod 3 + 3) := by rw [wrap_i64 (by omega) (by omega)]
  have h3 : 0 ≤ (n.tmod 3 + 3).tmod 3 := Int.tmod_nonneg 3 (by omega)
  have h4 : (n.tmod 3 + 3).tmod 3 < 3 := Int.tmod_lt_of_pos _ (by omega)
  (refine calls_enter Tryz.func13 Tryz.ntmps13 rfl rfl ?_)
  (repeat (first | (refine cL ?_; first | (refine cL_add ?_; refine L_valE (R_addI rfl rfl) hw rfl rfl rfl ?_) | (refine cL_rem ?_; refine L_val (R_remI rfl rfl (by decide)) rfl rfl rfl ?_)) | refine r108 ?_))
  (refine G_retF rfl ?_)
  exact ⟨_, rfl, _, rfl, by omega, rfl⟩

theorem dsl_one {H : Hp} {x : Ty} {cx : List Value} {b : Nat} {T : Nat} (hx : DTy H x cx) (hb : H b = some (Ob cx T)) : DSl H [x] (some ⟨b, 0, none⟩) := by
  refine .inr ⟨b, 0, rfl, ⟨_, ?_, hx⟩, trivial⟩
  intro j v hj
  refine ⟨_, _, _, hb, ?_⟩
  rw [lget_eq] at hj
  simpa using hj

end Go.Proofs.YtjilnjifegeceaaGreatDoor

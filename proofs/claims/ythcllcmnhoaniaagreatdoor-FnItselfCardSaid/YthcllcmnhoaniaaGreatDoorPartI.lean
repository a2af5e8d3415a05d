/-
  A part of the proof that laws.FnItself returns true at every input: the walk's own rules and the contracts of functions, in build order.
  Its conditions are those of the statement: see the last text.
-/
import Derived.Test.YthcllcmnhoaniaaGreatDoorPartH

/-
  The unifier's 'nify' on one type twice.
-/
namespace Go.Proofs.YthcllcmnhoaniaaGreatDoor
set_option maxRecDepth 100000
set_option maxHeartbeats 4000000

variable {σ : Type}

theorem beqB_self (a : ByteArray) : beqB a a = true := by simp [beqB]

theorem nify_same {E : Env} : ∀ (t : Ty) (C : UC σ) (s : σ) (d : Nat) (m m' : Int) (v v' : Value), EnvOK E C.H → Props C.H → Md m m' → Rep E C.H t v → Rep E C.H t v' → d + 2 * Ty.size t ≤ 50 →
    Nf C m v v' d s fun r s' => r = true ∧ s' = s := by
  refine Ty.ind fun k n c b nm es ih => ?_
  intro C s d m m' v v' hE hp hm h h' hd
  simp only [Rep] at h h'
  obtain ⟨vs, hL, hS⟩ := h
  obtain ⟨vs', hL', hS'⟩ := h'
  have hl := hL.length
  have hl' := hL'.length
  have hsz : Ty.sizeL es + 1 ≤ 25 := by simp only [Ty.size] at hd; omega
  have hle := Ty.len_sizeL es
  have hmm : Md m' m' := by
    rcases hm with ⟨rfl, rfl⟩ | ⟨rfl, rfl⟩ | ⟨rfl, rfl⟩ | ⟨rfl, rfl⟩ <;> simp [Md]
  refine nf_alike hm hE hp hS hS' ⟨by omega, fun _ => rfl, fun _ => ⟨rfl, rfl⟩, fun _ i a a' h1 h2 => ?_⟩ (by simp only [Ty.size] at hd; omega) (by omega) (fun _ => ⟨rfl, rfl⟩) (pre := fun _ s' => s' = s) rfl (fun s' h => ⟨rfl, h⟩) (fun _ _ _ _ _ h => h) ?_
  · rw [h1] at h2
    injection h2 with h2
    subst h2
    exact beqB_self a
  · rintro i x x' s' dd mm h1 h2 rfl hdd hmd
    obtain ⟨e, g1, g2⟩ := hL.get h1
    obtain ⟨e', g1', g2'⟩ := hL'.get h2
    rw [g1] at g1'
    injection g1' with g1'
    subst g1'
    have hmem := List.mem_of_getElem? g1
    have hsz2 := Ty.size_mem hmem
    have hdd' : dd + 2 * Ty.size e ≤ 50 := by simp only [Ty.size] at hd; omega
    obtain ⟨mq, hmq⟩ : ∃ mq, Md mm mq := by
      rcases hmd with rfl | rfl
      · exact ⟨_, hm⟩
      · exact ⟨_, hmm⟩
    exact ⟨(ih e hmem C s' dd mm mq x x' hE hp hmq g2 g2' hdd').mono (by rintro r s1 ⟨rfl, rfl⟩; rfl), (ih e hmem C s' dd mm mq x' x hE hp hmq g2' g2 hdd').mono (by rintro r s1 ⟨rfl, rfl⟩; rfl)⟩
end Go.Proofs.YthcllcmnhoaniaaGreatDoor

/-
  A new unifier; rows of zero elements.
-/
namespace Go.Proofs.YthcllcmnhoaniaaGreatDoor
set_option maxRecDepth 100000
set_option maxHeartbeats 4000000
attribute [local irreducible] Calls execOp

theorem r100 {G G' : Prop} (k : G') (h : Hid G' → G := by intro k_; (first | (refine cL ?_; first | (refine cL_move ?_; refine L_val R_move rfl rfl rfl ?_) | (refine cL_load ?_; first | refine L_val (R_loadB rfl (by assumption) (by rfl)) rfl rfl rfl ?_ | refine L_val (R_loadH (by assumption) rfl (by assumption) (by rfl)) rfl rfl rfl ?_) | (refine cL_assign ?_; refine L_val R_assign rfl rfl rfl ?_) | (refine cL_call ?_; refine L_val (R_len rfl) rfl rfl rfl ?_) | (refine cL_lss ?_; refine L_val (R_ltI rfl rfl) rfl rfl rfl ?_) | (refine cL_add ?_; refine L_val (R_addI rfl rfl) rfl rfl rfl ?_) | (refine cL_geq ?_; refine L_val (R_geI rfl rfl) rfl rfl rfl ?_) | refine L_nil ?_) | refine G_seq ?_ | refine G_region ?_ | refine G_skip ?_ | refine G_block ?_ | refine G_end ?_ | refine G_true rfl ?_ | refine G_false rfl ?_); exact k_.out) : G := h ⟨k⟩
theorem r101 {G G' : Prop} (k : G') (h : Hid G' → G := by intro k_; (repeat (first | (refine cL ?_; first | (refine cL_move ?_; refine L_val R_move rfl rfl rfl ?_) | (refine cL_load ?_; first | refine L_val (R_loadB rfl (by assumption) (by rfl)) rfl rfl rfl ?_ | refine L_val (R_loadH (by assumption) rfl (by assumption) (by rfl)) rfl rfl rfl ?_) | (refine cL_assign ?_; refine L_val R_assign rfl rfl rfl ?_) | (refine cL_call ?_; refine L_val (R_len rfl) rfl rfl rfl ?_) | (refine cL_lss ?_; refine L_val (R_ltI rfl rfl) rfl rfl rfl ?_) | (refine cL_add ?_; refine L_val (R_addI rfl rfl) rfl rfl rfl ?_) | (refine cL_geq ?_; refine L_val (R_geI rfl rfl) rfl rfl rfl ?_) | refine L_nil ?_) | refine G_seq ?_ | refine G_region ?_ | refine G_skip ?_ | refine G_block ?_ | refine G_end ?_ | refine G_true rfl ?_ | refine G_false rfl ?_)); exact k_.out) : G := h ⟨k⟩

section
variable {P : Program} {n : Nat} {ops rest : List Oper} {K : LK} {f : Fm} {ds : List Deferred} {w : World}
variable {dst : Option Nat} {ty : TypeId} {pos : String} {aft : Array Edge} {g : Option (Nat × Bool)}

theorem L_mapUpdateP {t kt et : Nat} {z : Value} [hm : MapP P t kt et z] [PtrEq P kt] {x y v : Operand} {k r : Nat} {kvs : List (Nat × Value)} (hx : ev f x = .map (some r)) (hy : ev f y = ptr k) (hr : MapPt w r kvs) (hk : PLive w (some ⟨k, 0, none⟩)) (hl : ∀ kv ∈ kvs, PLive w (some ⟨kv.1, 0, none⟩)) (hn : ∀ kv ∈ kvs, kv.1 ≠ k)
    (hw : wantd ops f ⟨none, .mapUpdate t x y v, ty, pos, aft, g⟩ = true) (h : ∀ w', MapPt w' r (kvs ++ [(k, ev f v)]) → Ext (fun b => b = r) w w' → w'.heap.size = w.heap.size → L P n ops K rest f ds w') : L P n ops K (⟨none, .mapUpdate t x y v, ty, pos, aft, g⟩ :: rest) f ds w := by
  obtain ⟨w', h1, h2, h3, h4⟩ := R_mapUpdateP (P := P) (dst := none) (ty := ty) (pos := pos) (aft := aft) (g := g) (t := t) (v := v) hx hy hr hk hl hn
  exact L_skip h1 hw rfl (h w' h2 h3 h4)
end

section
attribute [local semireducible] execOp
theorem R_makeTypes {f : Fm} {w : World} {dst : Option Nat} {ty : TypeId} {pos : String} {aft : Array Edge} {g : Option (Nat × Bool)} {x y : Operand} {n : Nat} (hx : ev f x = .int .i64 (n : Int)) (hy : ev f y = .int .i64 (n : Int)) (h8 : n ≤ 8) :
    (execOp (ev f) ⟨dst, .makeSlice 75 x y, ty, pos, aft, g⟩).run Tryz.prog w = .ok (.value (.slice (some ⟨w.heap.size, 0, none⟩) n n)) (w.alloc (Ob (List.replicate n .nilIface) 67)) := by
  have hu : Tryz.prog.underlying 75 = some (.slice 67) := by kernel_rfl
  have hi : (Tryz.prog.info? 67).map (fun i => (i.zero, i.size, i.bytes)) = some (some .nilIface, 1, 16) := by kernel_rfl
  obtain ⟨i, h1, h2⟩ := Option.map_eq_some_iff.1 hi
  simp only [Prod.mk.injEq] at h2
  obtain ⟨hz, hs, hb⟩ := h2
  have hwr : IntKind.i64.wrap (n : Int) = (n : Int) := wrap_i64 (by omega) (by omega)
  have e1 : ¬ (16 * (n : Int) > 281474976710656) := by omega
  have e2 : ¬ ((n : Int) < 0) := by omega
  have e3 : ¬ (n * 16 > roomBytes) := by unfold roomBytes; omega
  have hcells : (Array.range n).map (fun j => (Value.nilIface.cells)[j % Value.nilIface.cells.size]!) = (List.replicate n Value.nilIface).toArray := by
    apply Array.ext
    · simp
    · intro j h1 h2
      have : Value.nilIface.cells = #[Value.nilIface] := rfl
      simp [this, Nat.mod_one]
  have ht : ∀ w, (typeInfo 67).run Tryz.prog w = .ok i w := fun w => by simp [typeInfo, h1]
  have hso : ∀ w, (sizeOf 67).run Tryz.prog w = .ok 1 w := fun w => by simp [sizeOf, ht, hs]
  have hzv : ∀ w, (zeroValue 67).run Tryz.prog w = .ok .nilIface w := fun w => by simp [zeroValue, ht, hz]
  simp [execOp, hx, hy, Instr.makeSlice, run_underlying hu, asInt, asIntOf, ht, hb, hwr, e1, e2, askRoom, hso]
  split
  · rename_i h0
    subst h0
    have e0 : (Array.map (fun _ => (default : Value)) (Array.range 0)) = #[] := by apply Array.ext <;> simp
    simp [newRow, Result.andThen, Ob, e0]
  · rw [hcells]
    simp [newRow, Result.andThen, Ob]
end

instance map_handles : MapP Tryz.prog 208 59 209 (.pointer none) := ⟨by kernel_rfl, ⟨156, by kernel_rfl⟩, by kernel_rfl⟩

def hMap (as_ hs : List Nat) : List (Nat × Value) := (as_.zip hs).map fun p => (p.1, ptr p.2)

theorem hMap_snoc {as_ hs : List Nat} {a h i : Nat} (hl : hs.length = i) (ha : as_[i]? = some a) : hMap (as_.take i) hs ++ [(a, ptr h)] = hMap (as_.take (i + 1)) (hs ++ [h]) := by
  have hlt := (List.getElem?_eq_some_iff.1 ha).1
  have h1 : (as_.take i).length = hs.length := by rw [List.length_take]; omega
  rw [List.take_add_one, ha]
  unfold hMap
  simp only [Option.toList_some]
  rw [List.zip_append h1]
  simp

/-- a new unifier for these type parameters -/
structure NewU (as_ : List Nat) (w : World) (u hm : Nat) (hs : List Nat) (w' : World) : Prop where
  len : hs.length = as_.length
  ub : w'.heap[u]? = some (Ob (UCells (.pointer none) hm 0) 211)
  mp : MapPt w' hm (hMap as_ hs)
  hb : ∀ h ∈ hs, w'.heap[h]? = some (Ob [.nilIface] 67)
  hn : hs.Nodup
  fu : w.heap.size ≤ u
  fm : w.heap.size ≤ hm
  fh : ∀ h ∈ hs, w.heap.size ≤ h
  ne : u ≠ hm ∧ u ∉ hs ∧ hm ∉ hs
  ext : Ext No w w'

theorem newUnifier_any {H : Hp} {as_ : List Nat} {q : Option Addr} {qc : Nat} (w : World) (hA : Agree H w) (hq : PtrsAt H as_ q) (hal : ∀ a ∈ as_, LiveH H a) (hnd : as_.Nodup) (h8 : as_.length ≤ 8) :
    Calls Tryz.prog 49 #[.pointer none, .slice q as_.length qc, .slice none 0 0, .bool false] w (Ret fun v w' => ∃ u hm hs, v = ptr u ∧ NewU as_ w u hm hs w') := by
  have hge : decide ((as_.length : Int) ≥ ((0 : Nat) : Int)) = true := decide_eq_true (by omega)
  (refine calls_enter Tryz.func49 Tryz.ntmps49 rfl rfl ?_)
  (repeat (first | (refine cL ?_; first | (refine cL_call ?_; refine L_callI (assert_true _) rfl rfl ?_) | (refine cL_geq ?_; refine L_valB (R_geI rfl rfl) hge rfl rfl rfl ?_)) | refine r100 ?_))
  refine L_val (R_makeMapH map_handles.h rfl) rfl rfl rfl ?_
  have hmn : w.heap.size ≤ w.heap.size := Nat.le_refl _
  obtain ⟨hm, hhm⟩ : ∃ hm, w.heap.size = hm := ⟨_, rfl⟩
  have hmap0 : MapPt (w.alloc (.map #[] 0)) hm (hMap (as_.take 0) []) := ⟨#[], 0, by rw [← hhm]; exact (newB_alloc w (.map #[] 0)).here, rfl, by simp, by simp⟩
  have x0 : Ext No w (w.alloc (.map #[] 0)) := Ext.alloc w _
  have hsz : hm < (w.alloc (.map #[] 0)).heap.size := by rw [← hhm]; exact lt_of_heap (newB_alloc w (.map #[] 0)).here
  rw [hhm]
  generalize w.alloc (.map #[] 0) = w1 at *
  (refine r101 ?_)
  refine G_loop (fun f ds0 w0 => ds0 = [] ∧ ∃ (f0 : Fm) (i : Nat) (hs : List Nat), f = with_ [(24, .int .i64 (i : Int)), (23, .int .i64 (as_.length : Int)), (0, .pointer none), (2, .slice none 0 0), (3, .bool false), (9, .map (some hm)), (22, .slice q as_.length qc)] f0 ∧ i ≤ as_.length ∧ hs.length = i ∧
      Ext No w w0 ∧ hm < w0.heap.size ∧ MapPt w0 hm (hMap (as_.take i) hs) ∧ (∀ h ∈ hs, w0.heap[h]? = some (Ob [.nilIface] 67) ∧ hm < h) ∧ hs.Nodup) (fun f _ _ => countM 24 23 f)
    ⟨rfl, _, 0, [], with_self ⟨rfl, rfl, rfl, rfl, rfl, rfl, rfl, trivial⟩, Nat.zero_le _, rfl, x0, hsz, hmap0, (fun h hh => by cases hh), List.nodup_nil⟩ ?_
  rintro f ds0 wr ⟨rfl, f0, i, hs, rfl, hi, hlen, hext, hmr, hmp, hhs, hnh⟩
  have hAr : Agree H wr := hA.ext0 hext
  by_cases h : i < as_.length
  · have hb : decide ((i : Int) < (as_.length : Int)) = true := decide_eq_true (by omega)
    have hb0 : decide ((i : Int) < ((0 : Nat) : Int)) = false := decide_eq_false (by omega)
    obtain ⟨a, ha⟩ : ∃ v, as_[i]? = some v := ⟨_, List.getElem?_eq_getElem h⟩
    obtain ⟨gb, cs, T, rfl, hg1, hg2⟩ := hq i a ha
    (repeat (first | (refine cL ?_; first | (refine cL_load ?_; refine L_val (R_loadH hAr rfl hg1 hg2) rfl rfl rfl ?_) | (refine cL_lss ?_; refine L_valB (R_ltI rfl rfl) hb rfl rfl rfl ?_) | (refine cL_indexAddr ?_; refine L_valE (R_ia rfl rfl (by omega) (by omega)) (ia0 _ _) rfl rfl rfl ?_)) | refine r100 ?_))
    refine L_allocZ rfl rfl rfl fun hb' w2 hn2 => ?_
    have hfr := hn2.fresh
    have hmp2 : MapPt w2 hm (hMap (as_.take i) hs) := hmp.ext hn2.ext (fun x => x)
    have hA2 := hAr.ext0 hn2.ext
    (repeat (first | (refine cL ?_; first | (refine cL_lss ?_; refine L_valB (R_ltI rfl rfl) hb0 rfl rfl rfl ?_)) | refine r100 ?_))
    refine L_mapUpdateP rfl rfl hmp2 (hA2.live (hal a (List.mem_of_getElem? ha))) ?_ ?_ rfl fun w3 hmp3 x3 s3 => ?_
    · intro kv hkv
      obtain ⟨⟨k1, k2⟩, hz, rfl⟩ := List.mem_map.1 hkv
      exact hA2.live (hal k1 (List.mem_of_mem_take (List.of_mem_zip hz).1))
    · intro kv hkv
      obtain ⟨⟨k1, k2⟩, hz, rfl⟩ := List.mem_map.1 hkv
      intro hk
      obtain ⟨j, hj⟩ := List.mem_iff_getElem?.1 (List.of_mem_zip hz).1
      have hjl := (List.getElem?_eq_some_iff.1 hj).1
      rw [List.length_take] at hjl
      rw [List.getElem?_take_of_lt (by omega)] at hj
      have : j = i := nodup_inj hnd (hj.trans (by rw [show k1 = a from hk])) ha
      omega
    · have hne : hb' ≠ hm := by omega
      (repeat (first | (refine cL ?_; first | (refine cL_add ?_; refine L_valE (R_addI rfl rfl) (succ_i64 h (by omega)) rfl rfl rfl ?_)) | refine r100 ?_))
      refine G_inv ⟨⟨rfl, _, i + 1, hs ++ [hb'], with_self ⟨rfl, rfl, rfl, rfl, rfl, rfl, rfl, trivial⟩, h, by simp [hlen], ?_, by have := hn2.ext.size; omega, ?_, ?_, ?_⟩, ?_⟩
      · exact (hext.trans hn2.ext).trans_new x3 (fun j hj hm' => by omega)
      · rw [← hMap_snoc hlen ha]
        exact hmp3
      · intro h0 hh0
        rcases List.mem_append.1 hh0 with hh0 | hh0
        · obtain ⟨e1, e2⟩ := hhs h0 hh0
          exact ⟨x3.heap (fun x => by omega) (hn2.ext.heap (fun x => x) e1), e2⟩
        · simp only [List.mem_singleton] at hh0
          subst hh0
          exact ⟨x3.heap (fun x => hne x) hn2.here, by omega⟩
      · refine List.nodup_append.2 ⟨hnh, by simp, ?_⟩
        rintro x hx y hy rfl
        simp only [List.mem_singleton] at hy
        subst hy
        have := lt_of_heap (hhs _ hx).1
        omega
      · show ((as_.length : Int) - ((i + 1 : Nat) : Int)).toNat < ((as_.length : Int) - (i : Int)).toNat
        omega
  · have hb : decide ((i : Int) < (as_.length : Int)) = false := decide_eq_false (by omega)
    have hil : i = as_.length := by omega
    (repeat (first | (refine cL ?_; first | (refine cL_lss ?_; refine L_valB (R_ltI rfl rfl) hb rfl rfl rfl ?_) | (refine cL_build ?_; refine L_val (R_build (cs := UCells (.pointer none) hm 0) rfl) rfl rfl rfl ?_)) | refine G_exit rfl ?_ | refine r100 ?_))
    refine L_box rfl rfl rfl fun u w2 hn2 => ?_
    have hfr := hn2.fresh
    (refine r101 ?_)
    (refine G_retF rfl ?_)
    rw [hil, List.take_length] at hmp
    refine ⟨ptr u, rfl, u, hm, hs, rfl, ⟨by omega, hn2.here, hmp.ext hn2.ext (fun x => x), fun h hh => hn2.ext.heap (fun x => x) (hhs h hh).1, hnh, by have := hext.size; omega, by omega, fun h hh => by have := (hhs h hh).2; omega, ⟨by omega, fun hu => ?_, fun hu => ?_⟩, hext.trans hn2.ext⟩⟩
    · have := lt_of_heap (hhs u hu).1; omega
    · have := (hhs hm hu).2; omega
end Go.Proofs.YthcllcmnhoaniaaGreatDoor

/-
  A unifier's handles: what is inferred.
-/
namespace Go.Proofs.YthcllcmnhoaniaaGreatDoor
set_option maxRecDepth 100000
set_option maxHeartbeats 4000000
attribute [local irreducible] Calls execOp

/-- the handles of the type parameters, and what lies there -/
structure HS where
  hs : List Nat
  val : Nat → Value

def SIh (as_ : List Nat) (u hm : Nat) (M : Nat → Prop) (s : HS) (w : World) : Prop :=
  s.hs.length = as_.length ∧ MapPt w hm (hMap as_ s.hs) ∧ (∀ h ∈ s.hs, w.heap[h]? = some (Ob [s.val h] 67) ∧ M h ∧ h ≠ u ∧ (s.val h).oneCell' = true) ∧ hm ≠ u ∧ M hm

def mkUC (H : Hp) (as_ : List Nat) (u hm : Nat) (M : Nat → Prop) (hu : M u) (hH : ∀ b o, H b = some o → ¬ M b) : UC HS where
  H := H
  u := u
  hm := hm
  ck := .pointer none
  M := M
  SI := SIh as_ u hm M
  hu := hu
  hH := hH
  hS := fun _ _ _ he ⟨h1, h2, h3, h4, h5⟩ => ⟨h1, h2.ext he h4, fun h hh => let ⟨g1, g2, g3, g4⟩ := h3 h hh; ⟨he.heap g3 g1, g2, g3, g4⟩, h4, h5⟩

section
variable {H : Hp} {as_ : List Nat} {u hm : Nat} {M : Nat → Prop} {hu : M u} {hH : ∀ b o, H b = some o → ¬ M b} {s : HS} {d : Nat} {w : World}

theorem hMap_get {hs : List Nat} {i a h : Nat} (ha : as_[i]? = some a) (hh : hs[i]? = some h) : (hMap as_ hs)[i]? = some (a, ptr h) := by
  unfold hMap
  have h1 : (as_.zip hs)[i]? = some (a, h) := by
    rw [List.getElem?_zip_eq_some]
    exact ⟨ha, hh⟩
  rw [List.getElem?_map, h1]
  rfl
theorem hMap_keys {hs : List Nat} (hl : hs.length = as_.length) : (hMap as_ hs).map (·.1) = as_ := by
  unfold hMap
  rw [List.map_map]
  exact List.map_fst_zip (by omega)
theorem hMap_live {H : Hp} {hs : List Nat} (hA : Agree H w) (hal : ∀ a ∈ as_, LiveH H a) : ∀ kv ∈ hMap as_ hs, PLive w (some ⟨kv.1, 0, none⟩) := by
  intro kv hkv
  obtain ⟨⟨k1, k2⟩, hz, rfl⟩ := List.mem_map.1 hkv
  exact hA.live (hal k1 (List.of_mem_zip hz).1)

theorem at_any (hw : UW (mkUC H as_ u hm M hu hH) s d w) (hal : ∀ a ∈ as_, LiveH H a) (hnd : as_.Nodup) {i a h : Nat} (ha : as_[i]? = some a) (hh : s.hs[i]? = some h) :
    Calls Tryz.prog 90 #[ptr u, ptr a] w (Ret (Is (s.val h) w)) := by
  have hub := hw.ub
  unfold UCells at hub
  obtain ⟨h1, h2, h3, h4, h5⟩ := hw.si
  have hA : Agree H w := hw.ag
  obtain ⟨g1, -, -, -⟩ := h3 h (List.mem_of_getElem? hh)
  have hlk : (match lookI (hMap as_ s.hs) a 0 with | some (_, v) => v | none => .pointer none) = ptr h := by
    rw [lookI_some (by rw [hMap_keys h1]; exact hnd) (hMap_get ha hh)]
  have hub' : w.heap[u]? = some (Ob [.pointer none, .map (some hm), .int .i64 (d : Int), .bool false] 211) := hub
  clear hub
  (refine calls_enter Tryz.func90 Tryz.ntmps90 rfl rfl ?_)
  (repeat (first | (refine cL ?_; first | refine L_valE (R_lookupP rfl rfl h2 (hA.live (hal a (List.mem_of_getElem? ha))) (hMap_live hA hal)) hlk rfl rfl rfl ?_) | refine r12 ?_))
  (refine G_retF rfl ?_)
  exact ⟨_, rfl, rfl, rfl⟩

theorem inferred_any {q : Option Addr} {qc : Nat} (hw : UW (mkUC H as_ u hm M hu hH) s d w) (hq : PtrsAt H as_ q) (hal : ∀ a ∈ as_, LiveH H a) (hnd : as_.Nodup) (h8 : as_.length ≤ 8) :
    Calls Tryz.prog 51 #[ptr u, .slice q as_.length qc] w (Ret fun v w' => ∃ g, v = .slice (some ⟨g, 0, none⟩) as_.length as_.length ∧ w'.heap[g]? = some (Ob (s.hs.map s.val) 67) ∧ w.heap.size ≤ g ∧ Ext No w w') := by
  obtain ⟨hl, -, hvv, -, -⟩ := hw.si
  (refine calls_enter Tryz.func51 Tryz.ntmps51 rfl rfl ?_)
  (refine r81 ?_)
  refine L_val (R_makeTypes (n := as_.length) rfl rfl h8) rfl rfl rfl ?_
  have hn1 := newB_alloc w (Ob (List.replicate as_.length .nilIface) 67)
  obtain ⟨g, hg⟩ : ∃ g, w.heap.size = g := ⟨_, rfl⟩
  rw [hg] at hn1 ⊢
  generalize w.alloc (Ob (List.replicate as_.length .nilIface) 67) = w1 at *
  have hx1 := hn1.ext
  (refine r81 ?_)
  refine G_loop (fun f ds0 w0 => ds0 = [] ∧ ∃ (f0 : Fm) (i : Nat), f = with_ [(13, .int .i64 (i : Int)), (12, .int .i64 (as_.length : Int)), (0, ptr u), (5, .slice (some ⟨g, 0, none⟩) as_.length as_.length), (11, .slice q as_.length qc)] f0 ∧ i ≤ as_.length ∧
      Ext (fun k => k = g) w1 w0 ∧ w0.heap[g]? = some (Ob ((s.hs.map s.val).take i ++ List.replicate (as_.length - i) .nilIface) 67)) (fun f _ _ => countM 13 12 f)
    ⟨rfl, _, 0, with_self ⟨rfl, rfl, rfl, rfl, rfl, trivial⟩, Nat.zero_le _, Ext.refl _ _, by simpa using hn1.here⟩ ?_
  rintro f ds0 wr ⟨rfl, f0, i, rfl, hi, hext, hgr⟩
  have hxw : Ext No w wr := hx1.trans_new hext fun j hj hm' => by omega
  have hwr := hw.ext hxw
  have hAr : Agree H wr := hwr.ag
  by_cases h : i < as_.length
  · have hb : decide ((i : Int) < (as_.length : Int)) = true := decide_eq_true (by omega)
    obtain ⟨a, ha⟩ : ∃ v, as_[i]? = some v := ⟨_, List.getElem?_eq_getElem h⟩
    obtain ⟨hd', hh⟩ : ∃ v, s.hs[i]? = some v := ⟨_, List.getElem?_eq_getElem (by omega)⟩
    obtain ⟨gb, cs, T, rfl, hg1, hg2⟩ := hq i a ha
    have hgi : lget ((s.hs.map s.val).take i ++ List.replicate (as_.length - i) .nilIface) i = some .nilIface := by
      have e3 : i - ((s.hs.map s.val).take i).length = 0 := by simp; omega
      rw [lget_eq, List.getElem?_append_right (by simp; omega), e3, List.getElem?_replicate, if_pos (by omega)]
    have hne : gb ≠ g := by
      have := lt_of_heap (hw.ag _ _ hg1)
      omega
    (repeat (first | (refine cL ?_; first | (refine cL_load ?_; refine L_val (R_loadH hAr rfl hg1 hg2) rfl rfl rfl ?_) | (refine cL_call ?_; refine L_callI (at_any hwr hal hnd ha hh) rfl rfl ?_) | (refine cL_lss ?_; refine L_valB (R_ltI rfl rfl) hb rfl rfl rfl ?_) | (refine cL_indexAddr ?_; refine L_valE (R_ia rfl rfl (by omega) (by omega)) (ia0 _ _) rfl rfl rfl ?_)) | refine r82 ?_))
    refine L_store rfl hgr hgi (hvv hd' (List.mem_of_getElem? hh)).2.2.2 rfl fun w2 h2 x2 s2 => ?_
    (repeat (first | (refine cL ?_; first | (refine cL_add ?_; refine L_valE (R_addI rfl rfl) (succ_i64 h (by omega)) rfl rfl rfl ?_)) | refine r82 ?_))
    refine G_inv ⟨⟨rfl, _, i + 1, with_self ⟨rfl, rfl, rfl, rfl, rfl, trivial⟩, h, hext.trans x2, ?_⟩, ?_⟩
    · rw [h2]
      congr 2
      rw [lset_eq, List.set_append_right _ _ (by simp; omega)]
      have e1 : (List.map s.val s.hs)[i]? = some (s.val hd') := by simp [hh]
      have e2 : as_.length - i = (as_.length - (i + 1)) + 1 := by omega
      have e3 : i - ((s.hs.map s.val).take i).length = 0 := by simp; omega
      rw [e3, e2, List.replicate_succ, List.set_cons_zero, List.take_add_one, e1]
      simp
      rfl
    · show ((as_.length : Int) - ((i + 1 : Nat) : Int)).toNat < ((as_.length : Int) - (i : Int)).toNat
      omega
  · have hb : decide ((i : Int) < (as_.length : Int)) = false := decide_eq_false (by omega)
    have hil : i = as_.length := by omega
    subst hil
    (repeat (first | (refine cL ?_; first | (refine cL_lss ?_; refine L_valB (R_ltI rfl rfl) hb rfl rfl rfl ?_)) | refine G_exit rfl ?_ | refine r82 ?_))
    (refine G_retF rfl ?_)
    refine ⟨.slice (some ⟨g, 0, none⟩) as_.length as_.length, rfl, g, rfl, ?_, by omega, hxw⟩
    rw [hgr]
    congr 2
    rw [List.take_of_length_le (by simp; omega)]
    simp
end
end Go.Proofs.YthcllcmnhoaniaaGreatDoor

/-
  The package's 'Unify' on one pair of types.
-/
namespace Go.Proofs.YthcllcmnhoaniaaGreatDoor
set_option maxRecDepth 100000
set_option maxHeartbeats 4000000
attribute [local irreducible] Calls execOp

theorem r102 {G G' : Prop} (k : G') (h : Hid G' → G := by intro k_; (repeat (first | (refine cL ?_; first | (refine cL_move ?_; refine L_val R_move rfl rfl rfl ?_) | (refine cL_load ?_; first | refine L_val (R_loadB rfl (by assumption) (by rfl)) rfl rfl rfl ?_ | refine L_val (R_loadH (by assumption) rfl (by assumption) (by rfl)) rfl rfl rfl ?_) | (refine cL_assign ?_; refine L_val R_assign rfl rfl rfl ?_) | (refine cL_call ?_; refine L_val (R_len rfl) rfl rfl rfl ?_) | (refine cL_lss ?_; refine L_val (R_ltI rfl rfl) rfl rfl rfl ?_) | (refine cL_not ?_; refine L_val (R_not rfl) rfl rfl rfl ?_) | (refine cL_add ?_; refine L_val (R_addI rfl rfl) rfl rfl rfl ?_) | refine L_nil ?_) | refine G_seq ?_ | refine G_region ?_ | refine G_skip ?_ | refine G_block ?_ | refine G_end ?_ | refine G_true rfl ?_ | refine G_false rfl ?_)); exact k_.out) : G := h ⟨k⟩
theorem r103 {G G' : Prop} (k : G') (h : Hid G' → G := by intro k_; (first | (refine cL ?_; first | (refine cL_move ?_; refine L_val R_move rfl rfl rfl ?_) | (refine cL_load ?_; first | refine L_val (R_loadB rfl (by assumption) (by rfl)) rfl rfl rfl ?_ | refine L_val (R_loadH (by assumption) rfl (by assumption) (by rfl)) rfl rfl rfl ?_) | (refine cL_assign ?_; refine L_val R_assign rfl rfl rfl ?_) | (refine cL_call ?_; refine L_val (R_len rfl) rfl rfl rfl ?_) | (refine cL_lss ?_; refine L_val (R_ltI rfl rfl) rfl rfl rfl ?_) | (refine cL_not ?_; refine L_val (R_not rfl) rfl rfl rfl ?_) | (refine cL_add ?_; refine L_val (R_addI rfl rfl) rfl rfl rfl ?_) | refine L_nil ?_) | refine G_seq ?_ | refine G_region ?_ | refine G_skip ?_ | refine G_block ?_ | refine G_end ?_ | refine G_true rfl ?_ | refine G_false rfl ?_); exact k_.out) : G := h ⟨k⟩

theorem unify50 {σ : Type} {C : UC σ} {m : Int} {x y : Value} {Q : Bool → σ → Prop} {w : World} (h : NfAt C m x y 0 Q w) :
    Calls Tryz.prog 50 #[ptr C.u, x, y, .int .u64 m] w (Ret fun v w' => ∃ r s', v = .bool r ∧ Q r s' ∧ UW C s' 0 w' ∧ Ext C.M w w') := by
  unfold NfAt at h
  (refine calls_enter Tryz.func50 Tryz.ntmps50 rfl rfl ?_)
  (refine r33 ?_)
  refine L_callR h rfl rfl fun v w' hv => ?_
  (refine r33 ?_)
  (refine G_retF rfl ?_)
  exact ⟨_, rfl, hv⟩

instance app_bools : AppT Tryz.prog 74 4 1 := ⟨by kernel_rfl, by kernel_rfl⟩

instance zero_pair : ZeroT Tryz.prog 73 (.agg #[.nilIface, .nilIface]) := ⟨by kernel_rfl⟩

theorem unify23 {H : Hp} {as_ : List Nat} {q : Option Addr} {qc gp pc Tx Ty' ax ay : Nat} {rr : List Value} {m : Int} {Q : Bool → HS → Prop} (w : World) (hA : Agree H w) (hq : PtrsAt H as_ q) (hal : ∀ a ∈ as_, LiveH H a) (hnd : as_.Nodup) (h8 : as_.length ≤ 8)
    (hm : m = 0 ∨ m = 1 ∨ m = 2) (hp : w.heap[gp]? = some (Ob (.iface Tx (ptr ax) :: .iface Ty' (ptr ay) :: rr) 73))
    (hnf : ∀ (u hm : Nat) (M : Nat → Prop) (hu : M u) (hH : ∀ b o, H b = some o → ¬ M b) (s : HS), s.hs.length = as_.length → s.hs.Nodup → (∀ h ∈ s.hs, s.val h = .nilIface) → Nf (mkUC H as_ u hm M hu hH) m (.iface Tx (ptr ax)) (.iface Ty' (ptr ay)) 0 s Q) :
    Calls Tryz.prog 23 #[.slice q as_.length qc, .slice (some ⟨gp, 0, none⟩) 1 pc, .int .i64 m, .bool false] w
      (Ret fun v w' => ∃ vo gi r s, v = .tuple #[vo, .slice (some ⟨gi, 0, none⟩) as_.length as_.length] ∧ OwnS w' 4 vo [.bool r] ∧ w'.heap[gi]? = some (Ob (s.hs.map s.val) 67) ∧ s.hs.length = as_.length ∧ Q r s ∧ Ext No w w') := by
  have hcv : Value.int .u64 (IntKind.u64.wrap m) = .int .u64 m := by rcases hm with rfl | rfl | rfl <;> rfl
  (refine calls_enter Tryz.func23 Tryz.ntmps23 rfl rfl ?_)
  (refine r102 ?_)
  refine L_callR (newUnifier_any w hA hq hal hnd h8) rfl rfl fun v w1 ⟨u, hm', hs, hv, hN⟩ => ?_
  subst hv
  obtain ⟨hN1, hN2, hN3, hN4, hN5, hN6, hN7, hN8, ⟨hN9, hN10, hN11⟩, hN12⟩ := hN
  have hu1 := lt_of_heap hN2
  have hmlt : hm' < w1.heap.size := by obtain ⟨es, c, e1, -⟩ := hN3; exact lt_of_heap e1
  have hMu : w.heap.size ≤ u ∧ u < w1.heap.size := ⟨hN6, hu1⟩
  have hHM : ∀ b o, H b = some o → ¬ (w.heap.size ≤ b ∧ b < w1.heap.size) := fun b o hb hM => by
    have := lt_of_heap (hA _ _ hb)
    omega
  have hU1 : UW (mkUC H as_ u hm' (fun b => w.heap.size ≤ b ∧ b < w1.heap.size) hMu hHM) ⟨hs, fun _ => .nilIface⟩ 0 w1 :=
    ⟨hA.ext0 hN12, hN2, fun b hb => hb.2, ⟨hN1, hN3, fun h hh => ⟨hN4 h hh, ⟨hN8 h hh, lt_of_heap (hN4 h hh)⟩, fun e => hN10 (e ▸ hh), rfl⟩, fun e => hN9 e.symm, ⟨hN7, hmlt⟩⟩⟩
  have hn := hnf u hm' _ hMu hHM ⟨hs, fun _ => .nilIface⟩ hN1 hN5 (fun _ _ => rfl)
  generalize hC : mkUC H as_ u hm' (fun b => w.heap.size ≤ b ∧ b < w1.heap.size) hMu hHM = C at *
  have hCu : C.u = u := by rw [← hC]; rfl
  have hp1 := hN12.heap (fun x => x) hp
  have hcl : ∀ j v, lget [.iface Tx (ptr ax), .iface Ty' (ptr ay)] j = some v → w1.cell? ⟨gp, 0 + j, none⟩ = some v := fun j v hj => by
    rw [Nat.zero_add]
    refine cell_of_heap hp1 ?_
    match j, hj with
    | 0, hj => exact hj
    | 1, hj => exact hj
    | j + 2, hj => simp [lget] at hj
  have htl : ∀ {s : HS} {w2 : World}, UW C s 0 w2 → s.hs.length = as_.length := fun h => by subst hC; exact h.si.1
  have hinf : ∀ {s : HS} {w2 : World}, UW C s 0 w2 → Calls Tryz.prog 51 #[ptr u, .slice q as_.length qc] w2 (Ret fun v w' => ∃ g, v = .slice (some ⟨g, 0, none⟩) as_.length as_.length ∧ w'.heap[g]? = some (Ob (s.hs.map s.val) 67) ∧ w2.heap.size ≤ g ∧ Ext No w2 w') := fun h => by subst hC; exact inferred_any h hq hal hnd h8
  have hCM : ∀ {a b : World}, Ext C.M a b → Ext (fun b => w.heap.size ≤ b) a b := fun h => by subst hC; exact h.mono fun i _ hi => hi.1
  clear hN2 hN3 hN4 hnf
  (refine r102 ?_)
  refine G_loop (fun f ds0 w0 => ds0 = [] ∧ ((∃ f0, f = with_ [(19, .int .i64 0), (18, .int .i64 1), (0, .slice q as_.length qc), (2, .int .i64 m), (8, .slice none 0 0), (10, ptr u), (17, .slice (some ⟨gp, 0, none⟩) 1 pc)] f0 ∧ w0 = w1) ∨
      ∃ f0 vo s, f = with_ [(19, .int .i64 1), (18, .int .i64 1), (0, .slice q as_.length qc), (8, vo), (10, ptr u)] f0 ∧ OwnS w0 4 vo [.bool true] ∧ UW C s 0 w0 ∧ Q true s ∧ Ext No w w0)) (fun f _ _ => countM 19 18 f)
    ⟨rfl, .inl ⟨_, with_self ⟨rfl, rfl, rfl, rfl, rfl, rfl, rfl, trivial⟩, rfl⟩⟩ ?_
  rintro f ds0 wr ⟨rfl, ⟨f0, rfl, rfl⟩ | ⟨f0, vo, s, rfl, hown, hUr, hQr, hxr⟩⟩
  · (repeat (first | (refine cL ?_; first | (refine cL_load ?_; refine L_val (R_loadA (vs := [.iface Tx (ptr ax), .iface Ty' (ptr ay)]) rfl rfl hcl) rfl rfl rfl ?_) | (refine cL_indexAddr ?_; refine L_valE (R_ia rfl rfl (by omega) (by omega)) (show _ = Value.pointer (some ⟨gp, 0, none⟩) from rfl) rfl rfl rfl ?_)) | refine r103 ?_))
    refine L_allocZ rfl rfl rfl fun b12 w2 hn2 => ?_
    refine L_storeA rfl hn2.here rfl rfl rfl rfl rfl rfl fun w3 h3 e3 s3 => ?_
    have hn3 := hn2.store h3 e3 s3
    have hU3 := hU1.ext hn3.ext
    (repeat (first | (refine cL ?_; first | (refine cL_indexAddr ?_; refine L_val (R_iaArr rfl rfl (by omega) (by omega)) rfl rfl rfl ?_) | (refine cL_convert ?_; refine L_valE (R_conv rfl) hcv rfl rfl rfl ?_)) | refine r103 ?_))
    have h50 := unify50 (C := C) (hn w3 hU3)
    rw [hCu] at h50
    refine L_callR h50 rfl rfl fun v w4 ⟨r, s4, hv, hq4, hU4, x4⟩ => ?_
    subst hv
    have hx4 : Ext No w w4 := (hN12.trans hn3.ext).trans_new (hCM x4) fun i hi hm' => by omega
    (refine r102 ?_)
    refine L_buildSlice (vs := [.bool r]) rfl rfl rfl rfl rfl rfl fun b33 w5 hn5 => ?_
    refine L_push (v := .slice none 0 0) (xs := []) (u := .bool r) rfl (.inl ⟨rfl, rfl⟩) rfl hn5.here rfl (by simp) (by simp only [maxLen]; simp) rfl rfl fun vo w6 hpu => ?_
    have hx6 : Ext No w5 w6 := hpu.ext.mono fun i _ h => by cases h
    have hU6 := (hU4.ext hn5.ext).ext hx6
    have hx46 : Ext No w w6 := hx4.trans (hn5.ext.trans hx6)
    cases r with
    | true =>
      (refine r102 ?_)
      refine G_inv ⟨⟨rfl, .inr ⟨_, vo, s4, with_self ⟨rfl, rfl, rfl, rfl, rfl, trivial⟩, hpu.own, hU6, hq4, hx46⟩⟩, ?_⟩
      show ((1 : Int) - 1).toNat < ((1 : Int) - 0).toNat
      decide
    | false =>
      (repeat (first | refine G_exit rfl ?_ | refine r103 ?_))
      refine L_callR (hinf hU6) rfl rfl fun v w7 ⟨g, hv, hg, hgl, x7⟩ => ?_
      subst hv
      (refine r102 ?_)
      refine G_ret2 rfl ?_
      exact ⟨_, rfl, vo, g, false, s4, rfl, hpu.own.ext x7 (fun _ _ h => h), hg, htl hU6, hq4, hx46.trans x7⟩
  · (repeat (first | refine G_exit rfl ?_ | refine r103 ?_))
    refine L_callR (hinf hUr) rfl rfl fun v w7 ⟨g, hv, hg, hgl, x7⟩ => ?_
    subst hv
    (refine r102 ?_)
    refine G_ret2 rfl ?_
    exact ⟨_, rfl, vo, g, true, s, rfl, hown.ext x7 (fun _ _ h => h), hg, htl hUr, hQr, hxr.trans x7⟩
end Go.Proofs.YthcllcmnhoaniaaGreatDoor

/-
  The thin package's 'back': a type in memory as data; the small kinds.
-/
namespace Go.Proofs.YthcllcmnhoaniaaGreatDoor
set_option maxRecDepth 100000
set_option maxHeartbeats 4000000
attribute [local irreducible] Calls execOp

theorem r104 {G G' : Prop} (k : G') (h : Hid G' → G := by intro k_; (repeat (first | (refine cL ?_; first | (refine cL_move ?_; refine L_val R_move rfl rfl rfl ?_) | (refine cL_load ?_; first | refine L_val (R_loadB rfl (by assumption) (by rfl)) rfl rfl rfl ?_ | refine L_val (R_loadH (by assumption) rfl (by assumption) (by rfl)) rfl rfl rfl ?_) | (refine cL_fieldAddr ?_; refine L_val (R_fa rfl) rfl rfl rfl ?_) | (refine cL_nilCheck ?_; refine L_val (R_nil rfl) rfl rfl rfl ?_) | (refine cL_assign ?_; refine L_val R_assign rfl rfl rfl ?_) | (refine cL_call ?_; refine L_val (R_len rfl) rfl rfl rfl ?_) | (refine cL_eql ?_; first | refine L_val (R_eqPN rfl rfl) rfl rfl rfl ?_ | refine L_val (R_eqI rfl rfl) rfl rfl rfl ?_ | refine L_val (R_eqB rfl rfl) rfl rfl rfl ?_ | refine L_val (R_eqIfN rfl rfl) rfl rfl rfl ?_ | refine L_val (R_eqIfNN rfl) rfl rfl rfl ?_) | (refine cL_lss ?_; refine L_val (R_ltI rfl rfl) rfl rfl rfl ?_) | (refine cL_add ?_; refine L_val (R_addI rfl rfl) rfl rfl rfl ?_) | refine L_nil ?_) | refine G_seq ?_ | refine G_region ?_ | refine G_skip ?_ | refine G_block ?_ | refine G_end ?_ | refine G_true rfl ?_ | refine G_false rfl ?_)); exact k_.out) : G := h ⟨k⟩
theorem r105 {G G' : Prop} (k : G') (h : Hid G' → G := by intro k_; (first | (refine cL ?_; first | (refine cL_move ?_; refine L_val R_move rfl rfl rfl ?_) | (refine cL_load ?_; first | refine L_val (R_loadB rfl (by assumption) (by rfl)) rfl rfl rfl ?_ | refine L_val (R_loadH (by assumption) rfl (by assumption) (by rfl)) rfl rfl rfl ?_) | (refine cL_fieldAddr ?_; refine L_val (R_fa rfl) rfl rfl rfl ?_) | (refine cL_nilCheck ?_; refine L_val (R_nil rfl) rfl rfl rfl ?_) | (refine cL_assign ?_; refine L_val R_assign rfl rfl rfl ?_) | (refine cL_call ?_; refine L_val (R_len rfl) rfl rfl rfl ?_) | (refine cL_eql ?_; first | refine L_val (R_eqPN rfl rfl) rfl rfl rfl ?_ | refine L_val (R_eqI rfl rfl) rfl rfl rfl ?_ | refine L_val (R_eqB rfl rfl) rfl rfl rfl ?_ | refine L_val (R_eqIfN rfl rfl) rfl rfl rfl ?_ | refine L_val (R_eqIfNN rfl) rfl rfl rfl ?_) | (refine cL_lss ?_; refine L_val (R_ltI rfl rfl) rfl rfl rfl ?_) | (refine cL_add ?_; refine L_val (R_addI rfl rfl) rfl rfl rfl ?_) | refine L_nil ?_) | refine G_seq ?_ | refine G_region ?_ | refine G_skip ?_ | refine G_block ?_ | refine G_end ?_ | refine G_true rfl ?_ | refine G_false rfl ?_); exact k_.out) : G := h ⟨k⟩
theorem r106 {G G' : Prop} (k : G') (h : Hid G' → G := by intro k_; (repeat (first | (refine cL ?_; first | (refine cL_move ?_; refine L_val R_move rfl rfl rfl ?_) | (refine cL_assign ?_; refine L_val R_assign rfl rfl rfl ?_) | (refine cL_extract ?_; refine L_val (R_extract rfl rfl) rfl rfl rfl ?_) | (refine cL_typeAssert ?_; first | refine L_val (R_taY rfl) rfl rfl rfl ?_ | refine L_val (R_taN rfl rfl) rfl rfl rfl ?_ | refine L_val (R_taNil rfl) rfl rfl rfl ?_) | (refine cL_sub ?_; refine L_val (R_subI rfl rfl) rfl rfl rfl ?_) | refine L_nil ?_) | refine G_seq ?_ | refine G_region ?_ | refine G_skip ?_ | refine G_block ?_ | refine G_end ?_ | refine G_true rfl ?_ | refine G_false rfl ?_)); exact k_.out) : G := h ⟨k⟩
theorem r107 {G G' : Prop} (k : G') (h : Hid G' → G := by intro k_; (first | (refine cL ?_; first | (refine cL_move ?_; refine L_val R_move rfl rfl rfl ?_) | (refine cL_assign ?_; refine L_val R_assign rfl rfl rfl ?_) | (refine cL_extract ?_; refine L_val (R_extract rfl rfl) rfl rfl rfl ?_) | (refine cL_typeAssert ?_; first | refine L_val (R_taY rfl) rfl rfl rfl ?_ | refine L_val (R_taN rfl rfl) rfl rfl rfl ?_ | refine L_val (R_taNil rfl) rfl rfl rfl ?_) | (refine cL_sub ?_; refine L_val (R_subI rfl rfl) rfl rfl rfl ?_) | refine L_nil ?_) | refine G_seq ?_ | refine G_region ?_ | refine G_skip ?_ | refine G_block ?_ | refine G_end ?_ | refine G_true rfl ?_ | refine G_false rfl ?_); exact k_.out) : G := h ⟨k⟩

/-! ### results that lie in a variable -/

theorem resV_cell {P : Program} {fn : Func} {t : Tmp} {ty b n : Nat} {vs : List Value} {T : TypeId} [hp : AggT P ty n] (h : fn.results = #[.cell t ty]) {f : Fm} {w : World} (hf : f t = .pointer (some ⟨b, 0, none⟩)) (hb : w.heap[b]? = some (Ob vs T)) (hn : vs.length = n) : ResV P fn f w (.agg vs.toArray) := by
  intro tmps ht
  have h2 := run_loadCellsFrom (P := P) (w := w) (b := b) (o := 0) vs 0 #[] (fun j v hj => by rw [Nat.zero_add, Nat.zero_add]; exact cell_of_heap hb hj)
  rw [hn] at h2
  have ht' := ht t
  rw [hf] at ht'
  simp only [results, h]
  simp only [Array.getD_eq_getD_getElem?] at ht'
  simp [ht', asAddr, loadVar, run_isAgg_agg hp.h, run_sizeOf_agg hp.h, loadCells, h2]

theorem G_retC {P : Program} {n : Nat} {k : List It} {fn : Func} {R : Ending → World → Prop} {f : Fm} {w : World} {t : Tmp} {ty b m : Nat} {vs : List Value} {T : TypeId} [AggT P ty m] (hr : fn.results = #[.cell t ty]) (hf : f t = .pointer (some ⟨b, 0, none⟩)) (hb : w.heap[b]? = some (Ob vs T)) (hn : vs.length = m) (h : R (.returned (.agg vs.toArray)) w) :
    G P n (.code .ret :: k) (QF P fn R) f [] w :=
  G_ret ⟨rfl, _, resV_cell hr hf hb hn, h⟩

theorem Grow.around {H H' : Hp} {w w1 w2 w3 : World} {b : Nat} {o : Obj} (hn : NewB w w1 b o) (g : Grow H w1 H' w2) (hA : Agree H w) (e : Ext (fun k => k = b) w2 w3) : Grow H w H' w3 where
  le := g.le
  ag := g.ag.ext e fun k p hk hkb => by
    subst hkb
    have h1 := hn.fresh
    have h2 := hn.size
    rcases g.new k p hk with h | h
    · have := hA.lt h; omega
    · omega
  new := fun k p hk => by
    rcases g.new k p hk with h | h
    · exact .inl h
    · have := hn.size; exact .inr (by omega)
  ext := (hn.ext.trans g.ext).trans_new e fun j hj hm => by have := hn.fresh; omega

theorem X_pushN {P : Program} {M : Nat → Prop} {ops : List Oper} {K : DK} {rest : DT} {f : Fm} {wb : World} {ty : TypeId} {pos : String} {aft : Array Edge} {g : Option (Nat × Bool)} {d t e sz by_ : Nat} {x y : Operand} [ha : AppN P t e sz by_] {v : Value} {n : Nat} {xs : List Value} {b c : Nat} {us : List Value} {T : TypeId}
    (hv : ev f x = v) (hown : ∀ w, Ext No wb w → OwnN w e sz v n xs) (hy : ev f y = .slice (some ⟨b, 0, none⟩) 1 c) (hb : ∀ w, Ext No wb w → w.heap[b]? = some (Ob us T)) (hus : us.length = sz) (h0 : 0 < sz) (h1 : us.all (·.oneCell') = true)
    (hbd : (n + 1) * by_ ≤ 140737488355328) (hl : n + 1 ≤ maxLen) (hw : wantd ops f ⟨some d, .call ⟨.builtin .append, #[x, y], #[t, t]⟩, ty, pos, aft, g⟩ = true)
    (h : ∀ w v' w', Ext No wb w → PushedN w w' e sz v v' (n + 1) (xs ++ us) → X P M ops K rest (upd f d v') w') : X P M ops K (.op ⟨some d, .call ⟨.builtin .append, #[x, y], #[t, t]⟩, ty, pos, aft, g⟩ 2 rest) f wb :=
  X_wild hw rfl fun w he => by
    obtain ⟨v', w', h2, h3⟩ := R_pushN (P := P) (dst := some d) (ty := ty) (pos := pos) (aft := aft) (g := g) (t := t) hv (hown w he) hy (hb w he) hus h0 h1 hbd hl
    exact ⟨v', w', h2, h w v' w' he h3⟩

/-! ### rows of types -/

def DRow (H : Hp) : List Ty → List Value → Prop
  | [], cs => cs = []
  | e :: es, cs => ∃ c1 c2, cs = c1 ++ c2 ∧ c1.length = 6 ∧ DTy H e c1 ∧ DRow H es c2

theorem DTy.six {H : Hp} {t : Ty} {cs : List Value} (h : DTy H t cs) : cs.length = 6 := by
  obtain ⟨p, cap, rfl, -⟩ := h.cells
  rfl
theorem DRow.mono {H H' : Hp} (hh : Hp.le H H') : ∀ {es : List Ty} {cs : List Value}, DRow H es cs → DRow H' es cs
  | [], _, h => h
  | _ :: _, _, ⟨c1, c2, h1, h2, h3, h4⟩ => ⟨c1, c2, h1, h2, DTy.mono hh _ _ h3, h4.mono hh⟩
theorem DRow.snoc {H : Hp} {e : Ty} {c : List Value} (he : DTy H e c) : ∀ {es : List Ty} {cs : List Value}, DRow H es cs → DRow H (es ++ [e]) (cs ++ c)
  | [], cs, h => by
    simp only [DRow] at h
    subst h
    exact ⟨c, [], by simp, he.six, he, rfl⟩
  | _ :: _, _, ⟨c1, c2, h1, h2, h3, h4⟩ => ⟨c1, c2 ++ c, by rw [h1]; simp, h2, h3, h4.snoc he⟩
theorem DRow.el {H : Hp} {b T : Nat} : ∀ {es : List Ty} {cs pre r : List Value}, DRow H es cs → H b = some (Ob (pre ++ (cs ++ r)) T) → DEl H es b pre.length
  | [], _, _, _, _, _ => by simp [DEl]
  | e :: es, _, pre, r, ⟨c1, c2, h1, h2, h3, h4⟩, hb => by
    subst h1
    simp only [DEl]
    refine ⟨⟨c1, fun j v hj => ?_, h3⟩, ?_⟩
    · refine ⟨_, _, _, hb, ?_⟩
      rw [lget_eq] at hj
      have hlt := (List.getElem?_eq_some_iff.1 hj).1
      simp only [List.getElem?_toArray, List.append_assoc]
      rw [List.getElem?_append_right (by omega), show pre.length + j - pre.length = j by omega, List.getElem?_append_left hlt]
      exact hj
    · have h5 := DRow.el (T := T) (pre := pre ++ c1) (r := r) h4 (by rw [hb]; simp)
      rw [List.length_append, h2] at h5
      exact h5
theorem DRow.sl {H : Hp} {b T : Nat} {es : List Ty} {cs r : List Value} (h : DRow H es cs) (hb : H b = some (Ob (cs ++ r) T)) : DSl H es (some ⟨b, 0, none⟩) :=
  .inr ⟨b, 0, rfl, DRow.el (pre := []) h hb⟩

theorem DTy.mk {H : Hp} {k n c : Int} {b : Bool} {nm : ByteArray} {es : List Ty} {p : Option Addr} {cap : Nat} (hk : i64ok k) (hn : i64ok n) (hc : i64ok c) (hl : es.length * 72 ≤ 140737488351232 ∧ es.length ≤ cap) (hs : DSl H es p) : DTy H (.mk k n c b nm es) (tyCells k n c b (.slice p es.length cap) nm) := by
  simp only [DTy]
  exact ⟨p, cap, rfl, hk, hn, hc, hl, hs⟩

/-! ### what is asked, what is answered -/

mutual
/-- numbers within their bounds, rows that are not long -/
def okT : Ty → Prop
  | .mk k n _ _ _ es => i64ok n ∧ (k = 0 → n < 17) ∧ es.length ≤ 1000 ∧ okTL es
def okTL : List Ty → Prop
  | [] => True
  | e :: es => okT e ∧ okTL es
end
theorem okTL.mem {e : Ty} : ∀ {es : List Ty}, okTL es → e ∈ es → okT e
  | x :: es, ⟨h1, h2⟩, h => by
    rcases List.mem_cons.1 h with rfl | h
    · exact h1
    · exact okTL.mem h2 h

def BackSays (H : Hp) (w : World) (t : Ty) : Value → World → Prop := fun r w' =>
  ∃ cs H' t', r = .agg cs.toArray ∧ Grow H w H' w' ∧ DTy H' t' cs ∧ ident t' t = true

def BackOK (E : Env) (ds : List (Int × Ty)) (p : Option Addr) (dcap bB : Nat) (t : Ty) : Prop :=
  ∀ (v : Value) (H : Hp) (w : World), Agree H w → EnvOK E H → BuIs E H ds p dcap bB → Rep E H t v → Calls Tryz.prog 25 #[ptr bB, v] w (Ret (BackSays H w t))

instance (n : Int) : Decidable (i64ok n) := by unfold i64ok; infer_instance
theorem i64_small {n : Int} (h0 : 0 ≤ n) (h1 : n < 1000000) : i64ok n := by unfold i64ok; omega

/-! ### functions that read one field -/

section
variable {H : Hp} {a : Nat} {cs : List Value} {v : Value} {T : Nat} (w : World) (hA : Agree H w) (h : H a = some (Ob cs T))
include hA h
theorem get_bKind (hv : lget cs 0 = some v) : Calls Tryz.prog 52 #[ptr a] w (Ret (Is v w)) := by
  (refine calls_enter Tryz.func52 Tryz.ntmps52 rfl rfl ?_)
  (repeat (first | (refine cL ?_; first | (refine cL_load ?_; refine L_val (R_loadH hA rfl h hv) rfl rfl rfl ?_)) | refine r12 ?_))
  (refine G_retF rfl ?_)
  exact ⟨_, rfl, rfl, rfl⟩
theorem get_pElem (hv : lget cs 0 = some v) : Calls Tryz.prog 55 #[ptr a] w (Ret (Is v w)) := by
  (refine calls_enter Tryz.func55 Tryz.ntmps55 rfl rfl ?_)
  (repeat (first | (refine cL ?_; first | (refine cL_load ?_; refine L_val (R_loadH hA rfl h hv) rfl rfl rfl ?_)) | refine r12 ?_))
  (refine G_retF rfl ?_)
  exact ⟨_, rfl, rfl, rfl⟩
theorem get_sElem (hv : lget cs 0 = some v) : Calls Tryz.prog 56 #[ptr a] w (Ret (Is v w)) := by
  (refine calls_enter Tryz.func56 Tryz.ntmps56 rfl rfl ?_)
  (repeat (first | (refine cL ?_; first | (refine cL_load ?_; refine L_val (R_loadH hA rfl h hv) rfl rfl rfl ?_)) | refine r12 ?_))
  (refine G_retF rfl ?_)
  exact ⟨_, rfl, rfl, rfl⟩
theorem get_aLen (hv : lget cs 0 = some v) : Calls Tryz.prog 57 #[ptr a] w (Ret (Is v w)) := by
  (refine calls_enter Tryz.func57 Tryz.ntmps57 rfl rfl ?_)
  (repeat (first | (refine cL ?_; first | (refine cL_load ?_; refine L_val (R_loadH hA rfl h hv) rfl rfl rfl ?_)) | refine r12 ?_))
  (refine G_retF rfl ?_)
  exact ⟨_, rfl, rfl, rfl⟩
theorem get_aElem (hv : lget cs 1 = some v) : Calls Tryz.prog 58 #[ptr a] w (Ret (Is v w)) := by
  (refine calls_enter Tryz.func58 Tryz.ntmps58 rfl rfl ?_)
  (repeat (first | (refine cL ?_; first | (refine cL_load ?_; refine L_val (R_loadH hA rfl h hv) rfl rfl rfl ?_)) | refine r12 ?_))
  (refine G_retF rfl ?_)
  exact ⟨_, rfl, rfl, rfl⟩
theorem get_mKey (hv : lget cs 0 = some v) : Calls Tryz.prog 59 #[ptr a] w (Ret (Is v w)) := by
  (refine calls_enter Tryz.func59 Tryz.ntmps59 rfl rfl ?_)
  (repeat (first | (refine cL ?_; first | (refine cL_load ?_; refine L_val (R_loadH hA rfl h hv) rfl rfl rfl ?_)) | refine r12 ?_))
  (refine G_retF rfl ?_)
  exact ⟨_, rfl, rfl, rfl⟩
theorem get_mElem (hv : lget cs 1 = some v) : Calls Tryz.prog 60 #[ptr a] w (Ret (Is v w)) := by
  (refine calls_enter Tryz.func60 Tryz.ntmps60 rfl rfl ?_)
  (repeat (first | (refine cL ?_; first | (refine cL_load ?_; refine L_val (R_loadH hA rfl h hv) rfl rfl rfl ?_)) | refine r12 ?_))
  (refine G_retF rfl ?_)
  exact ⟨_, rfl, rfl, rfl⟩
theorem get_cDir (hv : lget cs 0 = some v) : Calls Tryz.prog 62 #[ptr a] w (Ret (Is v w)) := by
  (refine calls_enter Tryz.func62 Tryz.ntmps62 rfl rfl ?_)
  (repeat (first | (refine cL ?_; first | (refine cL_load ?_; refine L_val (R_loadH hA rfl h hv) rfl rfl rfl ?_)) | refine r12 ?_))
  (refine G_retF rfl ?_)
  exact ⟨_, rfl, rfl, rfl⟩
theorem get_cElem (hv : lget cs 1 = some v) : Calls Tryz.prog 63 #[ptr a] w (Ret (Is v w)) := by
  (refine calls_enter Tryz.func63 Tryz.ntmps63 rfl rfl ?_)
  (repeat (first | (refine cL ?_; first | (refine cL_load ?_; refine L_val (R_loadH hA rfl h hv) rfl rfl rfl ?_)) | refine r12 ?_))
  (refine G_retF rfl ?_)
  exact ⟨_, rfl, rfl, rfl⟩
theorem get_gParams (hv : lget cs 2 = some v) : Calls Tryz.prog 99 #[ptr a] w (Ret (Is v w)) := by
  (refine calls_enter Tryz.func99 Tryz.ntmps99 rfl rfl ?_)
  (repeat (first | (refine cL ?_; first | (refine cL_load ?_; refine L_val (R_loadH hA rfl h hv) rfl rfl rfl ?_)) | refine r12 ?_))
  (refine G_retF rfl ?_)
  exact ⟨_, rfl, rfl, rfl⟩
theorem get_gResults (hv : lget cs 3 = some v) : Calls Tryz.prog 101 #[ptr a] w (Ret (Is v w)) := by
  (refine calls_enter Tryz.func101 Tryz.ntmps101 rfl rfl ?_)
  (repeat (first | (refine cL ?_; first | (refine cL_load ?_; refine L_val (R_loadH hA rfl h hv) rfl rfl rfl ?_)) | refine r12 ?_))
  (refine G_retF rfl ?_)
  exact ⟨_, rfl, rfl, rfl⟩
theorem get_gVariadic (hv : lget cs 4 = some v) : Calls Tryz.prog 100 #[ptr a] w (Ret (Is v w)) := by
  (refine calls_enter Tryz.func100 Tryz.ntmps100 rfl rfl ?_)
  (repeat (first | (refine cL ?_; first | (refine cL_load ?_; refine L_val (R_loadH hA rfl h hv) rfl rfl rfl ?_)) | refine r12 ?_))
  (refine G_retF rfl ?_)
  exact ⟨_, rfl, rfl, rfl⟩
theorem get_oType (hv : lget cs 3 = some v) : Calls Tryz.prog 97 #[ptr a] w (Ret (Is v w)) := by
  (refine calls_enter Tryz.func97 Tryz.ntmps97 rfl rfl ?_)
  (repeat (first | (refine cL ?_; first | (refine cL_load ?_; refine L_val (R_loadH hA rfl h hv) rfl rfl rfl ?_)) | refine r12 ?_))
  (refine G_retF rfl ?_)
  exact ⟨_, rfl, rfl, rfl⟩
theorem get_oName (hv : lget cs 2 = some v) : Calls Tryz.prog 98 #[ptr a] w (Ret (Is v w)) := by
  (refine calls_enter Tryz.func98 Tryz.ntmps98 rfl rfl ?_)
  (repeat (first | (refine cL ?_; first | (refine cL_load ?_; refine L_val (R_loadH hA rfl h hv) rfl rfl rfl ?_)) | refine r12 ?_))
  (refine G_retF rfl ?_)
  exact ⟨_, rfl, rfl, rfl⟩
end

theorem number_any {n : Int} (w : World) (h0 : 0 ≤ n) (h3 : n < 3) : Calls Tryz.prog 61 #[.int .i64 n] w (Ret (Is (.int .i64 n) w)) := by
  obtain rfl | rfl | rfl : n = 0 ∨ n = 1 ∨ n = 2 := by omega
  all_goals
    (refine calls_enter Tryz.func61 Tryz.ntmps61 rfl rfl ?_)
    (refine r14 ?_)
    (refine G_retF rfl ?_)
    exact ⟨_, rfl, rfl, rfl⟩

theorem param_any {E : Env} {H : Hp} {ds : List (Int × Ty)} {p : Option Addr} {dcap bB i a : Nat} (w : World) (hA : Agree H w) (hE : EnvOK E H) (hB : BuIs E H ds p dcap bB) (h8 : E.params.length ≤ 1000) (hi : E.params[i]? = some a) :
    Calls Tryz.prog 53 #[ptr bB, ptr a] w (Ret (Is (.int .i64 (i : Int)) w)) := by
  obtain ⟨pk, vd, cd, vp, cp, hb1, hb2, hb3⟩ := hB.blk
  have hil := (List.getElem?_eq_some_iff.1 hi).1
  (refine calls_enter Tryz.func53 Tryz.ntmps53 rfl rfl ?_)
  (refine r104 ?_)
  refine G_loop (fun f ds0 w0 => ds0 = [] ∧ w0 = w ∧ ∃ (f0 : Fm) (j : Nat), f = with_ [(12, .int .i64 (j : Int)), (11, .int .i64 (E.params.length : Int)), (1, ptr a), (10, .slice vp E.params.length cp)] f0 ∧ j ≤ i) (fun f _ _ => countM 12 11 f)
    ⟨rfl, rfl, _, 0, with_self ⟨rfl, rfl, rfl, rfl, trivial⟩, Nat.zero_le _⟩ ?_
  rintro f ds0 w0 ⟨rfl, rfl, f0, j, rfl, hj⟩
  have hb : decide ((j : Int) < (E.params.length : Int)) = true := decide_eq_true (by omega)
  obtain ⟨c, hc⟩ : ∃ c, E.params[j]? = some c := ⟨_, List.getElem?_eq_getElem (by omega)⟩
  obtain ⟨g, cs, T, rfl, hg1, hg2⟩ := hb3 j c hc
  have hlc := hA.live (i := 0) (hE.pl c (List.mem_of_getElem? hc))
  have hla := hA.live (i := 0) (hE.pl a (List.mem_of_getElem? hi))
  by_cases hji : j = i
  · subst hji
    rw [hi] at hc
    injection hc with hc
    subst hc
    (repeat (first | (refine cL ?_; first | (refine cL_load ?_; refine L_val (R_loadH hA rfl hg1 hg2) rfl rfl rfl ?_) | (refine cL_eql ?_; refine L_valB (R_eqP rfl rfl hla hlc) (peq_self _) rfl rfl rfl ?_) | (refine cL_lss ?_; refine L_valB (R_ltI rfl rfl) hb rfl rfl rfl ?_) | (refine cL_indexAddr ?_; refine L_valE (R_ia rfl rfl (by omega) (by omega)) (ia0 _ _) rfl rfl rfl ?_)) | refine r105 ?_))
    (refine G_retF rfl ?_)
    exact ⟨_, rfl, rfl, rfl⟩
  · have hne : c ≠ a := fun h => hji (nodup_inj hE.pn hc (h ▸ hi))
    (repeat (first | (refine cL ?_; first | (refine cL_load ?_; refine L_val (R_loadH hA rfl hg1 hg2) rfl rfl rfl ?_) | (refine cL_eql ?_; refine L_valB (R_eqP rfl rfl hlc hla) (peq_false hne) rfl rfl rfl ?_) | (refine cL_lss ?_; refine L_valB (R_ltI rfl rfl) hb rfl rfl rfl ?_) | (refine cL_indexAddr ?_; refine L_valE (R_ia rfl rfl (by omega) (by omega)) (ia0 _ _) rfl rfl rfl ?_) | (refine cL_add ?_; refine L_valE (R_addI rfl rfl) (succ_i64 (len := E.params.length) (by omega) (by omega)) rfl rfl rfl ?_)) | refine r105 ?_))
    refine G_inv ⟨⟨rfl, rfl, _, j + 1, with_self ⟨rfl, rfl, rfl, rfl, trivial⟩, by omega⟩, ?_⟩
    show ((E.params.length : Int) - ((j + 1 : Nat) : Int)).toNat < ((E.params.length : Int) - (j : Int)).toNat
    omega

section
variable {E : Env} {ds : List (Int × Ty)} {p : Option Addr} {dcap bB : Nat} {H : Hp} {a : Nat} {nm : ByteArray} {c : Int} {b : Bool} (w : World) (hA : Agree H w)
include hA

theorem back_basic {n : Int} {info s : Value} (h : H a = some (Ob [.int .i64 (n + 1), info, s] 216)) (h0 : 0 ≤ n) (h1 : n < 17) : Calls Tryz.prog 25 #[ptr bB, .iface 143 (ptr a)] w (Ret (BackSays H w (.mk 0 n c b nm []))) := by
  have hsub : Value.int .i64 (IntKind.i64.wrap (n + 1 - 1)) = .int .i64 n := by rw [wrap_i64 (by omega) (by omega)]; congr 1; omega
  (refine calls_enter Tryz.func25 Tryz.ntmps25 rfl rfl ?_)
  (refine r106 ?_)
  refine L_allocS rfl rfl fun b4 w1 hn1 => ?_
  have hA1 := hA.ext0 hn1.ext
  (repeat (first | (refine cL ?_; first | (refine cL_call ?_; refine L_callI (get_bKind _ hA1 h rfl) rfl rfl ?_) | (refine cL_sub ?_; refine L_valE (R_subI rfl rfl) hsub rfl rfl rfl ?_) | (refine cL_build ?_; refine L_val (R_build (cs := tyCells 0 n 0 false (.slice none 0 0) ⟨#[]⟩) rfl) rfl rfl rfl ?_)) | refine r107 ?_))
  refine L_storeA (vs := tyCells 0 n 0 false (.slice none 0 0) ⟨#[]⟩) rfl hn1.here rfl rfl rfl rfl rfl rfl fun w2 h2 e2 s2 => ?_
  (refine r106 ?_)
  refine G_retC rfl rfl h2 rfl ?_
  exact ⟨_, rfl, _, H, .mk 0 n 0 false ⟨#[]⟩ [], rfl, Grow.around hn1 (Grow.refl hA1) hA e2, DTy.mk (by decide) (i64_small h0 (by omega)) (by decide) (by decide) (.inl rfl), by simp [ident, identL, alikeP]⟩

theorem back_param {n : Int} (hE : EnvOK E H) (hB : BuIs E H ds p dcap bB) (h8 : E.params.length ≤ 1000) (hn : E.params[n.toNat]? = some a) (h0 : 0 ≤ n) : Calls Tryz.prog 25 #[ptr bB, .iface 59 (ptr a)] w (Ret (BackSays H w (.mk 2 n c b nm []))) := by
  have hil := (List.getElem?_eq_some_iff.1 hn).1
  obtain ⟨i, rfl⟩ := Int.eq_ofNat_of_zero_le h0
  (refine calls_enter Tryz.func25 Tryz.ntmps25 rfl rfl ?_)
  (refine r106 ?_)
  refine L_allocS rfl rfl fun b4 w1 hn1 => ?_
  have hA1 := hA.ext0 hn1.ext
  (repeat (first | (refine cL ?_; first | (refine cL_call ?_; refine L_callI (param_any _ hA1 hE hB h8 hn) rfl rfl ?_) | (refine cL_build ?_; refine L_val (R_build (cs := tyCells 2 (i : Int) 0 false (.slice none 0 0) ⟨#[]⟩) rfl) rfl rfl rfl ?_)) | refine r107 ?_))
  refine L_storeA (vs := tyCells 2 (i : Int) 0 false (.slice none 0 0) ⟨#[]⟩) rfl hn1.here rfl rfl rfl rfl rfl rfl fun w2 h2 e2 s2 => ?_
  (refine r106 ?_)
  refine G_retC rfl rfl h2 rfl ?_
  exact ⟨_, rfl, _, H, .mk 2 (i : Int) 0 false ⟨#[]⟩ [], rfl, Grow.around hn1 (Grow.refl hA1) hA e2, DTy.mk (by decide) (i64_small h0 (by simp at hil; omega)) (by decide) (by decide) (.inl rfl), by simp [ident, identL, alikeP]⟩

theorem back_pointer {n : Int} (hE : EnvOK E H) (hB : BuIs E H ds p dcap bB) {e : Ty} {v : Value} (ih : BackOK E ds p dcap bB e) (hr : Rep E H e v) (h : H a = some (Ob [v] 171)) : Calls Tryz.prog 25 #[ptr bB, .iface 106 (ptr a)] w (Ret (BackSays H w (.mk 4 n c b nm [e]))) := by
  (refine calls_enter Tryz.func25 Tryz.ntmps25 rfl rfl ?_)
  (refine r106 ?_)
  refine L_allocS rfl rfl fun b4 w1 hn1 => ?_
  have hA1 := hA.ext0 hn1.ext
  (repeat (first | (refine cL ?_; first | (refine cL_call ?_; refine L_callI (get_pElem _ hA1 h rfl) rfl rfl ?_)) | refine r107 ?_))
  refine L_callR (ih v H w1 hA1 hE hB hr) rfl rfl fun r w2 ⟨cs, H2, t', hv, g2, hd, hid⟩ => ?_
  subst hv
  obtain ⟨q, cq, hcs, -⟩ := hd.cells
  have hd6 := hd
  rw [hcs] at hd6
  subst hcs
  refine L_buildSlice (vs := [.agg (tyCells t'.k t'.n t'.c t'.b (.slice q t'.es.length cq) t'.nm).toArray]) rfl rfl rfl rfl rfl rfl fun b5 w5 hn5 => ?_
  obtain ⟨H5, g5, hb5⟩ := Grow.ofNew g2.ag hn5
  have hd5 : DRow H5 [t'] (tyCells t'.k t'.n t'.c t'.b (.slice q t'.es.length cq) t'.nm) := ⟨_, [], by simp, rfl, DTy.mono g5.le _ _ hd6, rfl⟩
  have hb5' : H5 b5 = some (Ob (tyCells t'.k t'.n t'.c t'.b (.slice q t'.es.length cq) t'.nm ++ []) 26) := by rw [hb5]; rfl
  (repeat (first | (refine cL ?_; first | (refine cL_build ?_; refine L_val (R_build (cs := tyCells 4 0 0 false (.slice (some ⟨b5, 0, none⟩) 1 1) ⟨#[]⟩) rfl) rfl rfl rfl ?_)) | refine r107 ?_))
  refine L_storeA (vs := tyCells 4 0 0 false (.slice (some ⟨b5, 0, none⟩) 1 1) ⟨#[]⟩) rfl (hn5.ext.heap (fun x => x) (g2.ext.heap (fun x => x) hn1.here)) rfl rfl rfl rfl rfl rfl fun w6 h6 e6 s6 => ?_
  (refine r106 ?_)
  refine G_retC rfl rfl h6 rfl ?_
  exact ⟨_, rfl, _, H5, .mk 4 0 0 false ⟨#[]⟩ [t'], rfl, Grow.around hn1 (g2.trans g5) hA e6, DTy.mk (es := [t']) (by decide) (by decide) (by decide) (by simp) (hd5.sl hb5'), by simp [ident, identL, alikeP, hid]⟩

theorem back_slice {n : Int} (hE : EnvOK E H) (hB : BuIs E H ds p dcap bB) {e : Ty} {v : Value} (ih : BackOK E ds p dcap bB e) (hr : Rep E H e v) (h : H a = some (Ob [v] 173)) : Calls Tryz.prog 25 #[ptr bB, .iface 108 (ptr a)] w (Ret (BackSays H w (.mk 5 n c b nm [e]))) := by
  (refine calls_enter Tryz.func25 Tryz.ntmps25 rfl rfl ?_)
  (refine r106 ?_)
  refine L_allocS rfl rfl fun b4 w1 hn1 => ?_
  have hA1 := hA.ext0 hn1.ext
  (repeat (first | (refine cL ?_; first | (refine cL_call ?_; refine L_callI (get_sElem _ hA1 h rfl) rfl rfl ?_)) | refine r107 ?_))
  refine L_callR (ih v H w1 hA1 hE hB hr) rfl rfl fun r w2 ⟨cs, H2, t', hv, g2, hd, hid⟩ => ?_
  subst hv
  obtain ⟨q, cq, hcs, -⟩ := hd.cells
  have hd6 := hd
  rw [hcs] at hd6
  subst hcs
  refine L_buildSlice (vs := [.agg (tyCells t'.k t'.n t'.c t'.b (.slice q t'.es.length cq) t'.nm).toArray]) rfl rfl rfl rfl rfl rfl fun b5 w5 hn5 => ?_
  obtain ⟨H5, g5, hb5⟩ := Grow.ofNew g2.ag hn5
  have hd5 : DRow H5 [t'] (tyCells t'.k t'.n t'.c t'.b (.slice q t'.es.length cq) t'.nm) := ⟨_, [], by simp, rfl, DTy.mono g5.le _ _ hd6, rfl⟩
  have hb5' : H5 b5 = some (Ob (tyCells t'.k t'.n t'.c t'.b (.slice q t'.es.length cq) t'.nm ++ []) 26) := by rw [hb5]; rfl
  (repeat (first | (refine cL ?_; first | (refine cL_build ?_; refine L_val (R_build (cs := tyCells 5 0 0 false (.slice (some ⟨b5, 0, none⟩) 1 1) ⟨#[]⟩) rfl) rfl rfl rfl ?_)) | refine r107 ?_))
  refine L_storeA (vs := tyCells 5 0 0 false (.slice (some ⟨b5, 0, none⟩) 1 1) ⟨#[]⟩) rfl (hn5.ext.heap (fun x => x) (g2.ext.heap (fun x => x) hn1.here)) rfl rfl rfl rfl rfl rfl fun w6 h6 e6 s6 => ?_
  (refine r106 ?_)
  refine G_retC rfl rfl h6 rfl ?_
  exact ⟨_, rfl, _, H5, .mk 5 0 0 false ⟨#[]⟩ [t'], rfl, Grow.around hn1 (g2.trans g5) hA e6, DTy.mk (es := [t']) (by decide) (by decide) (by decide) (by simp) (hd5.sl hb5'), by simp [ident, identL, alikeP, hid]⟩

theorem back_array {n : Int} (hn : i64ok n) (hE : EnvOK E H) (hB : BuIs E H ds p dcap bB) {e : Ty} {v : Value} (ih : BackOK E ds p dcap bB e) (hr : Rep E H e v) (h : H a = some (Ob [.int .i64 n, v] 175)) : Calls Tryz.prog 25 #[ptr bB, .iface 110 (ptr a)] w (Ret (BackSays H w (.mk 6 n c b nm [e]))) := by
  (refine calls_enter Tryz.func25 Tryz.ntmps25 rfl rfl ?_)
  (refine r106 ?_)
  refine L_allocS rfl rfl fun b4 w1 hn1 => ?_
  have hA1 := hA.ext0 hn1.ext
  (repeat (first | (refine cL ?_; first | (refine cL_call ?_; first | refine L_callI (get_aLen _ hA1 h rfl) rfl rfl ?_ | refine L_callI (get_aElem _ hA1 h rfl) rfl rfl ?_)) | refine r107 ?_))
  refine L_callR (ih v H w1 hA1 hE hB hr) rfl rfl fun r w2 ⟨cs, H2, t', hv, g2, hd, hid⟩ => ?_
  subst hv
  obtain ⟨q, cq, hcs, -⟩ := hd.cells
  have hd6 := hd
  rw [hcs] at hd6
  subst hcs
  refine L_buildSlice (vs := [.agg (tyCells t'.k t'.n t'.c t'.b (.slice q t'.es.length cq) t'.nm).toArray]) rfl rfl rfl rfl rfl rfl fun b5 w5 hn5 => ?_
  obtain ⟨H5, g5, hb5⟩ := Grow.ofNew g2.ag hn5
  have hd5 : DRow H5 [t'] (tyCells t'.k t'.n t'.c t'.b (.slice q t'.es.length cq) t'.nm) := ⟨_, [], by simp, rfl, DTy.mono g5.le _ _ hd6, rfl⟩
  have hb5' : H5 b5 = some (Ob (tyCells t'.k t'.n t'.c t'.b (.slice q t'.es.length cq) t'.nm ++ []) 26) := by rw [hb5]; rfl
  (repeat (first | (refine cL ?_; first | (refine cL_build ?_; refine L_val (R_build (cs := tyCells 6 n 0 false (.slice (some ⟨b5, 0, none⟩) 1 1) ⟨#[]⟩) rfl) rfl rfl rfl ?_)) | refine r107 ?_))
  refine L_storeA (vs := tyCells 6 n 0 false (.slice (some ⟨b5, 0, none⟩) 1 1) ⟨#[]⟩) rfl (hn5.ext.heap (fun x => x) (g2.ext.heap (fun x => x) hn1.here)) rfl rfl rfl rfl rfl rfl fun w6 h6 e6 s6 => ?_
  (refine r106 ?_)
  refine G_retC rfl rfl h6 rfl ?_
  exact ⟨_, rfl, _, H5, .mk 6 n 0 false ⟨#[]⟩ [t'], rfl, Grow.around hn1 (g2.trans g5) hA e6, DTy.mk (es := [t']) (by decide) hn (by decide) (by simp) (hd5.sl hb5'), by simp [ident, identL, alikeP, hid]⟩

theorem back_chan {n : Int} (h0 : 0 ≤ n) (h3 : n < 3) (hE : EnvOK E H) (hB : BuIs E H ds p dcap bB) {e : Ty} {v : Value} (ih : BackOK E ds p dcap bB e) (hr : Rep E H e v) (h : H a = some (Ob [.int .i64 n, v] 179)) : Calls Tryz.prog 25 #[ptr bB, .iface 114 (ptr a)] w (Ret (BackSays H w (.mk 8 n c b nm [e]))) := by
  (refine calls_enter Tryz.func25 Tryz.ntmps25 rfl rfl ?_)
  (refine r106 ?_)
  refine L_allocS rfl rfl fun b4 w1 hn1 => ?_
  have hA1 := hA.ext0 hn1.ext
  (repeat (first | (refine cL ?_; first | (refine cL_call ?_; first | refine L_callI (get_cDir _ hA1 h rfl) rfl rfl ?_ | refine L_callI (number_any _ h0 h3) rfl rfl ?_ | refine L_callI (get_cElem _ hA1 h rfl) rfl rfl ?_)) | refine r107 ?_))
  refine L_callR (ih v H w1 hA1 hE hB hr) rfl rfl fun r w2 ⟨cs, H2, t', hv, g2, hd, hid⟩ => ?_
  subst hv
  obtain ⟨q, cq, hcs, -⟩ := hd.cells
  have hd6 := hd
  rw [hcs] at hd6
  subst hcs
  refine L_buildSlice (vs := [.agg (tyCells t'.k t'.n t'.c t'.b (.slice q t'.es.length cq) t'.nm).toArray]) rfl rfl rfl rfl rfl rfl fun b5 w5 hn5 => ?_
  obtain ⟨H5, g5, hb5⟩ := Grow.ofNew g2.ag hn5
  have hd5 : DRow H5 [t'] (tyCells t'.k t'.n t'.c t'.b (.slice q t'.es.length cq) t'.nm) := ⟨_, [], by simp, rfl, DTy.mono g5.le _ _ hd6, rfl⟩
  have hb5' : H5 b5 = some (Ob (tyCells t'.k t'.n t'.c t'.b (.slice q t'.es.length cq) t'.nm ++ []) 26) := by rw [hb5]; rfl
  (repeat (first | (refine cL ?_; first | (refine cL_build ?_; refine L_val (R_build (cs := tyCells 8 n 0 false (.slice (some ⟨b5, 0, none⟩) 1 1) ⟨#[]⟩) rfl) rfl rfl rfl ?_)) | refine r107 ?_))
  refine L_storeA (vs := tyCells 8 n 0 false (.slice (some ⟨b5, 0, none⟩) 1 1) ⟨#[]⟩) rfl (hn5.ext.heap (fun x => x) (g2.ext.heap (fun x => x) hn1.here)) rfl rfl rfl rfl rfl rfl fun w6 h6 e6 s6 => ?_
  (refine r106 ?_)
  refine G_retC rfl rfl h6 rfl ?_
  exact ⟨_, rfl, _, H5, .mk 8 n 0 false ⟨#[]⟩ [t'], rfl, Grow.around hn1 (g2.trans g5) hA e6, DTy.mk (es := [t']) (by decide) (i64_small h0 (by omega)) (by decide) (by simp) (hd5.sl hb5'), by simp [ident, identL, alikeP, hid]⟩

theorem back_map {n : Int} (hE : EnvOK E H) (hB : BuIs E H ds p dcap bB) {e e2 : Ty} {v v2 : Value} (ih : BackOK E ds p dcap bB e) (ih2 : BackOK E ds p dcap bB e2) (hr : Rep E H e v) (hr2 : Rep E H e2 v2) (h : H a = some (Ob [v, v2] 177)) : Calls Tryz.prog 25 #[ptr bB, .iface 112 (ptr a)] w (Ret (BackSays H w (.mk 7 n c b nm [e, e2]))) := by
  (refine calls_enter Tryz.func25 Tryz.ntmps25 rfl rfl ?_)
  (refine r106 ?_)
  refine L_allocS rfl rfl fun b4 w1 hn1 => ?_
  have hA1 := hA.ext0 hn1.ext
  (repeat (first | (refine cL ?_; first | (refine cL_call ?_; refine L_callI (get_mKey _ hA1 h rfl) rfl rfl ?_)) | refine r107 ?_))
  refine L_callR (ih v H w1 hA1 hE hB hr) rfl rfl fun r w2 ⟨cs, H2, t', hv, g2, hd, hid⟩ => ?_
  subst hv
  have hA2 := g2.ag
  have h' := g2.le _ _ h
  (repeat (first | (refine cL ?_; first | (refine cL_call ?_; refine L_callI (get_mElem _ hA2 h' rfl) rfl rfl ?_)) | refine r107 ?_))
  refine L_callR (ih2 v2 H2 w2 hA2 (hE.mono g2.le) (hB.mono g2.le) (Rep.mono g2.le _ _ hr2)) rfl rfl fun r w3 ⟨cs3, H3, t3, hv, g3, hd3, hid3⟩ => ?_
  subst hv
  obtain ⟨q, cq, hcs, -⟩ := hd.cells
  obtain ⟨q3, cq3, hcs3, -⟩ := hd3.cells
  have hd6 := DTy.mono g3.le _ _ hd
  have hd7 := hd3
  subst hcs
  subst hcs3
  refine L_buildSlice (vs := [.agg (tyCells t'.k t'.n t'.c t'.b (.slice q t'.es.length cq) t'.nm).toArray, .agg (tyCells t3.k t3.n t3.c t3.b (.slice q3 t3.es.length cq3) t3.nm).toArray]) rfl rfl rfl rfl rfl rfl fun b5 w5 hn5 => ?_
  obtain ⟨H5, g5, hb5⟩ := Grow.ofNew g3.ag hn5
  have hd5 : DRow H5 [t', t3] (tyCells t'.k t'.n t'.c t'.b (.slice q t'.es.length cq) t'.nm ++ tyCells t3.k t3.n t3.c t3.b (.slice q3 t3.es.length cq3) t3.nm) := ⟨_, _, rfl, rfl, DTy.mono g5.le _ _ hd6, _, [], by simp, rfl, DTy.mono g5.le _ _ hd7, rfl⟩
  have hb5' : H5 b5 = some (Ob ((tyCells t'.k t'.n t'.c t'.b (.slice q t'.es.length cq) t'.nm ++ tyCells t3.k t3.n t3.c t3.b (.slice q3 t3.es.length cq3) t3.nm) ++ []) 26) := by rw [hb5]; rfl
  (repeat (first | (refine cL ?_; first | (refine cL_build ?_; refine L_val (R_build (cs := tyCells 7 0 0 false (.slice (some ⟨b5, 0, none⟩) 2 2) ⟨#[]⟩) rfl) rfl rfl rfl ?_)) | refine r107 ?_))
  refine L_storeA (vs := tyCells 7 0 0 false (.slice (some ⟨b5, 0, none⟩) 2 2) ⟨#[]⟩) rfl (hn5.ext.heap (fun x => x) (g3.ext.heap (fun x => x) (g2.ext.heap (fun x => x) hn1.here))) rfl rfl rfl rfl rfl rfl fun w6 h6 e6 s6 => ?_
  (refine r106 ?_)
  refine G_retC rfl rfl h6 rfl ?_
  exact ⟨_, rfl, _, H5, .mk 7 0 0 false ⟨#[]⟩ [t', t3], rfl, Grow.around hn1 ((g2.trans g3).trans g5) hA e6, DTy.mk (es := [t', t3]) (by decide) (by decide) (by decide) (by simp) (hd5.sl hb5'), by simp [ident, identL, alikeP, hid, hid3]⟩
end
end Go.Proofs.YthcllcmnhoaniaaGreatDoor

/-
  Small things about the thin package's 'unify' and the laws that call it.
-/
namespace Go.Proofs.YthcllcmnhoaniaaGreatDoor
set_option maxRecDepth 100000
set_option maxHeartbeats 4000000
attribute [local irreducible] Calls execOp

theorem r108 {G G' : Prop} (k : G') (h : Hid G' → G := by intro k_; (first | (refine cL ?_; first | (refine cL_move ?_; refine L_val R_move rfl rfl rfl ?_) | (refine cL_assign ?_; refine L_val R_assign rfl rfl rfl ?_) | (refine cL_add ?_; refine L_val (R_addI rfl rfl) rfl rfl rfl ?_) | refine L_nil ?_) | refine G_seq ?_ | refine G_region ?_ | refine G_skip ?_ | refine G_block ?_ | refine G_end ?_ | refine G_true rfl ?_ | refine G_false rfl ?_); exact k_.out) : G := h ⟨k⟩

/-- the unifier's mode -/
def uMode (m : Int) : Int := if m = 0 then 2 else if m = 1 then 1 else 0

theorem modeOf_any {m : Int} (w : World) (hm : m = 0 ∨ m = 1 ∨ m = 2) : Calls Tryz.prog 24 #[.int .i64 m] w (Ret (Is (.int .i64 (uMode m)) w)) := by
  rcases hm with rfl | rfl | rfl
  all_goals
    (refine calls_enter Tryz.func24 Tryz.ntmps24 rfl rfl ?_)
    (refine r14 ?_)
    (refine G_retF rfl ?_)
    exact ⟨_, rfl, rfl, rfl⟩

instance zero_pairI : ZeroT Tryz.prog 47 (.agg #[.int .i64 0, .int .i64 0, .int .i64 0, .bool false, .slice none 0 0, .string ⟨#[]⟩, .int .i64 0, .int .i64 0, .int .i64 0, .bool false, .slice none 0 0, .string ⟨#[]⟩]) := ⟨by kernel_rfl⟩
instance app_pairs : AppN Tryz.prog 72 73 2 32 := ⟨by kernel_rfl, by kernel_rfl⟩
instance app_inferred : AppN Tryz.prog 29 34 7 80 := ⟨by kernel_rfl, by kernel_rfl⟩

def zInf : List Value := [.bool false, .int .i64 0, .int .i64 0, .int .i64 0, .bool false, .slice none 0 0, .string ⟨#[]⟩]
def zInfs : Nat → List Value
  | 0 => []
  | n + 1 => zInfs n ++ zInf


theorem R_remI {P : Program} {f : Fm} {w : World} {dst : Option Nat} {ty : TypeId} {pos : String} {aft : Array Edge} {g : Option (Nat × Bool)} {xt yt : TypeId} {x y : Operand} {k : IntKind} {a b : Int} (hx : ev f x = .int k a) (hy : ev f y = .int k b) (h0 : b ≠ 0) :
    (execOp (ev f) ⟨dst, .binOp .rem xt x y yt, ty, pos, aft, g⟩).run P w = .ok (.value (.int k (a.tmod b))) w :=
  R_bin rfl (by rw [hx, hy]; simp [binOp, Op.intDiv, h0])

theorem place_any (n : Int) (w : World) : Calls Tryz.prog 7 #[.int .i64 n, .int .i64 3] w (Ret fun v w' => ∃ m, v = .int .i64 m ∧ (m = 0 ∨ m = 1 ∨ m = 2) ∧ w' = w) := by
  have h1 : -3 < n.tmod 3 := Int.lt_tmod_of_pos n (by omega)
  have h2 : n.tmod 3 < 3 := Int.tmod_lt_of_pos n (by omega)
  have hw : Value.int .i64 (IntKind.i64.wrap (n.tmod 3 + 3)) = .int .i64 (n.tmod 3 + 3) := by rw [wrap_i64 (by omega) (by omega)]
  have h3 : 0 ≤ (n.tmod 3 + 3).tmod 3 := Int.tmod_nonneg 3 (by omega)
  have h4 : (n.tmod 3 + 3).tmod 3 < 3 := Int.tmod_lt_of_pos _ (by omega)
  (refine calls_enter Tryz.func7 Tryz.ntmps7 rfl rfl ?_)
  (repeat (first | (refine cL ?_; first | (refine cL_add ?_; refine L_valE (R_addI rfl rfl) hw rfl rfl rfl ?_) | (refine cL_rem ?_; refine L_val (R_remI rfl rfl (by decide)) rfl rfl rfl ?_)) | refine r108 ?_))
  (refine G_retF rfl ?_)
  exact ⟨_, rfl, _, rfl, by omega, rfl⟩

theorem dsl_one {H : Hp} {x : Ty} {cx : List Value} {b : Nat} {T : Nat} (hx : DTy H x cx) (hb : H b = some (Ob cx T)) : DSl H [x] (some ⟨b, 0, none⟩) := by
  refine .inr ⟨b, 0, rfl, ⟨_, ?_, hx⟩, trivial⟩
  intro j v hj
  refine ⟨_, _, _, hb, ?_⟩
  rw [lget_eq] at hj
  simpa using hj

end Go.Proofs.YthcllcmnhoaniaaGreatDoor

/-
  The thin package's builder: 'unify' on one pair.
-/
namespace Go.Proofs.YthcllcmnhoaniaaGreatDoor
set_option maxRecDepth 100000
set_option maxHeartbeats 4000000
attribute [local irreducible] Calls execOp

theorem r109 {G G' : Prop} (k : G') (h : Hid G' → G := by intro k_; (repeat (first | (refine cL ?_; first | (refine cL_guard ?_; refine L_unwanted rfl rfl rfl ?_) | (refine cL_move ?_; refine L_val R_move rfl rfl rfl ?_) | (refine cL_load ?_; first | refine L_val (R_loadB rfl (by assumption) (by rfl)) rfl rfl rfl ?_ | refine L_val (R_loadH (by assumption) rfl (by assumption) (by rfl)) rfl rfl rfl ?_) | (refine cL_fieldAddr ?_; refine L_val (R_fa rfl) rfl rfl rfl ?_) | (refine cL_nilCheck ?_; refine L_val (R_nil rfl) rfl rfl rfl ?_) | (refine cL_assign ?_; refine L_val R_assign rfl rfl rfl ?_) | (refine cL_extract ?_; refine L_val (R_extract rfl rfl) rfl rfl rfl ?_) | (refine cL_call ?_; refine L_val (R_len rfl) rfl rfl rfl ?_) | (refine cL_pick ?_; first | refine L_val (R_pickT rfl) rfl rfl rfl ?_ | refine L_val (R_pickF rfl) rfl rfl rfl ?_) | (refine cL_eql ?_; first | refine L_val (R_eqPN rfl rfl) rfl rfl rfl ?_ | refine L_val (R_eqI rfl rfl) rfl rfl rfl ?_ | refine L_val (R_eqB rfl rfl) rfl rfl rfl ?_ | refine L_val (R_eqIfN rfl rfl) rfl rfl rfl ?_ | refine L_val (R_eqIfNN rfl) rfl rfl rfl ?_) | (refine cL_lss ?_; refine L_val (R_ltI rfl rfl) rfl rfl rfl ?_) | (refine cL_add ?_; refine L_val (R_addI rfl rfl) rfl rfl rfl ?_) | (refine cL_sub ?_; refine L_val (R_subI rfl rfl) rfl rfl rfl ?_) | refine L_nil ?_) | refine G_seq ?_ | refine G_region ?_ | refine G_skip ?_ | refine G_block ?_ | refine G_end ?_ | refine G_true rfl ?_ | refine G_false rfl ?_)); exact k_.out) : G := h ⟨k⟩
theorem r110 {G G' : Prop} (k : G') (h : Hid G' → G := by intro k_; (first | (refine cL ?_; first | (refine cL_guard ?_; refine L_unwanted rfl rfl rfl ?_) | (refine cL_move ?_; refine L_val R_move rfl rfl rfl ?_) | (refine cL_load ?_; first | refine L_val (R_loadB rfl (by assumption) (by rfl)) rfl rfl rfl ?_ | refine L_val (R_loadH (by assumption) rfl (by assumption) (by rfl)) rfl rfl rfl ?_) | (refine cL_fieldAddr ?_; refine L_val (R_fa rfl) rfl rfl rfl ?_) | (refine cL_nilCheck ?_; refine L_val (R_nil rfl) rfl rfl rfl ?_) | (refine cL_assign ?_; refine L_val R_assign rfl rfl rfl ?_) | (refine cL_extract ?_; refine L_val (R_extract rfl rfl) rfl rfl rfl ?_) | (refine cL_call ?_; refine L_val (R_len rfl) rfl rfl rfl ?_) | (refine cL_pick ?_; first | refine L_val (R_pickT rfl) rfl rfl rfl ?_ | refine L_val (R_pickF rfl) rfl rfl rfl ?_) | (refine cL_eql ?_; first | refine L_val (R_eqPN rfl rfl) rfl rfl rfl ?_ | refine L_val (R_eqI rfl rfl) rfl rfl rfl ?_ | refine L_val (R_eqB rfl rfl) rfl rfl rfl ?_ | refine L_val (R_eqIfN rfl rfl) rfl rfl rfl ?_ | refine L_val (R_eqIfNN rfl) rfl rfl rfl ?_) | (refine cL_lss ?_; refine L_val (R_ltI rfl rfl) rfl rfl rfl ?_) | (refine cL_add ?_; refine L_val (R_addI rfl rfl) rfl rfl rfl ?_) | (refine cL_sub ?_; refine L_val (R_subI rfl rfl) rfl rfl rfl ?_) | refine L_nil ?_) | refine G_seq ?_ | refine G_region ?_ | refine G_skip ?_ | refine G_block ?_ | refine G_end ?_ | refine G_true rfl ?_ | refine G_false rfl ?_); exact k_.out) : G := h ⟨k⟩
theorem r111 {G G' A : Prop} (ag : A) (k : G') (h : Hid G' → A → G := by intro k_ ag_; (first | (refine cX_guard ?_; refine X_unwanted rfl rfl ?_) | (refine cX_move ?_; first | refine X_val0 (fun _ _ => R_move) rfl rfl ?_ | refine X_pure (fun _ => R_move) rfl rfl ?_) | (refine cX_load ?_; refine X_val0 (fun w he => R_loadH (ag_ w he) rfl (by assumption) (by rfl)) rfl rfl ?_) | (refine cX_fieldAddr ?_; first | refine X_val0 (fun _ _ => R_fa rfl) rfl rfl ?_ | refine X_pure (fun _ => R_fa rfl) rfl rfl ?_) | (refine cX_nilCheck ?_; first | refine X_val0 (fun _ _ => R_nil rfl) rfl rfl ?_ | refine X_pure (fun _ => R_nil rfl) rfl rfl ?_) | (refine cX_assign ?_; first | refine X_val0 (fun _ _ => R_assign) rfl rfl ?_ | refine X_pure (fun _ => R_assign) rfl rfl ?_) | (refine cX_extract ?_; first | refine X_val0 (fun _ _ => R_extract rfl rfl) rfl rfl ?_ | refine X_pure (fun _ => R_extract rfl rfl) rfl rfl ?_) | (refine cX_call ?_; first | refine X_val0 (fun _ _ => R_len rfl) rfl rfl ?_ | refine X_pure (fun _ => R_len rfl) rfl rfl ?_) | (refine cX_pick ?_; first | refine X_val0 (fun _ _ => R_pickT rfl) rfl rfl ?_ | refine X_pure (fun _ => R_pickT rfl) rfl rfl ?_ | refine X_val0 (fun _ _ => R_pickF rfl) rfl rfl ?_ | refine X_pure (fun _ => R_pickF rfl) rfl rfl ?_) | (refine cX_eql ?_; first | refine X_val0 (fun _ _ => R_eqPN rfl rfl) rfl rfl ?_ | refine X_pure (fun _ => R_eqPN rfl rfl) rfl rfl ?_ | refine X_val0 (fun _ _ => R_eqI rfl rfl) rfl rfl ?_ | refine X_pure (fun _ => R_eqI rfl rfl) rfl rfl ?_ | refine X_val0 (fun _ _ => R_eqB rfl rfl) rfl rfl ?_ | refine X_pure (fun _ => R_eqB rfl rfl) rfl rfl ?_ | refine X_val0 (fun _ _ => R_eqIfN rfl rfl) rfl rfl ?_ | refine X_pure (fun _ => R_eqIfN rfl rfl) rfl rfl ?_ | refine X_val0 (fun _ _ => R_eqIfNN rfl) rfl rfl ?_ | refine X_pure (fun _ => R_eqIfNN rfl) rfl rfl ?_) | (refine cX_lss ?_; first | refine X_val0 (fun _ _ => R_ltI rfl rfl) rfl rfl ?_ | refine X_pure (fun _ => R_ltI rfl rfl) rfl rfl ?_) | (refine cX_add ?_; first | refine X_val0 (fun _ _ => R_addI rfl rfl) rfl rfl ?_ | refine X_pure (fun _ => R_addI rfl rfl) rfl rfl ?_) | (refine cX_sub ?_; first | refine X_val0 (fun _ _ => R_subI rfl rfl) rfl rfl ?_ | refine X_pure (fun _ => R_subI rfl rfl) rfl rfl ?_)); exact k_.out) : G := h ⟨k⟩ ag
theorem r112 {G G' A : Prop} (ag : A) (k : G') (h : Hid G' → A → G := by intro k_ ag_; (repeat (first | (refine cX_guard ?_; refine X_unwanted rfl rfl ?_) | (refine cX_move ?_; first | refine X_val0 (fun _ _ => R_move) rfl rfl ?_ | refine X_pure (fun _ => R_move) rfl rfl ?_) | (refine cX_load ?_; refine X_val0 (fun w he => R_loadH (ag_ w he) rfl (by assumption) (by rfl)) rfl rfl ?_) | (refine cX_fieldAddr ?_; first | refine X_val0 (fun _ _ => R_fa rfl) rfl rfl ?_ | refine X_pure (fun _ => R_fa rfl) rfl rfl ?_) | (refine cX_nilCheck ?_; first | refine X_val0 (fun _ _ => R_nil rfl) rfl rfl ?_ | refine X_pure (fun _ => R_nil rfl) rfl rfl ?_) | (refine cX_assign ?_; first | refine X_val0 (fun _ _ => R_assign) rfl rfl ?_ | refine X_pure (fun _ => R_assign) rfl rfl ?_) | (refine cX_extract ?_; first | refine X_val0 (fun _ _ => R_extract rfl rfl) rfl rfl ?_ | refine X_pure (fun _ => R_extract rfl rfl) rfl rfl ?_) | (refine cX_call ?_; first | refine X_val0 (fun _ _ => R_len rfl) rfl rfl ?_ | refine X_pure (fun _ => R_len rfl) rfl rfl ?_) | (refine cX_pick ?_; first | refine X_val0 (fun _ _ => R_pickT rfl) rfl rfl ?_ | refine X_pure (fun _ => R_pickT rfl) rfl rfl ?_ | refine X_val0 (fun _ _ => R_pickF rfl) rfl rfl ?_ | refine X_pure (fun _ => R_pickF rfl) rfl rfl ?_) | (refine cX_eql ?_; first | refine X_val0 (fun _ _ => R_eqPN rfl rfl) rfl rfl ?_ | refine X_pure (fun _ => R_eqPN rfl rfl) rfl rfl ?_ | refine X_val0 (fun _ _ => R_eqI rfl rfl) rfl rfl ?_ | refine X_pure (fun _ => R_eqI rfl rfl) rfl rfl ?_ | refine X_val0 (fun _ _ => R_eqB rfl rfl) rfl rfl ?_ | refine X_pure (fun _ => R_eqB rfl rfl) rfl rfl ?_ | refine X_val0 (fun _ _ => R_eqIfN rfl rfl) rfl rfl ?_ | refine X_pure (fun _ => R_eqIfN rfl rfl) rfl rfl ?_ | refine X_val0 (fun _ _ => R_eqIfNN rfl) rfl rfl ?_ | refine X_pure (fun _ => R_eqIfNN rfl) rfl rfl ?_) | (refine cX_lss ?_; first | refine X_val0 (fun _ _ => R_ltI rfl rfl) rfl rfl ?_ | refine X_pure (fun _ => R_ltI rfl rfl) rfl rfl ?_) | (refine cX_add ?_; first | refine X_val0 (fun _ _ => R_addI rfl rfl) rfl rfl ?_ | refine X_pure (fun _ => R_addI rfl rfl) rfl rfl ?_) | (refine cX_sub ?_; first | refine X_val0 (fun _ _ => R_subI rfl rfl) rfl rfl ?_ | refine X_pure (fun _ => R_subI rfl rfl) rfl rfl ?_))); exact k_.out) : G := h ⟨k⟩ ag
theorem r113 {G G' A : Prop} (ag : A) (k : G') (h : Hid G' → A → G := by intro k_ ag_; (first | (refine cD_guard ?_; refine D_unwanted rfl rfl ?_) | (refine cD_move ?_; refine D_val0 (fun _ _ => R_move) rfl rfl ?_) | (refine cD_load ?_; refine D_val0 (fun w he => R_loadH (ag_ w he) rfl (by assumption) (by rfl)) rfl rfl ?_) | (refine cD_fieldAddr ?_; refine D_val0 (fun _ _ => R_fa rfl) rfl rfl ?_) | (refine cD_nilCheck ?_; refine D_val0 (fun _ _ => R_nil rfl) rfl rfl ?_) | (refine cD_assign ?_; refine D_val0 (fun _ _ => R_assign) rfl rfl ?_) | (refine cD_extract ?_; refine D_val0 (fun _ _ => R_extract rfl rfl) rfl rfl ?_) | (refine cD_call ?_; refine D_val0 (fun _ _ => R_len rfl) rfl rfl ?_) | (refine cD_pick ?_; first | refine D_val0 (fun _ _ => R_pickT rfl) rfl rfl ?_ | refine D_val0 (fun _ _ => R_pickF rfl) rfl rfl ?_) | (refine cD_eql ?_; first | refine D_val0 (fun _ _ => R_eqPN rfl rfl) rfl rfl ?_ | refine D_val0 (fun _ _ => R_eqI rfl rfl) rfl rfl ?_ | refine D_val0 (fun _ _ => R_eqB rfl rfl) rfl rfl ?_ | refine D_val0 (fun _ _ => R_eqIfN rfl rfl) rfl rfl ?_ | refine D_val0 (fun _ _ => R_eqIfNN rfl) rfl rfl ?_) | (refine cD_lss ?_; refine D_val0 (fun _ _ => R_ltI rfl rfl) rfl rfl ?_) | (refine cD_add ?_; refine D_val0 (fun _ _ => R_addI rfl rfl) rfl rfl ?_) | (refine cD_sub ?_; refine D_val0 (fun _ _ => R_subI rfl rfl) rfl rfl ?_)); exact k_.out) : G := h ⟨k⟩ ag

theorem bunify_nil {E : Env} {H : Hp} {ds : List (Int × Ty)} {p : Option Addr} {dcap bB gp pc : Nat} {x y : Ty} {cx cy : List Value} {m : Int} (w : World) (hA : Agree H w) (hP : Props H) (hbu : BuIs E H ds p dcap bB) (hx : DTy H x cx) (hy : DTy H y cy) (hd : DDl H ds p)
    (htx : TypOK E ds p dcap bB 0 x) (hty : TypOK E ds p dcap bB 0 y) (hE : EnvOK E H) (h8 : E.params.length ≤ 8) (hm : m = 0 ∨ m = 1 ∨ m = 2) (hp : H gp = some (Ob (cx ++ cy) 47))
    (hnf : ∀ (H' : Hp) (vx vy : Value), Hp.le H H' → Rep E H' (substT [] x) vx → Rep E H' (substT [] y) vy → ∀ (u hm : Nat) (M : Nat → Prop) (hu : M u) (hH : ∀ b o, H' b = some o → ¬ M b) (s : HS), (∀ h ∈ s.hs, s.val h = .nilIface) →
      Nf (mkUC H' E.params u hm M hu hH) (uMode m) vx vy 0 s fun r s' => r = true ∧ ∀ h ∈ s'.hs, s'.val h = .nilIface) :
    Calls Tryz.prog 12 #[ptr bB, .slice (some ⟨gp, 0, none⟩) 1 pc, .int .i64 m] w
      (Ret fun v w' => ∃ vo, v = .tuple #[vo, .bool true] ∧ OwnN w' 34 7 vo E.params.length (zInfs E.params.length) ∧ Ext No w w') := by
  obtain ⟨px, capx, hcx, -⟩ := hx.cells
  obtain ⟨py, capy, hcy, -⟩ := hy.cells
  have hmu : uMode m = 0 ∨ uMode m = 1 ∨ uMode m = 2 := by rcases hm with rfl | rfl | rfl <;> simp [uMode]
  obtain ⟨pk, vd, cd, vp, cp, hb1, hb2, hb3⟩ := hbu.blk
  (refine calls_enter Tryz.func12 Tryz.ntmps12 rfl rfl ?_)
  (refine r109 ?_)
  refine G_loop (fun f ds0 w0 => ds0 = [] ∧ ((∃ f0, f = with_ [(18, .int .i64 0), (17, .int .i64 1), (0, ptr bB), (1, .slice (some ⟨gp, 0, none⟩) 1 pc), (2, .int .i64 m), (8, .slice none 0 0), (16, .slice (some ⟨gp, 0, none⟩) 1 pc)] f0 ∧ w0 = w) ∨
      ∃ f0 g c H' vx vy rr, f = with_ [(18, .int .i64 1), (17, .int .i64 1), (0, ptr bB), (1, .slice (some ⟨gp, 0, none⟩) 1 pc), (2, .int .i64 m), (8, .slice (some ⟨g, 0, none⟩) 1 c)] f0 ∧ Grow H w H' w0 ∧ Rep E H' (substT [] x) vx ∧ Rep E H' (substT [] y) vy ∧ w0.heap[g]? = some (Ob (vx :: vy :: rr) 73))) (fun f _ _ => countM 18 17 f)
    ⟨rfl, .inl ⟨_, with_self ⟨rfl, rfl, rfl, rfl, rfl, rfl, rfl, trivial⟩, rfl⟩⟩ ?_
  rintro f ds0 wr ⟨rfl, ⟨f0, rfl, rfl⟩ | ⟨f0, g, c, H', vx, vy, rr, rfl, gr, hrx, hry, hg⟩⟩
  · subst hcx
    subst hcy
    (repeat (first | (refine cL ?_; first | (refine cL_guard ?_; refine L_unwanted rfl rfl rfl ?_) | (refine cL_load ?_; refine L_val (R_loadAB rfl rfl (hA _ _ hp)) rfl rfl rfl ?_) | (refine cL_indexAddr ?_; refine L_valE (R_ia rfl rfl (by omega) (by omega)) (show _ = Value.pointer (some ⟨gp, 0, none⟩) from rfl) rfl rfl rfl ?_)) | refine r110 ?_))
    refine L_allocZ rfl rfl rfl fun b10 w2 hn2 => ?_
    refine L_storeA rfl hn2.here rfl rfl rfl rfl rfl rfl fun w3 h3 e3 s3 => ?_
    have hn3 := hn2.store h3 e3 s3
    obtain ⟨H3, g3, hb10⟩ := Grow.ofNew hA hn3
    have hc1 : HCells H3 b10 0 (tyCells x.k x.n x.c x.b (.slice px x.es.length capx) x.nm) := fun j v hj => ⟨_, _, _, hb10, by
      match j, hj with
      | 0, hj => exact hj
      | 1, hj => exact hj
      | 2, hj => exact hj
      | 3, hj => exact hj
      | 4, hj => exact hj
      | 5, hj => exact hj
      | j + 6, hj => simp [lget] at hj⟩
    have hc2 : HCells H3 b10 6 (tyCells y.k y.n y.c y.b (.slice py y.es.length capy) y.nm) := hcells_ob (tyCells x.k x.n x.c x.b (.slice px x.es.length capx) x.nm) hb10
    have hA3 := g3.ag
    have hAg : ∀ w', Ext No w3 w' → Agree H3 w' := fun _ he => hA3.ext0 he
    (refine r109 ?_)
    (refine G_drawX No (.op 0 (.op 1 (.op 2 (.op 3 (.op 5 (.op 6 (.op 7 (.op 4 (.op 8 (.op 9 (.op 10 (.op 11 (.op 12 .nil))))))))))))) [(4, 1), (8, 1), (10, 1), (11, 2)] follows (by kernel_rfl) ?_)
    (repeat (first | (refine cX_guard ?_; refine X_unwanted rfl rfl ?_) | (refine cX_load ?_; first | refine X_val0 (fun w he => R_loadA rfl rfl fun j v hj => (hAg w he).hcell (hc1 j v hj)) rfl rfl ?_ | refine X_val0 (fun w he => R_loadA rfl rfl fun j v hj => (hAg w he).hcell (hc2 j v hj)) rfl rfl ?_) | (refine cX_indexAddr ?_; refine X_val0 (fun _ _ => R_iaArr rfl rfl (by omega) (by omega)) rfl rfl ?_) | refine r111 hAg ?_))
    have hcx : ∀ w', Ext No w3 w' → Calls Tryz.prog 21 #[ptr bB, .agg (tyCells x.k x.n x.c x.b (.slice px x.es.length capx) x.nm).toArray, .slice none 0 0] w' (Ret (TypSays E H3 w' [] x)) := fun w' he =>
      htx _ H3 w' [] [] none 0 (hAg w' he) (hP.mono g3.le) (hbu.mono g3.le) (DTy.mono g3.le _ _ hx) (hd.mono g3.le) rfl rfl (fun i v hv => by simp at hv)
    refine X_call hcx rfl fun w4 vx w5 he4 ⟨H5, g5, hrx, _⟩ => ⟨g5.ext, ?_⟩
    have g35 := g3.trans ((Grow.quiet hA3 he4).trans g5)
    have hAg5 : ∀ w', Ext No w5 w' → Agree H5 w' := fun _ he => g5.ag.ext0 he
    have hcy : ∀ w', Ext No w5 w' → Calls Tryz.prog 21 #[ptr bB, .agg (tyCells y.k y.n y.c y.b (.slice py y.es.length capy) y.nm).toArray, .slice none 0 0] w' (Ret (TypSays E H5 w' [] y)) := fun w' he =>
      hty _ H5 w' [] [] none 0 (hAg5 w' he) (hP.mono g35.le) (hbu.mono g35.le) (DTy.mono g35.le _ _ hy) (hd.mono g35.le) rfl rfl (fun i v hv => by simp at hv)
    refine X_call hcy rfl fun w6 vy w7 he6 ⟨H7, g7, hry, _⟩ => ⟨g7.ext, ?_⟩
    have g57 := g35.trans ((Grow.quiet g5.ag he6).trans g7)
    obtain ⟨Tx, ax, rfl⟩ := hrx.iface
    obtain ⟨Ty', ay, rfl⟩ := hry.iface
    have hrx7 := Rep.mono g7.le _ _ hrx
    (repeat (first | (refine cX_guard ?_; refine X_unwanted rfl rfl ?_) | (refine cX_build ?_; refine X_val0 (fun _ _ => R_buildArr (cs := [.iface Tx (ptr ax), .iface Ty' (ptr ay)]) rfl) rfl rfl ?_) | refine r111 hAg ?_))
    refine X_make rfl rfl fun w8 he8 => ⟨_, _, R_buildSlice (vs := [.agg #[.iface Tx (ptr ax), .iface Ty' (ptr ay)]]) rfl rfl rfl rfl, Ext.alloc w8 _, ?_⟩
    have hn9 := newB_alloc w8 (Ob (flat [.agg #[.iface Tx (ptr ax), .iface Ty' (ptr ay)]]) 73)
    have g78 := g57.trans (Grow.quiet g7.ag he8)
    refine X_pushN (v := .slice none 0 0) (n := 0) (xs := []) (us := [.iface Tx (ptr ax), .iface Ty' (ptr ay)]) rfl (fun w _ => .inl ⟨rfl, rfl, rfl⟩) rfl (fun w he => he.heap (fun x => x) hn9.here) rfl (show 0 < 2 by omega) rfl (show (0 + 1) * 32 ≤ 140737488355328 by omega) (by simp only [maxLen]; omega) rfl fun w10 v11 w11 he10 hpu => ?_
    (refine r112 hAg ?_)
    refine X_nil fun w12 he12 => ?_
    (refine r109 ?_)
    have hx11 : Ext No w10 w11 := hpu.ext.mono fun i _ h => by cases h
    have g9 := g78.trans (Grow.quiet g78.ag (hn9.ext.trans (he10.trans (hx11.trans he12))))
    rcases hpu.own with ⟨-, h0, -⟩ | ⟨g, cap, r, hv, hg, hg1, hg2⟩
    · cases h0
    · subst hv
      refine G_inv ⟨⟨rfl, .inr ⟨_, g, cap, H7, _, _, r, with_self ⟨rfl, rfl, rfl, rfl, rfl, rfl, trivial⟩, g9, hrx7, hry, he12.heap (fun x => x) hg⟩⟩, ?_⟩
      show ((1 : Int) - 1).toNat < ((1 : Int) - 0).toNat
      decide
  · obtain ⟨Tx, ax, rfl⟩ := hrx.iface
    obtain ⟨Ty', ay, rfl⟩ := hry.iface
    have hbH := gr.le _ _ hb1
    have hE' := hE.mono gr.le
    have hAr := gr.ag
    have hAg : ∀ w', Ext No wr w' → Agree H' w' := fun _ he => hAr.ext0 he
    (repeat (first | refine G_exit rfl ?_ | refine r110 ?_))
    (refine G_drawX No (.op 0 (.op 1 (.op 2 (.op 3 (.op 4 (.op 5 (.op 6 (.op 7 (.op 8 (.op 9 (.op 10 (.op 11 (.op 12 .nil))))))))))))) [(7, 1)] follows (by kernel_rfl) ?_)
    (repeat (first | (refine cX_guard ?_; refine X_unwanted rfl rfl ?_) | (refine cX_call ?_; refine X_callQ (fun w he => Is.qt (modeOf_any w hm)) rfl ?_) | refine r111 hAg ?_))
    refine X_call (fun w1 he1 => unify23 w1 (hAg w1 he1) (hb3.mono gr.le) (fun a ha => hE'.pl a ha) hE'.pn h8 hmu (he1.heap (fun x => x) hg) (fun u hm M hu hH s _ _ hs => hnf H' _ _ gr.le hrx hry u hm M hu hH s hs)) rfl fun w1 v w2 he1 ⟨vo, gi, r, s, hv, hown, hgi, hsl, ⟨hr, hnil⟩, x2⟩ => ⟨x2, ?_⟩
    subst hv
    subst hr
    have hAg2 : ∀ w', Ext No w2 w' → Agree H' w' := fun _ he => (hAg w1 he1).ext0 (x2.trans he)
    (refine r112 hAg2 ?_)
    refine X_nil fun w3 he3 => ?_
    have hown3 := hown.ext he3 (fun _ _ h => h)
    have hgi3 := he3.heap (fun x => x) hgi
    have x03 : Ext No w w3 := gr.ext.trans (he1.trans (x2.trans he3))
    rcases hown3 with ⟨-, h0⟩ | ⟨go, co, ro, rfl, hgo, hgo2⟩
    · cases h0
    (refine r109 ?_)
    refine G_loop (fun f ds0 w0 => ds0 = [] ∧ ∃ (f0 : Fm) (i : Nat) (va : Value), f = with_ [(48, .int .i64 (i : Int)), (47, .int .i64 (E.params.length : Int)), (1, .slice (some ⟨gp, 0, none⟩) 1 pc), (11, .slice (some ⟨go, 0, none⟩) 1 co), (13, va), (46, .slice (some ⟨gi, 0, none⟩) E.params.length E.params.length)] f0 ∧ i ≤ E.params.length ∧
        Ext No w3 w0 ∧ OwnN w0 34 7 va i (zInfs i) ∧ (∀ b, va.ownBlock = some b → w3.heap.size ≤ b)) (fun f _ _ => countM 48 47 f)
      ⟨rfl, _, 0, .slice none 0 0, with_self ⟨rfl, rfl, rfl, rfl, rfl, rfl, trivial⟩, Nat.zero_le _, Ext.refl _ _, .inl ⟨rfl, rfl, rfl⟩, fun b hb => by cases hb⟩ ?_
    rintro f ds0 wl ⟨rfl, f1, i, va, rfl, hi, hxl, hva, hvb⟩
    have hgil := hxl.heap (fun x => x) hgi3
    by_cases h : i < E.params.length
    · have hb : decide ((i : Int) < (E.params.length : Int)) = true := decide_eq_true (by omega)
      obtain ⟨hd', hh⟩ : ∃ v, s.hs[i]? = some v := ⟨_, List.getElem?_eq_getElem (by omega)⟩
      have hget : lget (s.hs.map s.val) i = some .nilIface := by
        rw [lget_eq, List.getElem?_map, hh]
        simp [hnil hd' (List.mem_of_getElem? hh)]
      (repeat (first | (refine cL ?_; first | (refine cL_guard ?_; refine L_unwanted rfl rfl rfl ?_) | (refine cL_load ?_; refine L_val (R_loadB rfl hgil hget) rfl rfl rfl ?_) | (refine cL_lss ?_; refine L_valB (R_ltI rfl rfl) hb rfl rfl rfl ?_) | (refine cL_indexAddr ?_; refine L_valE (R_ia rfl rfl (by omega) (by omega)) (ia0 _ _) rfl rfl rfl ?_) | (refine cL_build ?_; refine L_val (R_build (cs := zInf) rfl) rfl rfl rfl ?_)) | refine r110 ?_))
      refine L_buildSlice (vs := [.agg zInf.toArray]) rfl rfl rfl rfl rfl rfl fun b5 w5 hn5 => ?_
      refine L_pushN (v := va) (m := i) (xs := zInfs i) (us := zInf) rfl (hva.ext hn5.ext (fun _ _ h => h)) rfl hn5.here rfl (show 0 < 7 by omega) rfl (show (i + 1) * 80 ≤ 140737488355328 by omega) (by simp only [maxLen]; omega) rfl rfl fun v6 w6 hpu => ?_
      (repeat (first | (refine cL ?_; first | (refine cL_guard ?_; refine L_unwanted rfl rfl rfl ?_) | (refine cL_add ?_; refine L_valE (R_addI rfl rfl) (succ_i64 h (by omega)) rfl rfl rfl ?_)) | refine r110 ?_))
      have hx6 : Ext No w3 w6 := (hxl.trans hn5.ext).trans_new hpu.ext fun j hj hm' => by have := hvb j hm'.symm; omega
      refine G_inv ⟨⟨rfl, _, i + 1, v6, with_self ⟨rfl, rfl, rfl, rfl, rfl, rfl, trivial⟩, h, hx6, hpu.own, fun b hb => ?_⟩, ?_⟩
      · rcases hpu.blk with e | e
        · exact hvb b (e ▸ hb)
        · rw [e] at hb
          injection hb with hb
          have := hn5.ext.size
          have := hxl.size
          omega
      · show ((E.params.length : Int) - ((i + 1 : Nat) : Int)).toNat < ((E.params.length : Int) - (i : Int)).toNat
        omega
    · have hb : decide ((i : Int) < (E.params.length : Int)) = false := decide_eq_false (by omega)
      have hil : i = E.params.length := by omega
      subst hil
      have hgol := hxl.heap (fun x => x) hgo
      (repeat (first | (refine cL ?_; first | (refine cL_guard ?_; refine L_unwanted rfl rfl rfl ?_) | (refine cL_lss ?_; refine L_valB (R_ltI rfl rfl) hb rfl rfl rfl ?_)) | refine G_exit rfl ?_ | refine r110 ?_))
      (refine G_draw No (0 :: 1 :: 2 :: 3 :: 4 :: 5 :: 6 :: 7 :: 8 :: 9 :: 10 :: 11 :: 12 :: 13 :: 14 :: 15 :: []) [] follows (by kernel_rfl) rfl ?_)
      (repeat (first | (refine cD_guard ?_; refine D_unwanted rfl rfl ?_) | (refine cD_load ?_; refine D_val0 (fun w he => R_loadB rfl (he.heap (fun x => x) hgol) rfl) rfl rfl ?_) | (refine cD_eql ?_; refine D_valE (fun _ _ => R_eqI rfl rfl) (v' := .bool true) rfl rfl rfl ?_) | (refine cD_indexAddr ?_; refine D_val0 (fun _ _ => R_ia rfl rfl (by decide) (by decide)) rfl rfl ?_) | (refine cD_sub ?_; refine D_valE (fun _ _ => R_subI rfl rfl) (v' := .int .i64 0) rfl rfl rfl ?_) | refine r113 hAg ?_))
      refine D_nil fun w9 he9 => ?_
      (refine r109 ?_)
      refine G_ret2 rfl ?_
      exact ⟨_, rfl, va, rfl, hva.ext he9 (fun _ _ h => h), x03.trans (hxl.trans he9)⟩
end Go.Proofs.YthcllcmnhoaniaaGreatDoor

/-
  The thin package's 'Unify' on one type twice.
-/
namespace Go.Proofs.YthcllcmnhoaniaaGreatDoor
set_option maxRecDepth 100000
set_option maxHeartbeats 4000000
attribute [local irreducible] Calls execOp

theorem r114 {G G' : Prop} (k : G') (h : Hid G' → G := by intro k_; (repeat (first | (refine cL ?_; first | (refine cL_move ?_; refine L_val R_move rfl rfl rfl ?_) | (refine cL_load ?_; first | refine L_val (R_loadB rfl (by assumption) (by rfl)) rfl rfl rfl ?_ | refine L_val (R_loadH (by assumption) rfl (by assumption) (by rfl)) rfl rfl rfl ?_) | (refine cL_assign ?_; refine L_val R_assign rfl rfl rfl ?_) | (refine cL_extract ?_; refine L_val (R_extract rfl rfl) rfl rfl rfl ?_) | refine L_nil ?_) | refine G_seq ?_ | refine G_region ?_ | refine G_skip ?_ | refine G_block ?_ | refine G_end ?_ | refine G_true rfl ?_ | refine G_false rfl ?_)); exact k_.out) : G := h ⟨k⟩
theorem r115 {G G' A : Prop} (ag : A) (k : G') (h : Hid G' → A → G := by intro k_ ag_; (first | (refine cX_move ?_; first | refine X_val0 (fun _ _ => R_move) rfl rfl ?_ | refine X_pure (fun _ => R_move) rfl rfl ?_) | (refine cX_load ?_; refine X_val0 (fun w he => R_loadH (ag_ w he) rfl (by assumption) (by rfl)) rfl rfl ?_) | (refine cX_assign ?_; first | refine X_val0 (fun _ _ => R_assign) rfl rfl ?_ | refine X_pure (fun _ => R_assign) rfl rfl ?_) | (refine cX_extract ?_; first | refine X_val0 (fun _ _ => R_extract rfl rfl) rfl rfl ?_ | refine X_pure (fun _ => R_extract rfl rfl) rfl rfl ?_)); exact k_.out) : G := h ⟨k⟩ ag
theorem r116 {G G' A : Prop} (ag : A) (k : G') (h : Hid G' → A → G := by intro k_ ag_; (repeat (first | (refine cX_move ?_; first | refine X_val0 (fun _ _ => R_move) rfl rfl ?_ | refine X_pure (fun _ => R_move) rfl rfl ?_) | (refine cX_load ?_; refine X_val0 (fun w he => R_loadH (ag_ w he) rfl (by assumption) (by rfl)) rfl rfl ?_) | (refine cX_assign ?_; first | refine X_val0 (fun _ _ => R_assign) rfl rfl ?_ | refine X_pure (fun _ => R_assign) rfl rfl ?_) | (refine cX_extract ?_; first | refine X_val0 (fun _ _ => R_extract rfl rfl) rfl rfl ?_ | refine X_pure (fun _ => R_extract rfl rfl) rfl rfl ?_))); exact k_.out) : G := h ⟨k⟩ ag

theorem implUnify_same {H : Hp} {ds : List (Int × Ty)} {p : Option Addr} {dcap : Nat} {params m : Int} {x : Ty} {cx : List Value} (w : World) (hA : Agree H w) (hP : Props H) (hd : DDl H ds p) (hx : DTy H x cx) (hv : ValidD ds params [x]) (hm : m = 0 ∨ m = 1 ∨ m = 2) :
    Calls Tryz.prog 6 #[.slice p ds.length dcap, .int .i64 params, .agg cx.toArray, .agg cx.toArray, .int .i64 m] w
      (Ret fun v w' => ∃ vo, v = .tuple #[vo, .bool true] ∧ OwnN w' 34 7 vo params.toNat (zInfs params.toNat) ∧ Ext No w w') := by
  have hV : DeclsV ds := fun n d hn => let ⟨h1, _, h3, h4, h5⟩ := hv.dd n d hn; ⟨h1, h3, h4, h5⟩
  obtain ⟨hx1, hx2⟩ := hv.tt x (by simp)
  obtain ⟨px, capx, hcx, -⟩ := hx.cells
  subst hcx
  have hbs : ∀ (w3 : World) (H3 : Hp) (bB : Nat) (E : Env) (gp pc : Nat), Grow H w H3 w3 → BuIs E H3 ds p dcap bB → (E.params.length : Int) = params → E.decls.length = ds.length → EnvOK E H3 →
      H3 gp = some (Ob (tyCells x.k x.n x.c x.b (.slice px x.es.length capx) x.nm ++ tyCells x.k x.n x.c x.b (.slice px x.es.length capx) x.nm) 47) →
      Calls Tryz.prog 12 #[ptr bB, .slice (some ⟨gp, 0, none⟩) 1 pc, .int .i64 m] w3
        (Ret fun v w' => ∃ vo, v = .tuple #[vo, .bool true] ∧ OwnN w' 34 7 vo E.params.length (zInfs E.params.length) ∧ Ext No w3 w') := by
    intro w3 H3 bB E gp pc g3 hbu hpl hdl hE hgp
    have hp8 := hv.p8
    have htk : ds.take ds.length = ds := List.take_length
    have hTx := typB_any (E := E) (p := p) (dcap := dcap) (bB := bB) hV ds.length (by omega) x params 0 hv.p0 (by omega) (Int.le_refl 0) (by rw [htk]; exact hx1)
    have hx3 := DTy.mono g3.le _ _ hx
    refine bunify_nil w3 g3.ag (hP.mono g3.le) hbu hx3 hx3 (hd.mono g3.le) hTx hTx hE (by omega) hm hgp ?_
    intro H' vx vy hle hrx hry u hm' M hu hH s hs
    rw [substT_closed x hx1] at hrx hry
    obtain ⟨mq, hmq⟩ : ∃ mq, Md (uMode m) mq := by
      rcases hm with rfl | rfl | rfl
      · exact ⟨2, by simp [Md, uMode]⟩
      · exact ⟨3, by simp [Md, uMode]⟩
      · exact ⟨0, by simp [Md, uMode]⟩
    exact (nify_same x (mkUC H' E.params u hm' M hu hH) s 0 (uMode m) mq vx vy (hE.mono hle) (hP.mono (Hp.le_trans g3.le hle)) hmq hrx hry (by omega)).mono (by rintro r s' ⟨rfl, rfl⟩; exact ⟨rfl, hs⟩)
  have hV8 := hv.p8
  (refine calls_enter Tryz.func6 Tryz.ntmps6 rfl rfl ?_)
  (refine r114 ?_)
  refine L_box rfl rfl rfl fun b7 w1 hn1 => ?_
  refine L_box rfl rfl rfl fun b8 w2 hn2 => ?_
  obtain ⟨H1, g1, hb7⟩ := Grow.ofNew hA hn1
  obtain ⟨H2, g2, hb8⟩ := Grow.ofNew g1.ag hn2
  have g12 := g1.trans g2
  have hb7 := g2.le _ _ hb7
  have hA2 := g12.ag
  have hAg : ∀ w', Ext No w2 w' → Agree H2 w' := fun _ he => hA2.ext0 he
  (refine r114 ?_)
  (refine G_drawX No (.op 0 (.op 1 (.op 3 (.op 4 (.op 5 (.op 7 (.fork (.op 2 (.op 6 (.op 8 (.op 9 (.op 10 (.op 11 (.op 12 .nil))))))) (.op 6 (.op 2 (.op 8 (.op 9 (.op 10 (.op 11 (.op 12 .nil)))))))))))))) [(2, 1), (6, 1), (8, 1)] follows (by kernel_rfl) ?_)
  (repeat (first | (refine cX_load ?_; first | refine X_val0 (fun w he => R_loadAB rfl rfl ((hAg w he) _ _ hb7)) rfl rfl ?_ | refine X_val0 (fun w he => R_loadAB rfl rfl ((hAg w he) _ _ hb8)) rfl rfl ?_) | (refine cX_build ?_; refine X_val0 (fun _ _ => R_buildArr (cs := tyCells x.k x.n x.c x.b (.slice px x.es.length capx) x.nm ++ tyCells x.k x.n x.c x.b (.slice px x.es.length capx) x.nm) rfl) rfl rfl ?_) | refine r115 hAg ?_))
  refine X_fork ?_ ?_
  · refine X_call (fun w' he => buildI_any w' (hAg w' he) (hP.mono g12.le) (hd.mono g12.le) hV hv.p0 hv.p8 hv.d16) rfl fun w3 v w4 he3 ⟨bB, E, H4, hv4, g4, hbu, hpl, hdl, hE⟩ => ⟨g4.ext, ?_⟩
    subst hv4
    refine X_make rfl rfl fun w5 he5 => ⟨_, _, R_buildSlice (vs := [.agg (tyCells x.k x.n x.c x.b (.slice px x.es.length capx) x.nm ++ tyCells x.k x.n x.c x.b (.slice px x.es.length capx) x.nm).toArray]) rfl rfl rfl rfl, Ext.alloc w5 _, ?_⟩
    have hn6 := newB_alloc w5 (Ob (flat [.agg (tyCells x.k x.n x.c x.b (.slice px x.es.length capx) x.nm ++ tyCells x.k x.n x.c x.b (.slice px x.es.length capx) x.nm).toArray]) 47)
    have gA := (g12.trans (Grow.quiet hA2 he3)).trans (g4.trans (Grow.quiet g4.ag he5))
    obtain ⟨H6, g6, hgp⟩ := Grow.ofNew gA.ag hn6
    have gB := gA.trans g6
    refine X_call (fun w' he => hbs w' H6 bB E _ _ (gB.trans (Grow.quiet gB.ag he)) (hbu.mono g6.le) hpl hdl (hE.mono g6.le) hgp) rfl fun w7 v w8 he7 ⟨vo, hv8, hown, x8⟩ => ⟨x8, ?_⟩
    subst hv8
    (refine r116 hAg ?_)
    refine X_nil fun w9 he9 => ?_
    (refine r114 ?_)
    refine G_ret2 rfl ?_
    have hnn : params.toNat = E.params.length := by omega
    rw [hnn]
    exact ⟨_, rfl, vo, rfl, hown.ext he9 (fun _ _ h => h), gB.ext.trans (he7.trans (x8.trans he9))⟩
  · refine X_make rfl rfl fun w5 he5 => ⟨_, _, R_buildSlice (vs := [.agg (tyCells x.k x.n x.c x.b (.slice px x.es.length capx) x.nm ++ tyCells x.k x.n x.c x.b (.slice px x.es.length capx) x.nm).toArray]) rfl rfl rfl rfl, Ext.alloc w5 _, ?_⟩
    have hn6 := newB_alloc w5 (Ob (flat [.agg (tyCells x.k x.n x.c x.b (.slice px x.es.length capx) x.nm ++ tyCells x.k x.n x.c x.b (.slice px x.es.length capx) x.nm).toArray]) 47)
    have gA := g12.trans (Grow.quiet hA2 he5)
    obtain ⟨H6, g6, hgp⟩ := Grow.ofNew gA.ag hn6
    have gB := gA.trans g6
    refine X_call (fun w' he => buildI_any w' (gB.ag.ext0 he) (hP.mono gB.le) (hd.mono gB.le) hV hv.p0 hv.p8 hv.d16) rfl fun w3 v w4 he3 ⟨bB, E, H4, hv4, g4, hbu, hpl, hdl, hE⟩ => ⟨g4.ext, ?_⟩
    subst hv4
    have gC := (gB.trans (Grow.quiet gB.ag he3)).trans g4
    refine X_call (fun w' he => hbs w' H4 bB E _ _ (gC.trans (Grow.quiet gC.ag he)) hbu hpl hdl hE (g4.le _ _ hgp)) rfl fun w7 v w8 he7 ⟨vo, hv8, hown, x8⟩ => ⟨x8, ?_⟩
    subst hv8
    (refine r116 hAg ?_)
    refine X_nil fun w9 he9 => ?_
    (refine r114 ?_)
    refine G_ret2 rfl ?_
    have hnn : params.toNat = E.params.length := by omega
    rw [hnn]
    exact ⟨_, rfl, vo, rfl, hown.ext he9 (fun _ _ h => h), gC.ext.trans (he7.trans (x8.trans he9))⟩
end Go.Proofs.YthcllcmnhoaniaaGreatDoor

/-
  FnItself: the law's own walk.
-/
namespace Go.Proofs.YthcllcmnhoaniaaGreatDoor
set_option maxRecDepth 100000
set_option maxHeartbeats 4000000
attribute [local irreducible] Calls execOp

theorem r117 {G G' : Prop} (k : G') (h : Hid G' → G := by intro k_; (repeat (first | (refine cL ?_; first | (refine cL_guard ?_; refine L_unwanted rfl rfl rfl ?_) | (refine cL_move ?_; refine L_val R_move rfl rfl rfl ?_) | (refine cL_load ?_; first | refine L_val (R_loadB rfl (by assumption) (by rfl)) rfl rfl rfl ?_ | refine L_val (R_loadH (by assumption) rfl (by assumption) (by rfl)) rfl rfl rfl ?_) | (refine cL_fieldAddr ?_; refine L_val (R_fa rfl) rfl rfl rfl ?_) | (refine cL_assign ?_; refine L_val R_assign rfl rfl rfl ?_) | (refine cL_extract ?_; refine L_val (R_extract rfl rfl) rfl rfl rfl ?_) | (refine cL_call ?_; refine L_val (R_len rfl) rfl rfl rfl ?_) | (refine cL_pick ?_; first | refine L_val (R_pickT rfl) rfl rfl rfl ?_ | refine L_val (R_pickF rfl) rfl rfl rfl ?_) | (refine cL_eql ?_; first | refine L_val (R_eqPN rfl rfl) rfl rfl rfl ?_ | refine L_val (R_eqI rfl rfl) rfl rfl rfl ?_ | refine L_val (R_eqB rfl rfl) rfl rfl rfl ?_ | refine L_val (R_eqIfN rfl rfl) rfl rfl rfl ?_ | refine L_val (R_eqIfNN rfl) rfl rfl rfl ?_) | (refine cL_lss ?_; refine L_val (R_ltI rfl rfl) rfl rfl rfl ?_) | (refine cL_not ?_; refine L_val (R_not rfl) rfl rfl rfl ?_) | (refine cL_add ?_; refine L_val (R_addI rfl rfl) rfl rfl rfl ?_) | (refine cL_gtr ?_; refine L_val (R_gtI rfl rfl) rfl rfl rfl ?_) | refine L_nil ?_) | refine G_seq ?_ | refine G_region ?_ | refine G_skip ?_ | refine G_block ?_ | refine G_end ?_ | refine G_true rfl ?_ | refine G_false rfl ?_)); exact k_.out) : G := h ⟨k⟩
theorem r118 {G G' : Prop} (k : G') (h : Hid G' → G := by intro k_; (first | (refine cL ?_; first | (refine cL_guard ?_; refine L_unwanted rfl rfl rfl ?_) | (refine cL_move ?_; refine L_val R_move rfl rfl rfl ?_) | (refine cL_load ?_; first | refine L_val (R_loadB rfl (by assumption) (by rfl)) rfl rfl rfl ?_ | refine L_val (R_loadH (by assumption) rfl (by assumption) (by rfl)) rfl rfl rfl ?_) | (refine cL_fieldAddr ?_; refine L_val (R_fa rfl) rfl rfl rfl ?_) | (refine cL_assign ?_; refine L_val R_assign rfl rfl rfl ?_) | (refine cL_extract ?_; refine L_val (R_extract rfl rfl) rfl rfl rfl ?_) | (refine cL_call ?_; refine L_val (R_len rfl) rfl rfl rfl ?_) | (refine cL_pick ?_; first | refine L_val (R_pickT rfl) rfl rfl rfl ?_ | refine L_val (R_pickF rfl) rfl rfl rfl ?_) | (refine cL_eql ?_; first | refine L_val (R_eqPN rfl rfl) rfl rfl rfl ?_ | refine L_val (R_eqI rfl rfl) rfl rfl rfl ?_ | refine L_val (R_eqB rfl rfl) rfl rfl rfl ?_ | refine L_val (R_eqIfN rfl rfl) rfl rfl rfl ?_ | refine L_val (R_eqIfNN rfl) rfl rfl rfl ?_) | (refine cL_lss ?_; refine L_val (R_ltI rfl rfl) rfl rfl rfl ?_) | (refine cL_not ?_; refine L_val (R_not rfl) rfl rfl rfl ?_) | (refine cL_add ?_; refine L_val (R_addI rfl rfl) rfl rfl rfl ?_) | (refine cL_gtr ?_; refine L_val (R_gtI rfl rfl) rfl rfl rfl ?_) | refine L_nil ?_) | refine G_seq ?_ | refine G_region ?_ | refine G_skip ?_ | refine G_block ?_ | refine G_end ?_ | refine G_true rfl ?_ | refine G_false rfl ?_); exact k_.out) : G := h ⟨k⟩
theorem r119 {G G' A : Prop} (ag : A) (k : G') (h : Hid G' → A → G := by intro k_ ag_; (first | (refine cX_guard ?_; refine X_unwanted rfl rfl ?_) | (refine cX_move ?_; first | refine X_val0 (fun _ _ => R_move) rfl rfl ?_ | refine X_pure (fun _ => R_move) rfl rfl ?_) | (refine cX_load ?_; refine X_val0 (fun w he => R_loadH (ag_ w he) rfl (by assumption) (by rfl)) rfl rfl ?_) | (refine cX_fieldAddr ?_; first | refine X_val0 (fun _ _ => R_fa rfl) rfl rfl ?_ | refine X_pure (fun _ => R_fa rfl) rfl rfl ?_) | (refine cX_assign ?_; first | refine X_val0 (fun _ _ => R_assign) rfl rfl ?_ | refine X_pure (fun _ => R_assign) rfl rfl ?_) | (refine cX_extract ?_; first | refine X_val0 (fun _ _ => R_extract rfl rfl) rfl rfl ?_ | refine X_pure (fun _ => R_extract rfl rfl) rfl rfl ?_) | (refine cX_call ?_; first | refine X_val0 (fun _ _ => R_len rfl) rfl rfl ?_ | refine X_pure (fun _ => R_len rfl) rfl rfl ?_) | (refine cX_pick ?_; first | refine X_val0 (fun _ _ => R_pickT rfl) rfl rfl ?_ | refine X_pure (fun _ => R_pickT rfl) rfl rfl ?_ | refine X_val0 (fun _ _ => R_pickF rfl) rfl rfl ?_ | refine X_pure (fun _ => R_pickF rfl) rfl rfl ?_) | (refine cX_eql ?_; first | refine X_val0 (fun _ _ => R_eqPN rfl rfl) rfl rfl ?_ | refine X_pure (fun _ => R_eqPN rfl rfl) rfl rfl ?_ | refine X_val0 (fun _ _ => R_eqI rfl rfl) rfl rfl ?_ | refine X_pure (fun _ => R_eqI rfl rfl) rfl rfl ?_ | refine X_val0 (fun _ _ => R_eqB rfl rfl) rfl rfl ?_ | refine X_pure (fun _ => R_eqB rfl rfl) rfl rfl ?_ | refine X_val0 (fun _ _ => R_eqIfN rfl rfl) rfl rfl ?_ | refine X_pure (fun _ => R_eqIfN rfl rfl) rfl rfl ?_ | refine X_val0 (fun _ _ => R_eqIfNN rfl) rfl rfl ?_ | refine X_pure (fun _ => R_eqIfNN rfl) rfl rfl ?_) | (refine cX_lss ?_; first | refine X_val0 (fun _ _ => R_ltI rfl rfl) rfl rfl ?_ | refine X_pure (fun _ => R_ltI rfl rfl) rfl rfl ?_) | (refine cX_not ?_; first | refine X_val0 (fun _ _ => R_not rfl) rfl rfl ?_ | refine X_pure (fun _ => R_not rfl) rfl rfl ?_) | (refine cX_add ?_; first | refine X_val0 (fun _ _ => R_addI rfl rfl) rfl rfl ?_ | refine X_pure (fun _ => R_addI rfl rfl) rfl rfl ?_) | (refine cX_gtr ?_; first | refine X_val0 (fun _ _ => R_gtI rfl rfl) rfl rfl ?_ | refine X_pure (fun _ => R_gtI rfl rfl) rfl rfl ?_)); exact k_.out) : G := h ⟨k⟩ ag
theorem r120 {G G' A : Prop} (ag : A) (k : G') (h : Hid G' → A → G := by intro k_ ag_; (repeat (first | (refine cX_guard ?_; refine X_unwanted rfl rfl ?_) | (refine cX_move ?_; first | refine X_val0 (fun _ _ => R_move) rfl rfl ?_ | refine X_pure (fun _ => R_move) rfl rfl ?_) | (refine cX_load ?_; refine X_val0 (fun w he => R_loadH (ag_ w he) rfl (by assumption) (by rfl)) rfl rfl ?_) | (refine cX_fieldAddr ?_; first | refine X_val0 (fun _ _ => R_fa rfl) rfl rfl ?_ | refine X_pure (fun _ => R_fa rfl) rfl rfl ?_) | (refine cX_assign ?_; first | refine X_val0 (fun _ _ => R_assign) rfl rfl ?_ | refine X_pure (fun _ => R_assign) rfl rfl ?_) | (refine cX_extract ?_; first | refine X_val0 (fun _ _ => R_extract rfl rfl) rfl rfl ?_ | refine X_pure (fun _ => R_extract rfl rfl) rfl rfl ?_) | (refine cX_call ?_; first | refine X_val0 (fun _ _ => R_len rfl) rfl rfl ?_ | refine X_pure (fun _ => R_len rfl) rfl rfl ?_) | (refine cX_pick ?_; first | refine X_val0 (fun _ _ => R_pickT rfl) rfl rfl ?_ | refine X_pure (fun _ => R_pickT rfl) rfl rfl ?_ | refine X_val0 (fun _ _ => R_pickF rfl) rfl rfl ?_ | refine X_pure (fun _ => R_pickF rfl) rfl rfl ?_) | (refine cX_eql ?_; first | refine X_val0 (fun _ _ => R_eqPN rfl rfl) rfl rfl ?_ | refine X_pure (fun _ => R_eqPN rfl rfl) rfl rfl ?_ | refine X_val0 (fun _ _ => R_eqI rfl rfl) rfl rfl ?_ | refine X_pure (fun _ => R_eqI rfl rfl) rfl rfl ?_ | refine X_val0 (fun _ _ => R_eqB rfl rfl) rfl rfl ?_ | refine X_pure (fun _ => R_eqB rfl rfl) rfl rfl ?_ | refine X_val0 (fun _ _ => R_eqIfN rfl rfl) rfl rfl ?_ | refine X_pure (fun _ => R_eqIfN rfl rfl) rfl rfl ?_ | refine X_val0 (fun _ _ => R_eqIfNN rfl) rfl rfl ?_ | refine X_pure (fun _ => R_eqIfNN rfl) rfl rfl ?_) | (refine cX_lss ?_; first | refine X_val0 (fun _ _ => R_ltI rfl rfl) rfl rfl ?_ | refine X_pure (fun _ => R_ltI rfl rfl) rfl rfl ?_) | (refine cX_not ?_; first | refine X_val0 (fun _ _ => R_not rfl) rfl rfl ?_ | refine X_pure (fun _ => R_not rfl) rfl rfl ?_) | (refine cX_add ?_; first | refine X_val0 (fun _ _ => R_addI rfl rfl) rfl rfl ?_ | refine X_pure (fun _ => R_addI rfl rfl) rfl rfl ?_) | (refine cX_gtr ?_; first | refine X_val0 (fun _ _ => R_gtI rfl rfl) rfl rfl ?_ | refine X_pure (fun _ => R_gtI rfl rfl) rfl rfl ?_))); exact k_.out) : G := h ⟨k⟩ ag

theorem lget_zInfs : ∀ (n i j : Nat) (r : List Value), i < n → j < 7 → lget (zInfs n ++ r) (i * 7 + j) = lget zInf j := by
  have hl : ∀ n, (zInfs n).length = n * 7 := by
    intro n
    induction n with
    | zero => rfl
    | succ n ih => simp only [zInfs, List.length_append, ih]; simp [zInf]; omega
  intro n
  induction n with
  | zero => intro i j r h; omega
  | succ n ih =>
    intro i j r h hj
    simp only [zInfs, List.append_assoc]
    by_cases hi : i < n
    · exact ih i j _ hi hj
    · have hin : i = n := by omega
      subst hin
      rw [lget_eq, List.getElem?_append_right (by rw [hl]; omega), hl, List.getElem?_append_left (by simp [zInf]; omega), ← lget_eq]
      congr 1
      omega

theorem law_itself {H : Hp} {ds : List (Int × Ty)} {p : Option Addr} {dcap : Nat} {params n : Int} {x : Ty} {cx : List Value} (w : World) (hA : Agree H w) (hP : Props H) (hd : DDl H ds p) (hx : DTy H x cx) (hdc : ds.length ≤ dcap) (hdl : ds.length < 9223372036854775808) :
    Calls Tryz.prog 3 #[.slice p ds.length dcap, .int .i64 params, .agg cx.toArray, .int .i64 n] w (Ret (Qt (.bool true) w)) := by
  obtain ⟨px, capx, hcx, -⟩ := hx.cells
  subst hcx
  (refine calls_enter Tryz.func3 Tryz.ntmps3 rfl rfl ?_)
  (refine r117 ?_)
  refine L_box rfl rfl rfl fun b6 w1 hn1 => ?_
  obtain ⟨H1, g, hb6⟩ := Grow.ofNew hA hn1
  have hA2 := g.ag
  have hx2 := DTy.mono g.le _ _ hx
  cases c1 : decide ((ds.length : Int) > 2147483647) with
  | true =>
    (repeat (first | (refine cL ?_; first | (refine cL_guard ?_; refine L_unwanted rfl rfl rfl ?_) | (refine cL_gtr ?_; refine L_valB (R_gtI rfl rfl) c1 rfl rfl rfl ?_)) | refine r118 ?_))
    (refine G_retF rfl ?_)
    exact ⟨_, rfl, rfl, g.ext⟩
  | false =>
  have hf1 := fits_any w1 hA2 hx2
  cases c2 : fitsB x with
  | false =>
    rw [c2] at hf1
    (repeat (first | (refine cL ?_; first | (refine cL_guard ?_; refine L_unwanted rfl rfl rfl ?_) | (refine cL_load ?_; refine L_val (R_loadAB rfl rfl (hA2 _ _ hb6)) rfl rfl rfl ?_) | (refine cL_gtr ?_; refine L_valB (R_gtI rfl rfl) c1 rfl rfl rfl ?_)) | refine r118 ?_))
    refine L_callQ hf1 rfl rfl fun w3 hw3 => ?_
    (refine r117 ?_)
    (refine G_retF rfl ?_)
    exact ⟨_, rfl, rfl, g.ext.trans hw3⟩
  | true =>
  rw [c2] at hf1
  (repeat (first | (refine cL ?_; first | (refine cL_guard ?_; refine L_unwanted rfl rfl rfl ?_) | (refine cL_load ?_; refine L_val (R_loadAB rfl rfl (hA2 _ _ hb6)) rfl rfl rfl ?_) | (refine cL_gtr ?_; refine L_valB (R_gtI rfl rfl) c1 rfl rfl rfl ?_)) | refine r118 ?_))
  refine L_callQ hf1 rfl rfl fun w3 hw3 => ?_
  have hA3 := hA2.ext0 hw3
  (repeat (first | (refine cL ?_; first | (refine cL_guard ?_; refine L_unwanted rfl rfl rfl ?_) | (refine cL_load ?_; refine L_val (R_loadAB rfl rfl (hA3 _ _ hb6)) rfl rfl rfl ?_)) | refine r118 ?_))
  refine L_buildSlice (vs := [.agg (tyCells x.k x.n x.c x.b (.slice px x.es.length capx) x.nm).toArray]) rfl rfl rfl rfl rfl rfl fun b4 w4 hn4 => ?_
  obtain ⟨H4, g4, hbs⟩ := Grow.ofNew hA3 hn4
  have hle4 := Hp.le_trans g.le g4.le
  have hds := dsl_one (DTy.mono hle4 _ _ hx) hbs
  (refine r117 ?_)
  refine L_callR (valid_any (ts := [x]) w4 g4.ag (hd.mono hle4) hds hdc hdl (by simp)) rfl rfl fun v w5 ⟨b, hv, x5, hval⟩ => ?_
  subst hv
  have hA5 : Agree H4 w5 := g4.ag.ext0 x5
  have hb6' := g4.le _ _ hb6
  have hxx : Ext No w w5 := g.ext.trans (hw3.trans (g4.ext.trans x5))
  cases b with
  | false =>
    (refine r117 ?_)
    (refine G_retF rfl ?_)
    exact ⟨_, rfl, rfl, hxx⟩
  | true =>
    have hV := hval rfl
    have hAg5 : ∀ w', Ext No w5 w' → Agree H4 w' := fun _ he => hA5.ext0 he
    (refine r117 ?_)
    (refine G_drawX No (.op 0 (.op 1 (.op 2 (.op 3 (.op 4 (.op 5 (.op 6 (.op 7 (.op 8 (.op 9 (.op 10 (.op 11 .nil)))))))))))) [(5, 1), (6, 1)] follows (by kernel_rfl) ?_)
    (repeat (first | (refine cX_guard ?_; refine X_unwanted rfl rfl ?_) | (refine cX_load ?_; refine X_val0 (fun w he => R_loadAB rfl rfl ((hAg5 w he) _ _ hb6')) rfl rfl ?_) | refine r119 hAg5 ?_))
    refine X_call (fun w he => place_any n w) rfl fun w6 v w7 he6 ⟨m, hv, hm, hw7⟩ => ⟨by rw [hw7]; exact Ext.refl _ _, ?_⟩
    subst hv
    subst hw7
    refine X_call (fun w' he => implUnify_same w' (hAg5 w' (he6.trans he)) (hP.mono hle4) (hd.mono hle4) (DTy.mono hle4 _ _ hx) hV hm) rfl fun w8 v w9 he8 ⟨vo, hv, hown, x9⟩ => ⟨x9, ?_⟩
    subst hv
    (refine r120 hAg5 ?_)
    refine X_nil fun w10 he10 => ?_
    have hown10 := hown.ext he10 (fun _ _ h => h)
    have x10 : Ext No w w10 := hxx.trans (he6.trans (he8.trans (x9.trans he10)))
    have hp0 := hV.p0
    have hp8 := hV.p8
    obtain ⟨np, hnp⟩ : ∃ np, params.toNat = np := ⟨_, rfl⟩
    rw [hnp] at hown10
    obtain ⟨q, c, rr, hvo, hcell⟩ : ∃ q c rr, vo = .slice q np c ∧ (0 < np → ∃ g, q = some ⟨g, 0, none⟩ ∧ w10.heap[g]? = some (Ob (zInfs np ++ rr) 34)) := by
      rcases hown10 with ⟨h1, h2, -⟩ | ⟨g, cap, r, h1, h2, -, -⟩
      · subst h2
        exact ⟨none, 0, [], h1, fun h => by omega⟩
      · exact ⟨_, cap, r, h1, fun _ => ⟨g, rfl, h2⟩⟩
    subst hvo
    (refine r117 ?_)
    refine G_loop (fun f ds0 w0 => ds0 = [] ∧ ∃ (f0 : Fm) (i : Nat), f = with_ [(39, .int .i64 (i : Int)), (38, .int .i64 (np : Int)), (1, .int .i64 params), (9, .slice q np c), (10, .bool true), (37, .slice q np c)] f0 ∧ i ≤ np ∧ Ext No w10 w0) (fun f _ _ => countM 39 38 f)
      ⟨rfl, _, 0, with_self ⟨rfl, rfl, rfl, rfl, rfl, rfl, trivial⟩, Nat.zero_le _, Ext.refl _ _⟩ ?_
    rintro f ds0 wl ⟨rfl, f0, i, rfl, hi, hxl⟩
    by_cases h : i < np
    · have hb : decide ((i : Int) < (np : Int)) = true := decide_eq_true (by omega)
      obtain ⟨g9, rfl, hg9⟩ := hcell (by omega)
      have hgl := hxl.heap (fun x => x) hg9
      have hcl : ∀ j v, lget zInf j = some v → wl.cell? ⟨g9, i * 7 + j, none⟩ = some v := fun j v hj => by
        have hj7 : j < 7 := by rw [lget_eq] at hj; exact (List.getElem?_eq_some_iff.1 hj).1
        exact cell_of_heap hgl (by rw [lget_zInfs np i j rr h hj7]; exact hj)
      have hia : (Value.pointer (some ⟨g9, 0 + ((i : Nat) : Int).toNat * 7, none⟩)) = .pointer (some ⟨g9, i * 7, none⟩) := by simp
      (repeat (first | (refine cL ?_; first | (refine cL_guard ?_; refine L_unwanted rfl rfl rfl ?_) | (refine cL_load ?_; refine L_val (R_loadA (vs := zInf) rfl rfl hcl) rfl rfl rfl ?_) | (refine cL_lss ?_; refine L_valB (R_ltI rfl rfl) hb rfl rfl rfl ?_) | (refine cL_indexAddr ?_; refine L_valE (R_ia rfl rfl (by omega) (by omega)) hia rfl rfl rfl ?_)) | refine r118 ?_))
      refine L_allocS rfl rfl fun b12 w12 hn12 => ?_
      refine L_storeA rfl hn12.here rfl rfl rfl rfl rfl rfl fun w13 h13 e13 s13 => ?_
      have hn13 := hn12.store h13 e13 s13
      have h13' : w13.heap[b12]? = some (Ob [.bool false, .int .i64 0, .int .i64 0, .int .i64 0, .bool false, .slice none 0 0, .string ⟨#[]⟩] 34) := h13
      (repeat (first | (refine cL ?_; first | (refine cL_guard ?_; refine L_unwanted rfl rfl rfl ?_) | (refine cL_add ?_; refine L_valE (R_addI rfl rfl) (succ_i64 h (by omega)) rfl rfl rfl ?_)) | refine r118 ?_))
      refine G_inv ⟨⟨rfl, _, i + 1, with_self ⟨rfl, rfl, rfl, rfl, rfl, rfl, trivial⟩, h, hxl.trans hn13.ext⟩, ?_⟩
      show ((np : Int) - ((i + 1 : Nat) : Int)).toNat < ((np : Int) - (i : Int)).toNat
      omega
    · have hb : decide ((i : Int) < (np : Int)) = false := decide_eq_false (by omega)
      have hee : ((np : Int) == params) = true := by simp; omega
      (repeat (first | (refine cL ?_; first | (refine cL_guard ?_; refine L_unwanted rfl rfl rfl ?_) | (refine cL_eql ?_; refine L_valB (R_eqI rfl rfl) hee rfl rfl rfl ?_) | (refine cL_lss ?_; refine L_valB (R_ltI rfl rfl) hb rfl rfl rfl ?_)) | refine G_exit rfl ?_ | refine r118 ?_))
      (refine G_retF rfl ?_)
      exact ⟨_, rfl, rfl, x10.trans hxl⟩
end Go.Proofs.YthcllcmnhoaniaaGreatDoor

/-
  A part of the proof that laws.FnFinds returns true at every input: the walk's own rules and the contracts of functions, in build order.
  Its conditions are those of the statement: see the last text.
-/
import Derived.Maps.RangeRun
import Derived.Test.YtjilnjifegeceaaGreatDoorFnFindsPartN

/-
  A range over a map with pointers as keys whose rounds write entries that are there; the unifier's 'setHandle'.
-/
namespace Go.Proofs.YtjilnjifegeceaaGreatDoor
set_option maxRecDepth 100000
set_option maxHeartbeats 4000000
attribute [local irreducible] Calls execOp

/-- a map with its stamps -/
def MapB (w : World) (m : Nat) (kvs : List (Nat × Value)) (bs : List Nat) (c : Nat) : Prop := ∃ es : Array MapEntry, w.heap[m]? = some (.map es c) ∧ es.toList.map (fun e => (e.key, e.val)) = kvs.map (fun kv => (ptr kv.1, kv.2)) ∧ es.toList.map (·.born) = bs ∧ (∀ b ∈ bs, b < c) ∧ bs.Nodup
/-- a range over it, and the entries that it has handed out -/
def IterB (w : World) (r m c : Nat) (seen : List Nat) : Prop := ∃ sn : Array Nat, w.heap[r]? = some (.mapIter (some m) c sn c) ∧ sn.toList = seen

theorem MapPt.b {w : World} {m : Nat} {kvs : List (Nat × Value)} (h : MapPt w m kvs) : ∃ bs c, MapB w m kvs bs c := by
  obtain ⟨es, c, h1, h2, h3, h4⟩ := h
  refine ⟨_, c, es, h1, h2, rfl, fun b hb => ?_, h4⟩
  obtain ⟨e, he, rfl⟩ := List.mem_map.1 hb
  exact h3 e he
theorem MapB.pt {w : World} {m c : Nat} {kvs : List (Nat × Value)} {bs : List Nat} (h : MapB w m kvs bs c) : MapPt w m kvs := by
  obtain ⟨es, h1, h2, rfl, h3, h4⟩ := h
  exact ⟨es, c, h1, h2, fun e he => h3 _ (List.mem_map.2 ⟨e, he, rfl⟩), h4⟩
theorem MapB.ext {M : Nat → Prop} {w w' : World} {m c : Nat} {kvs : List (Nat × Value)} {bs : List Nat} (h : MapB w m kvs bs c) (he : Ext M w w') (hm : ¬ M m) : MapB w' m kvs bs c :=
  let ⟨es, h1, h2⟩ := h
  ⟨es, he.heap hm h1, h2⟩
theorem IterB.ext {M : Nat → Prop} {w w' : World} {r m c : Nat} {seen : List Nat} (h : IterB w r m c seen) (he : Ext M w w') (hm : ¬ M r) : IterB w' r m c seen :=
  let ⟨sn, h1, h2⟩ := h
  ⟨sn, he.heap hm h1, h2⟩
theorem MapB.ne {w : World} {r m c c' : Nat} {kvs : List (Nat × Value)} {bs seen : List Nat} (h : MapB w m kvs bs c) (h' : IterB w r m c' seen) : r ≠ m := by
  rintro rfl
  obtain ⟨es, h1, -⟩ := h
  obtain ⟨sn, h2, -⟩ := h'
  rw [h1] at h2
  cases h2
theorem MapB.row {w : World} {m c : Nat} {kvs : List (Nat × Value)} {bs : List Nat} (h : MapB w m kvs bs c) : kvs.length = bs.length := by
  obtain ⟨es, -, h2, rfl, -⟩ := h
  have := congrArg List.length h2
  simp at this
  simp [this]

section
variable {P : Program} {n : Nat} {f : Fm} {w : World} {ops rest : List Oper} {K : LK} {ds : List Deferred}
variable {ty : TypeId} {pos : String} {aft : Array Edge} {g : Option (Nat × Bool)}

theorem L_rangeM {d t kt et : Nat} {z : Value} [hmp : MapP P t kt et z] {x : Operand} {m c : Nat} {kvs : List (Nat × Value)} {bs : List Nat} (hx : ev f x = .map (some m)) (hb : MapB w m kvs bs c)
    (hw : wantd ops f ⟨some d, .range t x, ty, pos, aft, g⟩ = true) (hn : Nat.blt d n = true)
    (h : ∀ r w', w.heap.size ≤ r → Ext No w w' → IterB w' r m c [] → L P n ops K rest (upd f d (ptr r)) ds w') : L P n ops K (⟨some d, .range t x, ty, pos, aft, g⟩ :: rest) f ds w := by
  obtain ⟨es, h1, -⟩ := hb
  have hn1 := newB_alloc w (.mapIter (some m) c #[] c)
  refine L_val (w' := w.alloc (.mapIter (some m) c #[] c)) (v := ptr w.heap.size) ?_ hw rfl hn (h _ _ (Nat.le_refl _) hn1.ext ⟨#[], hn1.here, rfl⟩)
  simp only [execOp, hx]
  simp [run_range_map w t kt et m es c hmp.h h1]

theorem L_nextM {d r m c : Nat} {x : Operand} {kvs : List (Nat × Value)} {bs seen : List Nat} (hx : ev f x = ptr r) (hb : MapB w m kvs bs c) (hi : IterB w r m c seen)
    (hw : wantd ops f ⟨some d, .next x false, ty, pos, aft, g⟩ = true) (hn : Nat.blt d n = true)
    (h0 : (∀ b ∈ bs, b ∈ seen) → L P n ops K rest (upd f d (.tuple #[.bool false])) ds w)
    (h1 : ∀ (i b k : Nat) (v : Value) (w' : World), bs[i]? = some b → b ∉ seen → kvs[i]? = some (k, v) → Ext (fun j => j = r) w w' → IterB w' r m c (seen ++ [b]) → L P n ops K rest (upd f d (.tuple #[.bool true, ptr k, v])) ds w') : L P n ops K (⟨some d, .next x false, ty, pos, aft, g⟩ :: rest) f ds w := by
  obtain ⟨es, e1, e2, e3, e4, e5⟩ := hb
  obtain ⟨sn, e6, e7⟩ := hi
  have hold : ∀ y ∈ es.toList, y.born < c := fun y hy => e4 _ (e3 ▸ List.mem_map.2 ⟨y, hy, rfl⟩)
  rcases run_next_at (P := P) w ty r m c c sn es c e6 e1 hold (Nat.le_refl _) with ⟨g1, g2⟩ | ⟨e, g1, w1, g2, g3⟩
  · refine L_val (w' := w) (v := .tuple #[.bool false]) ?_ hw rfl hn (h0 fun b hb => ?_)
    · simp only [execOp, hx]
      simp [ptr] at g2 ⊢
      simp [g2]
    · rw [← e3] at hb
      obtain ⟨e, he, rfl⟩ := List.mem_map.1 hb
      have h3 : leftOf es sn = #[] := Array.eq_empty_of_size_eq_zero g1
      unfold leftOf at h3
      rw [Array.filter_eq_empty_iff] at h3
      have := h3 e (by simpa using he)
      rw [← e7]
      simpa using this
  · unfold leftOf at g1
    simp only [Array.toList_filter, List.mem_filter] at g1
    obtain ⟨he, hs⟩ := g1
    obtain ⟨i, hi⟩ := List.getElem?_of_mem he
    have hbi : bs[i]? = some e.born := by rw [← e3]; simp [hi]
    have hki : (kvs.map fun kv => (ptr kv.1, kv.2))[i]? = some (e.key, e.val) := by rw [← e2]; simp [hi]
    rw [List.getElem?_map, Option.map_eq_some_iff] at hki
    obtain ⟨⟨k, v⟩, hk1, hk2⟩ := hki
    injection hk2 with hk2 hk3
    refine L_val (w' := ChangeMaps.setBlock w1 r (.mapIter (some m) c (sn.push e.born) c)) (v := .tuple #[.bool true, ptr k, v]) ?_ hw rfl hn (h1 i e.born k v _ hbi ?_ hk1 ?_ ⟨sn.push e.born, ?_, by simp [e7]⟩)
    · simp only [execOp, hx]
      simp only [ptr] at hk2 ⊢
      simp [g3, ← hk2, ← hk3]
    · rw [← e7]
      simpa using hs
    · have e0 : ∀ w0 : World, Ext (fun j => j = r) w0 (ChangeMaps.setBlock w0 r (.mapIter (some m) c (sn.push e.born) c)) := fun w0 => Ext.setBlk w0 r _ rfl
      rcases g2 with rfl | rfl
      · exact e0 _
      · exact (Ext.drew w).trans (e0 _)
    · have hlt : r < w1.heap.size := by
        rcases g2 with rfl | rfl <;> exact lt_of_heap e6
      exact heap_setBlk hlt

theorem R_entryM {d r m c i b k : Nat} {v : Value} {x : Operand} {kvs : List (Nat × Value)} {bs seen : List Nat} (hx : ev f x = ptr r) (hb : MapB w m kvs bs c) (hi : IterB w r m c (seen ++ [b])) (h1 : bs[i]? = some b) (h2 : kvs[i]? = some (k, v)) :
    (execOp (ev f) ⟨some d, .entry x, ty, pos, aft, g⟩).run P w = .ok (.value (.tuple #[ptr k, v])) w := by
  obtain ⟨es, e1, e2, e3, e4, e5⟩ := hb
  obtain ⟨sn, e6, e7⟩ := hi
  rw [← e3, List.getElem?_map, Option.map_eq_some_iff] at h1
  obtain ⟨e, he, rfl⟩ := h1
  have hki : (kvs.map fun kv => (ptr kv.1, kv.2))[i]? = some (e.key, e.val) := by rw [← e2]; simp [he]
  rw [List.getElem?_map, h2] at hki
  simp only [Option.map_some, Option.some.injEq, Prod.mk.injEq] at hki
  have hsn : sn = seen.toArray.push e.born := by
    apply Array.ext'
    simp [e7]
  subst hsn
  have hr := run_entry_at (P := P) w r m c seen.toArray es c e e6 e1 (List.mem_of_getElem? he) (by rw [e3]; exact e5)
  simp only [execOp, hx]
  simp only [ptr] at hki ⊢
  simp [hr, ← hki.1, ← hki.2]

theorem L_mapSet {t kt et : Nat} {z : Value} [hmp : MapP P t kt et z] [PtrEq P kt] {x y v : Operand} {k m c i : Nat} {v0 : Value} {kvs : List (Nat × Value)} {bs : List Nat} (hx : ev f x = .map (some m)) (hy : ev f y = ptr k) (hb : MapB w m kvs bs c) (hnd : (kvs.map (·.1)).Nodup) (hi : kvs[i]? = some (k, v0)) (hl : ∀ kv ∈ kvs, PLive w (some ⟨kv.1, 0, none⟩))
    (hw : wantd ops f ⟨none, .mapUpdate t x y v, ty, pos, aft, g⟩ = true)
    (h : ∀ w', MapB w' m (kvs.set i (k, ev f v)) bs c → Ext (fun j => j = m) w w' → L P n ops K rest f ds w') : L P n ops K (⟨none, .mapUpdate t x y v, ty, pos, aft, g⟩ :: rest) f ds w := by
  obtain ⟨es, e1, e2, e3, e4, e5⟩ := hb
  have hk : PLive w (some ⟨k, 0, none⟩) := hl _ (List.mem_of_getElem? hi)
  have hfk := run_findKeyP (P := P) (kt := kt) hmp.hk hk e2 hl
  rw [lookI_some hnd hi, Nat.zero_add] at hfk
  have hck := fun b => run_checkKeyP (P := P) (b := b) (n := 9999) (a := some ⟨k, 0, none⟩) (w := w) hmp.hk
  simp only [Nat.reduceAdd] at hck
  have hki : (es.toList.map fun e => (e.key, e.val))[i]? = some (ptr k, v0) := by rw [e2]; simp [hi]
  rw [List.getElem?_map, Option.map_eq_some_iff] at hki
  obtain ⟨e, he, hek⟩ := hki
  injection hek with hk1 hk2
  have he' : es[i]? = some e := by rw [← Array.getElem?_toList]; exact he
  have hst : (Instr.keyThatStays (ptr k) (ptr k)).run P w = .ok (ptr k) w := by
    simp [Instr.keyThatStays, Instr.sameBits, ptr]
  refine L_skip (w' := World.setBlk w m (.map (es.modify i fun e => { e with key := ptr k, val := ev f v }) c)) ?_ hw rfl (h _ ⟨_, heap_setBlk (lt_of_heap e1), ?_, ?_, e4, e5⟩ (Ext.setBlk w m _ rfl))
  · simp only [execOp, hx, hy]
    simp [Instr.mapUpdate, run_underlying hmp.h, hck, hfk, he', hk1, hst, run_getObjM e1, run_setObjM e1]
  · have h1 : (es.modify i fun e => { e with key := ptr k, val := ev f v }).toList = es.toList.modify i fun e => { e with key := ptr k, val := ev f v } := by simp
    rw [h1, List.map_set, ← e2]
    apply List.ext_getElem?
    intro j
    by_cases hj : i = j
    · subst hj
      rw [List.getElem?_set_self (by rw [List.length_map]; exact (List.getElem?_eq_some_iff.1 he).1)]
      simp [he']
    · simp [hj, List.getElem?_set_ne hj]
  · have h1 : (es.modify i fun e => { e with key := ptr k, val := ev f v }).toList = es.toList.modify i fun e => { e with key := ptr k, val := ev f v } := by simp
    rw [h1, ← e3]
    apply List.ext_getElem?
    intro j
    rw [List.getElem?_map, List.getElem?_map, List.getElem?_modify]
    cases hq : es.toList[j]? with
    | none => simp
    | some q => by_cases hj : i = j <;> simp [hj]
end
end Go.Proofs.YtjilnjifegeceaaGreatDoor

/-
  The unifier's 'setHandle' and 'join'.
-/
namespace Go.Proofs.YtjilnjifegeceaaGreatDoor
set_option maxRecDepth 100000
set_option maxHeartbeats 4000000
attribute [local irreducible] Calls execOp

theorem r148 {G G' : Prop} (k : G') (h : Hid G' → G := by intro k_; (first | (refine cL ?_; first | (refine cL_move ?_; refine L_val R_move rfl rfl rfl ?_) | (refine cL_load ?_; first | refine L_val (R_loadB rfl (by assumption) (by rfl)) rfl rfl rfl ?_ | refine L_val (R_loadH (by assumption) rfl (by assumption) (by rfl)) rfl rfl rfl ?_) | (refine cL_fieldAddr ?_; refine L_val (R_fa rfl) rfl rfl rfl ?_) | (refine cL_nilCheck ?_; refine L_val (R_nil rfl) rfl rfl rfl ?_) | (refine cL_assign ?_; refine L_val R_assign rfl rfl rfl ?_) | (refine cL_extract ?_; refine L_val (R_extract rfl rfl) rfl rfl rfl ?_) | (refine cL_eql ?_; first | refine L_val (R_eqPN rfl rfl) rfl rfl rfl ?_ | refine L_val (R_eqI rfl rfl) rfl rfl rfl ?_ | refine L_val (R_eqB rfl rfl) rfl rfl rfl ?_ | refine L_val (R_eqIfN rfl rfl) rfl rfl rfl ?_ | refine L_val (R_eqIfNN rfl) rfl rfl rfl ?_) | (refine cL_neq ?_; first | refine L_val (R_nePN rfl rfl) rfl rfl rfl ?_ | refine L_val (R_neI rfl rfl) rfl rfl rfl ?_ | refine L_val (R_neB rfl rfl) rfl rfl rfl ?_ | refine L_val (R_neIfN rfl rfl) rfl rfl rfl ?_ | refine L_val (R_neIfNN rfl) rfl rfl rfl ?_) | refine L_nil ?_) | refine G_seq ?_ | refine G_region ?_ | refine G_skip ?_ | refine G_block ?_ | refine G_end ?_ | refine G_true rfl ?_ | refine G_false rfl ?_); exact k_.out) : G := h ⟨k⟩
theorem r149 {G G' : Prop} (k : G') (h : Hid G' → G := by intro k_; (repeat (first | (refine cL ?_; first | (refine cL_move ?_; refine L_val R_move rfl rfl rfl ?_) | (refine cL_load ?_; first | refine L_val (R_loadB rfl (by assumption) (by rfl)) rfl rfl rfl ?_ | refine L_val (R_loadH (by assumption) rfl (by assumption) (by rfl)) rfl rfl rfl ?_) | (refine cL_fieldAddr ?_; refine L_val (R_fa rfl) rfl rfl rfl ?_) | (refine cL_nilCheck ?_; refine L_val (R_nil rfl) rfl rfl rfl ?_) | (refine cL_assign ?_; refine L_val R_assign rfl rfl rfl ?_) | (refine cL_extract ?_; refine L_val (R_extract rfl rfl) rfl rfl rfl ?_) | (refine cL_eql ?_; first | refine L_val (R_eqPN rfl rfl) rfl rfl rfl ?_ | refine L_val (R_eqI rfl rfl) rfl rfl rfl ?_ | refine L_val (R_eqB rfl rfl) rfl rfl rfl ?_ | refine L_val (R_eqIfN rfl rfl) rfl rfl rfl ?_ | refine L_val (R_eqIfNN rfl) rfl rfl rfl ?_) | (refine cL_neq ?_; first | refine L_val (R_nePN rfl rfl) rfl rfl rfl ?_ | refine L_val (R_neI rfl rfl) rfl rfl rfl ?_ | refine L_val (R_neB rfl rfl) rfl rfl rfl ?_ | refine L_val (R_neIfN rfl rfl) rfl rfl rfl ?_ | refine L_val (R_neIfNN rfl) rfl rfl rfl ?_) | refine L_nil ?_) | refine G_seq ?_ | refine G_region ?_ | refine G_skip ?_ | refine G_block ?_ | refine G_end ?_ | refine G_true rfl ?_ | refine G_false rfl ?_)); exact k_.out) : G := h ⟨k⟩

/-- the handle hx is replaced by h2 -/
def HS.swap (s : HS) (hx h2 : Nat) : HS := ⟨s.hs.map fun h => if h = hx then h2 else h, s.val⟩

def leftN (bs seen : List Nat) : Nat := (bs.filter fun b => !decide (b ∈ seen)).length
theorem leftN_lt {bs seen : List Nat} {b : Nat} (hb : b ∈ bs) (hs : b ∉ seen) : leftN bs (seen ++ [b]) < leftN bs seen := by
  unfold leftN
  induction bs with
  | nil => cases hb
  | cons a l ih =>
    have hle : ∀ l : List Nat, (l.filter fun x => !decide (x ∈ seen ++ [b])).length ≤ (l.filter fun x => !decide (x ∈ seen)).length := by
      intro l
      induction l with
      | nil => simp
      | cons a l ih =>
        by_cases h1 : a ∈ seen
        · simp [h1] at ih ⊢
          exact ih
        · by_cases h2 : a = b
          · subst h2
            simp [h1] at ih ⊢
            omega
          · simp [h1, h2] at ih ⊢
            exact ih
    by_cases h2 : a = b
    · subst h2
      have := hle l
      simp [hs] at this ⊢
      omega
    · have := ih (by simpa [Ne.symm h2] using hb)
      by_cases h1 : a ∈ seen
      · simp [h1] at this ⊢
        exact this
      · simp [h1, h2] at this ⊢
        exact this

def seenOf (w : World) (r : Nat) : List Nat := match w.heap[r]? with
  | some (.mapIter _ _ sn _) => sn.toList
  | _ => []
theorem IterB.seenOf {w : World} {r m c : Nat} {seen : List Nat} (h : IterB w r m c seen) : seenOf w r = seen := by
  obtain ⟨sn, h1, h2⟩ := h
  unfold Go.Proofs.YtjilnjifegeceaaGreatDoor.seenOf
  rw [h1]
  exact h2

theorem live_heap {w : World} {b : Nat} {v : Value} {T : TypeId} (h : w.heap[b]? = some (Ob [v] T)) : PLive w (some ⟨b, 0, none⟩) := ⟨_, _, rfl, _, _, _, h⟩

section
variable {H : Hp} {as_ : List Nat} {u hm : Nat} {M : Nat → Prop} {hu : M u} {hH : ∀ b o, H b = some o → ¬ M b} {s : HS} {d : Nat} {w : World}

theorem setHandle_any (hw : UW (mkUC H as_ u hm M hu hH) s d w) (hal : ∀ a ∈ as_, LiveH H a) (hnd : as_.Nodup) {p a hx h2 : Nat} (ha : as_[p]? = some a) (hh : s.hs[p]? = some hx) (h2m : h2 ∈ s.hs) :
    Calls Tryz.prog 185 #[ptr u, ptr a, ptr h2] w (Ret fun v w' => v = .tuple #[] ∧ UW (mkUC H as_ u hm M hu hH) (s.swap hx h2) d w' ∧ Ext M w w') := by
  have hub := hw.ub
  unfold UCells at hub
  obtain ⟨g1, g2, g3, g4, g5⟩ := hw.si
  have hA : Agree H w := hw.ag
  have hlk : (match lookI (hMap as_ s.hs) a 0 with | some (_, v) => v | none => .pointer none) = ptr hx := by
    rw [lookup_hs hw hnd ha hh]
  have hub' : w.heap[u]? = some (Ob [.pointer none, .map (some hm), .int .i64 (d : Int), .bool false] 253) := hub
  clear hub
  obtain ⟨bs, c, hmb⟩ := g2.b
  have hbl : bs.length = as_.length := by
    have := hmb.row
    simp only [hMap, List.length_map, List.length_zip] at this
    omega
  have hhx : w.heap[hx]? = some (Ob [s.val hx] 60) := (g3 hx (List.mem_of_getElem? hh)).1
  (refine calls_enter Tryz.func185 Tryz.ntmps185 rfl rfl ?_)
  (repeat (first | (refine cL ?_; first | refine L_valE (R_lookupP rfl rfl g2 (hA.live (hal a (List.mem_of_getElem? ha))) (hMap_live hA hal)) hlk rfl rfl rfl ?_ | (refine cL_call ?_; refine L_callI (assert_true _) rfl rfl ?_)) | refine r148 ?_))
  refine L_rangeM rfl hmb rfl rfl fun r w1 hr x1 hi1 => ?_
  have hum := lt_of_heap hub'
  have hmm : hm < w.heap.size := by obtain ⟨es, h1, -⟩ := hmb; exact lt_of_heap h1
  (refine r149 ?_)
  refine G_loop (fun f ds0 w0 => ds0 = [] ∧ ∃ (f0 : Fm) (hsc seen : List Nat), f = with_ [(0, ptr u), (2, ptr h2), (6, ptr hx), (22, ptr r)] f0 ∧ hsc.length = as_.length ∧ (∀ (i b h : Nat), bs[i]? = some b → s.hs[i]? = some h → hsc[i]? = some (if b ∈ seen then (if h = hx then h2 else h) else h)) ∧ Ext (fun k => k = hm ∨ k = r) w1 w0 ∧ MapB w0 hm (hMap as_ hsc) bs c ∧ IterB w0 r hm c seen)
    (fun _ _ w0 => leftN bs (seenOf w0 r))
    ⟨rfl, _, s.hs, [], with_self ⟨rfl, rfl, rfl, rfl, trivial⟩, g1, fun i b h _ hi => by simpa using hi, Ext.refl _ _, hmb.ext x1 (fun x => x), hi1⟩ ?_
  rintro f ds0 wr ⟨rfl, f0, hsc, seen, rfl, hl, hcur, hext, hmr, hir⟩
  have xr : Ext (fun k => k = hm ∨ k = r) w wr := x1.of_no.trans hext
  have hubr := xr.heap (by rintro (h | h) <;> omega) hub'
  have hAr : Agree H wr := hA.ext xr fun b o hb => by
    have h1 := lt_of_heap (hA _ _ hb)
    rintro (rfl | rfl)
    · exact hH _ _ hb g5
    · omega
  have hrm : hm ≠ r := by omega
  (refine r149 ?_)
  refine L_nextM rfl hmr hir rfl rfl (fun hall => ?_) (fun i b k v w2 hbi hbs hk x2 hi2 => ?_)
  · (repeat (first | refine G_exit rfl ?_ | refine r148 ?_))
    refine G_end0 rfl ?_
    have hfin : hsc = (s.swap hx h2).hs := by
      unfold HS.swap
      apply List.ext_getElem?
      intro i
      rcases Nat.lt_or_ge i as_.length with h | h
      · obtain ⟨b, hb⟩ : ∃ b, bs[i]? = some b := ⟨_, List.getElem?_eq_getElem (by omega)⟩
        obtain ⟨h0, hh0⟩ : ∃ h0, s.hs[i]? = some h0 := ⟨_, List.getElem?_eq_getElem (by omega)⟩
        rw [hcur i b h0 hb hh0, if_pos (hall b (List.mem_of_getElem? hb))]
        simp [hh0]
      · rw [List.getElem?_eq_none (by omega), List.getElem?_eq_none (by simp; omega)]
    have xM : Ext M w wr := x1.of_no.trans_new hext (fun j hj hk => by
      rcases hk with rfl | rfl
      · exact g5
      · omega)
    refine ⟨_, rfl, rfl, ?_, xM⟩
    refine ⟨hAr, hubr, fun b hb => Nat.lt_of_lt_of_le (hw.ml b hb) xr.size, by simp [HS.swap, g1], hfin ▸ hmr.pt, fun h hh' => ?_, g4, g5⟩
    have hin : h ∈ s.hs := by
      simp only [HS.swap, List.mem_map] at hh'
      obtain ⟨q, hq, rfl⟩ := hh'
      split
      · exact h2m
      · exact hq
    obtain ⟨e1, e2, e3, e4⟩ := g3 h hin
    refine ⟨xr.heap ?_ e1, e2, e3, e4⟩
    rintro (rfl | rfl)
    · obtain ⟨es, h1, -⟩ := hmb
      rw [h1] at e1
      cases e1
    · have := lt_of_heap e1
      omega
  · have hm2 := hmr.ext x2 hrm
    have hub2 := x2.heap (by show u ≠ r; omega) hubr
    have x2' : Ext (fun k => k = hm ∨ k = r) w w2 := xr.trans (x2.mono fun _ _ h => .inr h)
    have hA2 : Agree H w2 := hAr.ext x2 fun b o hb => by
      have h1 := lt_of_heap (hA _ _ hb)
      rintro rfl
      omega
    have hil : i < as_.length := by have := (List.getElem?_eq_some_iff.1 hbi).1; omega
    obtain ⟨a', ha'⟩ : ∃ a', as_[i]? = some a' := ⟨_, List.getElem?_eq_getElem hil⟩
    obtain ⟨h0, hh0⟩ : ∃ h0, s.hs[i]? = some h0 := ⟨_, List.getElem?_eq_getElem (by omega)⟩
    have hci := hcur i b h0 hbi hh0
    rw [if_neg hbs] at hci
    rw [hMap_get ha' hci] at hk
    simp only [Option.some.injEq, Prod.mk.injEq] at hk
    obtain ⟨rfl, rfl⟩ := hk
    have hkk : (hMap as_ hsc)[i]? = some (a', ptr h0) := hMap_get ha' hci
    have hold : ∀ h, h ∈ s.hs → PLive w2 (some ⟨h, 0, none⟩) := fun h hin => by
      obtain ⟨e1, -, -, -⟩ := g3 h hin
      refine live_heap (x2'.heap ?_ e1)
      rintro (rfl | rfl)
      · obtain ⟨es, h1, -⟩ := hmb
        rw [h1] at e1
        cases e1
      · have := lt_of_heap e1
        omega
    have hl0 := hold h0 (List.mem_of_getElem? hh0)
    have hlx := hold hx (List.mem_of_getElem? hh)
    have hlt : leftN bs (seen ++ [b]) < leftN bs (seenOf wr r) := by
      rw [hir.seenOf]
      exact leftN_lt (List.mem_of_getElem? hbi) hbs
    have hnext : ∀ hs' : List Nat, hs'.length = as_.length → (∀ j, j ≠ i → hs'[j]? = hsc[j]?) → hs'[i]? = some (if h0 = hx then h2 else h0) → ∀ (j b' h : Nat), bs[j]? = some b' → s.hs[j]? = some h → hs'[j]? = some (if b' ∈ seen ++ [b] then (if h = hx then h2 else h) else h) := by
      intro hs' _ h1 h2' j b' h hb' hh'
      by_cases hj : j = i
      · subst hj
        rw [hbi] at hb'
        injection hb' with hb'
        subst hb'
        rw [hh0] at hh'
        injection hh' with hh'
        subst hh'
        rw [h2']
        simp
      · have hbb : b' ≠ b := by
          rintro rfl
          obtain ⟨-, -, -, -, -, hnb⟩ := hmr
          exact hj (nodup_inj hnb hb' hbi)
        rw [h1 j hj, hcur j b' h hb' hh']
        simp [hbb]
    (refine r149 ?_)
    refine L_val (R_entryM rfl hm2 hi2 hbi hkk) rfl rfl rfl ?_
    by_cases hq : h0 = hx
    · subst hq
      (repeat (first | (refine cL ?_; first | (refine cL_eql ?_; refine L_valB (R_eqP rfl rfl hl0 hl0) (peq_self _) rfl rfl rfl ?_)) | refine r148 ?_))
      refine L_mapSet rfl rfl hm2 (by rw [hMap_keys hl]; exact hnd) hkk (hMap_live hA2 hal) rfl fun w3 hm3 x3 => ?_
      (refine r149 ?_)
      have hset : (hMap as_ hsc).set i (a', ptr h2) = hMap as_ (hsc.set i h2) := by
        apply List.ext_getElem?
        intro j
        by_cases hj : i = j
        · subst hj
          rw [List.getElem?_set_self (by simp [hMap]; omega), hMap_get ha' (List.getElem?_set_self (by omega))]
        · rw [List.getElem?_set_ne hj]
          unfold hMap
          rw [List.getElem?_map, List.getElem?_map]
          congr 1
          rw [List.zip, List.getElem?_zipWith, List.getElem?_zipWith, List.getElem?_set_ne hj]
      have hi3 := hi2.ext x3 (by show r ≠ hm; omega)
      refine G_inv ⟨⟨rfl, _, hsc.set i h2, seen ++ [b], with_self ⟨rfl, rfl, rfl, rfl, trivial⟩, by simpa using hl, hnext _ (by simpa using hl) (fun j hj => List.getElem?_set_ne (Ne.symm hj)) (by rw [if_pos rfl]; exact List.getElem?_set_self (by omega)), hext.trans ((x2.mono fun _ _ h => .inr h).trans (x3.mono fun _ _ h => .inl h)), hset ▸ hm3, hi3⟩, ?_⟩
      show leftN bs (seenOf w3 r) < _
      rw [hi3.seenOf]
      exact hlt
    · (repeat (first | (refine cL ?_; first | (refine cL_eql ?_; refine L_valB (R_eqP rfl rfl hl0 hlx) (peq_false hq) rfl rfl rfl ?_)) | refine r148 ?_))
      refine G_inv ⟨⟨rfl, _, hsc, seen ++ [b], with_self ⟨rfl, rfl, rfl, rfl, trivial⟩, hl, hnext _ hl (fun _ _ => rfl) (by rw [if_neg hq]; exact hci), hext.trans (x2.mono fun _ _ h => .inr h), hm2, hi2⟩, ?_⟩
      show leftN bs (seenOf w2 r) < _
      rw [hi2.seenOf]
      exact hlt
end
end Go.Proofs.YtjilnjifegeceaaGreatDoor

/-
  The unifier's 'join', and 'nify' on two of its type parameters.
-/
namespace Go.Proofs.YtjilnjifegeceaaGreatDoor
set_option maxRecDepth 100000
set_option maxHeartbeats 4000000
attribute [local irreducible] Calls execOp

theorem r150 {G G' : Prop} (k : G') (h : Hid G' → G := by intro k_; (repeat (first | (refine cL ?_; first | (refine cL_guard ?_; refine L_unwanted rfl rfl rfl ?_) | (refine cL_move ?_; refine L_val R_move rfl rfl rfl ?_) | (refine cL_load ?_; first | refine L_val (R_loadB rfl (by assumption) (by rfl)) rfl rfl rfl ?_ | refine L_val (R_loadH (by assumption) rfl (by assumption) (by rfl)) rfl rfl rfl ?_) | (refine cL_fieldAddr ?_; refine L_val (R_fa rfl) rfl rfl rfl ?_) | (refine cL_nilCheck ?_; refine L_val (R_nil rfl) rfl rfl rfl ?_) | (refine cL_assign ?_; refine L_val R_assign rfl rfl rfl ?_) | (refine cL_pick ?_; first | refine L_val (R_pickT rfl) rfl rfl rfl ?_ | refine L_val (R_pickF rfl) rfl rfl rfl ?_) | (refine cL_eql ?_; first | refine L_val (R_eqPN rfl rfl) rfl rfl rfl ?_ | refine L_val (R_eqI rfl rfl) rfl rfl rfl ?_ | refine L_val (R_eqB rfl rfl) rfl rfl rfl ?_ | refine L_val (R_eqIfN rfl rfl) rfl rfl rfl ?_ | refine L_val (R_eqIfNN rfl) rfl rfl rfl ?_) | (refine cL_neq ?_; first | refine L_val (R_nePN rfl rfl) rfl rfl rfl ?_ | refine L_val (R_neI rfl rfl) rfl rfl rfl ?_ | refine L_val (R_neB rfl rfl) rfl rfl rfl ?_ | refine L_val (R_neIfN rfl rfl) rfl rfl rfl ?_ | refine L_val (R_neIfNN rfl) rfl rfl rfl ?_) | refine L_nil ?_) | refine G_seq ?_ | refine G_region ?_ | refine G_skip ?_ | refine G_block ?_ | refine G_end ?_ | refine G_true rfl ?_ | refine G_false rfl ?_)); exact k_.out) : G := h ⟨k⟩
theorem r151 {G G' A : Prop} (ag : A) (k : G') (h : Hid G' → A → G := by intro k_ ag_; (first | (refine cD_guard ?_; refine D_unwanted rfl rfl ?_) | (refine cD_move ?_; refine D_val0 (fun _ _ => R_move) rfl rfl ?_) | (refine cD_load ?_; refine D_val0 (fun w he => R_loadH (ag_ w he) rfl (by assumption) (by rfl)) rfl rfl ?_) | (refine cD_fieldAddr ?_; refine D_val0 (fun _ _ => R_fa rfl) rfl rfl ?_) | (refine cD_nilCheck ?_; refine D_val0 (fun _ _ => R_nil rfl) rfl rfl ?_) | (refine cD_assign ?_; refine D_val0 (fun _ _ => R_assign) rfl rfl ?_) | (refine cD_pick ?_; first | refine D_val0 (fun _ _ => R_pickT rfl) rfl rfl ?_ | refine D_val0 (fun _ _ => R_pickF rfl) rfl rfl ?_) | (refine cD_eql ?_; first | refine D_val0 (fun _ _ => R_eqPN rfl rfl) rfl rfl ?_ | refine D_val0 (fun _ _ => R_eqI rfl rfl) rfl rfl ?_ | refine D_val0 (fun _ _ => R_eqB rfl rfl) rfl rfl ?_ | refine D_val0 (fun _ _ => R_eqIfN rfl rfl) rfl rfl ?_ | refine D_val0 (fun _ _ => R_eqIfNN rfl) rfl rfl ?_) | (refine cD_neq ?_; first | refine D_val0 (fun _ _ => R_nePN rfl rfl) rfl rfl ?_ | refine D_val0 (fun _ _ => R_neI rfl rfl) rfl rfl ?_ | refine D_val0 (fun _ _ => R_neB rfl rfl) rfl rfl ?_ | refine D_val0 (fun _ _ => R_neIfN rfl rfl) rfl rfl ?_ | refine D_val0 (fun _ _ => R_neIfNN rfl) rfl rfl ?_)); exact k_.out) : G := h ⟨k⟩ ag
theorem r152 {G G' : Prop} (k : G') (h : Hid G' → G := by intro k_; (first | (refine cL ?_; first | (refine cL_guard ?_; refine L_unwanted rfl rfl rfl ?_) | (refine cL_move ?_; refine L_val R_move rfl rfl rfl ?_) | (refine cL_load ?_; first | refine L_val (R_loadB rfl (by assumption) (by rfl)) rfl rfl rfl ?_ | refine L_val (R_loadH (by assumption) rfl (by assumption) (by rfl)) rfl rfl rfl ?_) | (refine cL_fieldAddr ?_; refine L_val (R_fa rfl) rfl rfl rfl ?_) | (refine cL_nilCheck ?_; refine L_val (R_nil rfl) rfl rfl rfl ?_) | (refine cL_assign ?_; refine L_val R_assign rfl rfl rfl ?_) | (refine cL_pick ?_; first | refine L_val (R_pickT rfl) rfl rfl rfl ?_ | refine L_val (R_pickF rfl) rfl rfl rfl ?_) | (refine cL_eql ?_; first | refine L_val (R_eqPN rfl rfl) rfl rfl rfl ?_ | refine L_val (R_eqI rfl rfl) rfl rfl rfl ?_ | refine L_val (R_eqB rfl rfl) rfl rfl rfl ?_ | refine L_val (R_eqIfN rfl rfl) rfl rfl rfl ?_ | refine L_val (R_eqIfNN rfl) rfl rfl rfl ?_) | (refine cL_neq ?_; first | refine L_val (R_nePN rfl rfl) rfl rfl rfl ?_ | refine L_val (R_neI rfl rfl) rfl rfl rfl ?_ | refine L_val (R_neB rfl rfl) rfl rfl rfl ?_ | refine L_val (R_neIfN rfl rfl) rfl rfl rfl ?_ | refine L_val (R_neIfNN rfl) rfl rfl rfl ?_) | refine L_nil ?_) | refine G_seq ?_ | refine G_region ?_ | refine G_skip ?_ | refine G_block ?_ | refine G_end ?_ | refine G_true rfl ?_ | refine G_false rfl ?_); exact k_.out) : G := h ⟨k⟩

section
variable {H : Hp} {as_ : List Nat} {u hm : Nat} {M : Nat → Prop} {hu : M u} {hH : ∀ b o, H b = some o → ¬ M b} {s : HS} {d : Nat} {w : World}

theorem join_same (hw : UW (mkUC H as_ u hm M hu hH) s d w) (hal : ∀ a ∈ as_, LiveH H a) (hnd : as_.Nodup) {p q a b h : Nat} (ha : as_[p]? = some a) (hb : as_[q]? = some b) (hp : s.hs[p]? = some h) (hq : s.hs[q]? = some h) :
    Calls Tryz.prog 147 #[ptr u, ptr a, ptr b] w (Ret fun v w' => v = .bool true ∧ UW (mkUC H as_ u hm M hu hH) s d w' ∧ Ext M w w') := by
  have hub := hw.ub
  unfold UCells at hub
  obtain ⟨g1, g2, g3, g4, g5⟩ := hw.si
  have hA : Agree H w := hw.ag
  have hl1 : (match lookI (hMap as_ s.hs) a 0 with | some (_, v) => v | none => .pointer none) = ptr h := by rw [lookup_hs hw hnd ha hp]
  have hl2 : (match lookI (hMap as_ s.hs) b 0 with | some (_, v) => v | none => .pointer none) = ptr h := by rw [lookup_hs hw hnd hb hq]
  have hub' : w.heap[u]? = some (Ob [.pointer none, .map (some hm), .int .i64 (d : Int), .bool false] 253) := hub
  clear hub
  have hAg : ∀ w', Ext No w w' → Agree H w' := fun _ he => hA.ext0 he
  (refine calls_enter Tryz.func147 Tryz.ntmps147 rfl rfl ?_)
  (refine r150 ?_)
  (refine G_draw No (0 :: 1 :: 2 :: 3 :: 4 :: 5 :: 6 :: 7 :: 8 :: 9 :: 10 :: 11 :: 12 :: 13 :: []) [] follows (by kernel_rfl) rfl ?_)
  (repeat (first | refine D_valE (fun w he => R_lookupP rfl rfl (g2.ext he (fun x => x)) ((hAg w he).live (hal a (List.mem_of_getElem? ha))) (hMap_live (hAg w he) hal)) hl1 rfl rfl ?_ | refine D_valE (fun w he => R_lookupP rfl rfl (g2.ext he (fun x => x)) ((hAg w he).live (hal b (List.mem_of_getElem? hb))) (hMap_live (hAg w he) hal)) hl2 rfl rfl ?_ | (refine cD_guard ?_; refine D_unwanted rfl rfl ?_) | (refine cD_load ?_; refine D_val0 (fun w he => R_loadB rfl (he.heap (fun x => x) hub') rfl) rfl rfl ?_) | refine r151 hAg ?_))
  refine D_nil fun w1 hw1 => ?_
  refine G_frame (l := [(0, ptr u), (1, ptr a), (2, ptr b), (7, ptr h), (8, ptr h)]) ⟨rfl, rfl, rfl, rfl, rfl, trivial⟩ fun f0 => ?_
  have hh1 := live_heap (hw1.heap (fun x => x) (g3 h (List.mem_of_getElem? hp)).1)
  (repeat (first | (refine cL ?_; first | (refine cL_guard ?_; refine L_unwanted rfl rfl rfl ?_) | (refine cL_eql ?_; refine L_valB (R_eqP rfl rfl hh1 hh1) (peq_self _) rfl rfl rfl ?_)) | refine r152 ?_))
  (refine G_retF rfl ?_)
  exact ⟨_, rfl, rfl, hw.ext hw1, hw1.of_no⟩

theorem join_no (hw : UW (mkUC H as_ u hm M hu hH) s d w) (hal : ∀ a ∈ as_, LiveH H a) (hnd : as_.Nodup) {p q a b h h' : Nat} (ha : as_[p]? = some a) (hb : as_[q]? = some b) (hp : s.hs[p]? = some h) (hq : s.hs[q]? = some h') (hne : h ≠ h') {T T' : Nat} {v v' : Value} (hv : s.val h = .iface T v) (hv' : s.val h' = .iface T' v') :
    Calls Tryz.prog 147 #[ptr u, ptr a, ptr b] w (Ret fun v w' => v = .bool false ∧ UW (mkUC H as_ u hm M hu hH) s d w' ∧ Ext M w w') := by
  have hub := hw.ub
  unfold UCells at hub
  obtain ⟨g1, g2, g3, g4, g5⟩ := hw.si
  have hA : Agree H w := hw.ag
  have hl1 : (match lookI (hMap as_ s.hs) a 0 with | some (_, v) => v | none => .pointer none) = ptr h := by rw [lookup_hs hw hnd ha hp]
  have hl2 : (match lookI (hMap as_ s.hs) b 0 with | some (_, v) => v | none => .pointer none) = ptr h' := by rw [lookup_hs hw hnd hb hq]
  have hub' : w.heap[u]? = some (Ob [.pointer none, .map (some hm), .int .i64 (d : Int), .bool false] 253) := hub
  clear hub
  have hAg : ∀ w', Ext No w w' → Agree H w' := fun _ he => hA.ext0 he
  (refine calls_enter Tryz.func147 Tryz.ntmps147 rfl rfl ?_)
  (refine r150 ?_)
  (refine G_draw No (0 :: 1 :: 2 :: 3 :: 4 :: 5 :: 6 :: 7 :: 8 :: 9 :: 10 :: 11 :: 12 :: 13 :: []) [] follows (by kernel_rfl) rfl ?_)
  (repeat (first | refine D_valE (fun w he => R_lookupP rfl rfl (g2.ext he (fun x => x)) ((hAg w he).live (hal a (List.mem_of_getElem? ha))) (hMap_live (hAg w he) hal)) hl1 rfl rfl ?_ | refine D_valE (fun w he => R_lookupP rfl rfl (g2.ext he (fun x => x)) ((hAg w he).live (hal b (List.mem_of_getElem? hb))) (hMap_live (hAg w he) hal)) hl2 rfl rfl ?_ | (refine cD_guard ?_; refine D_unwanted rfl rfl ?_) | (refine cD_load ?_; refine D_val0 (fun w he => R_loadB rfl (he.heap (fun x => x) hub') rfl) rfl rfl ?_) | refine r151 hAg ?_))
  refine D_nil fun w1 hw1 => ?_
  refine G_frame (l := [(0, ptr u), (1, ptr a), (2, ptr b), (7, ptr h), (8, ptr h')]) ⟨rfl, rfl, rfl, rfl, rfl, trivial⟩ fun f0 => ?_
  have c1 := hw1.heap (fun x => x) (g3 h (List.mem_of_getElem? hp)).1
  have c2 := hw1.heap (fun x => x) (g3 h' (List.mem_of_getElem? hq)).1
  have hh1 := live_heap c1
  have hh2 := live_heap c2
  rw [hv] at c1
  rw [hv'] at c2
  (repeat (first | (refine cL ?_; first | (refine cL_guard ?_; refine L_unwanted rfl rfl rfl ?_) | (refine cL_eql ?_; refine L_valB (R_eqP rfl rfl hh1 hh2) (peq_false hne) rfl rfl rfl ?_)) | refine r152 ?_))
  (refine G_retF rfl ?_)
  exact ⟨_, rfl, rfl, hw.ext hw1, hw1.of_no⟩

/-- the second parameter alone is not known: it takes the first one's handle -/
theorem join_x (hw : UW (mkUC H as_ u hm M hu hH) s d w) (hal : ∀ a ∈ as_, LiveH H a) (hnd : as_.Nodup) {p q a b h h' : Nat} (ha : as_[p]? = some a) (hb : as_[q]? = some b) (hp : s.hs[p]? = some h) (hq : s.hs[q]? = some h') (hne : h ≠ h') {T : Nat} {v : Value} (hv : s.val h = .iface T v) (hv' : s.val h' = .nilIface) :
    Calls Tryz.prog 147 #[ptr u, ptr a, ptr b] w (Ret fun v w' => v = .bool true ∧ UW (mkUC H as_ u hm M hu hH) (s.swap h' h) d w' ∧ Ext M w w') := by
  have hub := hw.ub
  unfold UCells at hub
  obtain ⟨g1, g2, g3, g4, g5⟩ := hw.si
  have hA : Agree H w := hw.ag
  have hl1 : (match lookI (hMap as_ s.hs) a 0 with | some (_, v) => v | none => .pointer none) = ptr h := by rw [lookup_hs hw hnd ha hp]
  have hl2 : (match lookI (hMap as_ s.hs) b 0 with | some (_, v) => v | none => .pointer none) = ptr h' := by rw [lookup_hs hw hnd hb hq]
  have hub' : w.heap[u]? = some (Ob [.pointer none, .map (some hm), .int .i64 (d : Int), .bool false] 253) := hub
  clear hub
  have hAg : ∀ w', Ext No w w' → Agree H w' := fun _ he => hA.ext0 he
  (refine calls_enter Tryz.func147 Tryz.ntmps147 rfl rfl ?_)
  (refine r150 ?_)
  (refine G_draw No (0 :: 1 :: 2 :: 3 :: 4 :: 5 :: 6 :: 7 :: 8 :: 9 :: 10 :: 11 :: 12 :: 13 :: []) [] follows (by kernel_rfl) rfl ?_)
  (repeat (first | refine D_valE (fun w he => R_lookupP rfl rfl (g2.ext he (fun x => x)) ((hAg w he).live (hal a (List.mem_of_getElem? ha))) (hMap_live (hAg w he) hal)) hl1 rfl rfl ?_ | refine D_valE (fun w he => R_lookupP rfl rfl (g2.ext he (fun x => x)) ((hAg w he).live (hal b (List.mem_of_getElem? hb))) (hMap_live (hAg w he) hal)) hl2 rfl rfl ?_ | (refine cD_guard ?_; refine D_unwanted rfl rfl ?_) | (refine cD_load ?_; refine D_val0 (fun w he => R_loadB rfl (he.heap (fun x => x) hub') rfl) rfl rfl ?_) | refine r151 hAg ?_))
  refine D_nil fun w1 hw1 => ?_
  refine G_frame (l := [(0, ptr u), (1, ptr a), (2, ptr b), (7, ptr h), (8, ptr h')]) ⟨rfl, rfl, rfl, rfl, rfl, trivial⟩ fun f0 => ?_
  have c1 := hw1.heap (fun x => x) (g3 h (List.mem_of_getElem? hp)).1
  have c2 := hw1.heap (fun x => x) (g3 h' (List.mem_of_getElem? hq)).1
  have hh1 := live_heap c1
  have hh2 := live_heap c2
  rw [hv] at c1
  rw [hv'] at c2
  (repeat (first | (refine cL ?_; first | (refine cL_guard ?_; refine L_unwanted rfl rfl rfl ?_) | (refine cL_eql ?_; refine L_valB (R_eqP rfl rfl hh1 hh2) (peq_false hne) rfl rfl rfl ?_)) | refine r152 ?_))
  refine L_callR (setHandle_any (hw.ext hw1) hal hnd hb hq (List.mem_of_getElem? hp)) rfl rfl fun v w2 ⟨_, hw2, x2⟩ => ?_
  (refine r150 ?_)
  (refine G_retF rfl ?_)
  exact ⟨_, rfl, rfl, hw2, hw1.of_no.trans x2⟩

/-- the first parameter is not known: it takes the second one's handle -/
theorem join_y (hw : UW (mkUC H as_ u hm M hu hH) s d w) (hal : ∀ a ∈ as_, LiveH H a) (hnd : as_.Nodup) {p q a b h h' : Nat} (ha : as_[p]? = some a) (hb : as_[q]? = some b) (hp : s.hs[p]? = some h) (hq : s.hs[q]? = some h') (hne : h ≠ h') (hv : s.val h = .nilIface) :
    Calls Tryz.prog 147 #[ptr u, ptr a, ptr b] w (Ret fun v w' => v = .bool true ∧ UW (mkUC H as_ u hm M hu hH) (s.swap h h') d w' ∧ Ext M w w') := by
  have hub := hw.ub
  unfold UCells at hub
  obtain ⟨g1, g2, g3, g4, g5⟩ := hw.si
  have hA : Agree H w := hw.ag
  have hl1 : (match lookI (hMap as_ s.hs) a 0 with | some (_, v) => v | none => .pointer none) = ptr h := by rw [lookup_hs hw hnd ha hp]
  have hl2 : (match lookI (hMap as_ s.hs) b 0 with | some (_, v) => v | none => .pointer none) = ptr h' := by rw [lookup_hs hw hnd hb hq]
  have hub' : w.heap[u]? = some (Ob [.pointer none, .map (some hm), .int .i64 (d : Int), .bool false] 253) := hub
  clear hub
  have hAg : ∀ w', Ext No w w' → Agree H w' := fun _ he => hA.ext0 he
  (refine calls_enter Tryz.func147 Tryz.ntmps147 rfl rfl ?_)
  (refine r150 ?_)
  (refine G_draw No (0 :: 1 :: 2 :: 3 :: 4 :: 5 :: 6 :: 7 :: 8 :: 9 :: 10 :: 11 :: 12 :: 13 :: []) [] follows (by kernel_rfl) rfl ?_)
  (repeat (first | refine D_valE (fun w he => R_lookupP rfl rfl (g2.ext he (fun x => x)) ((hAg w he).live (hal a (List.mem_of_getElem? ha))) (hMap_live (hAg w he) hal)) hl1 rfl rfl ?_ | refine D_valE (fun w he => R_lookupP rfl rfl (g2.ext he (fun x => x)) ((hAg w he).live (hal b (List.mem_of_getElem? hb))) (hMap_live (hAg w he) hal)) hl2 rfl rfl ?_ | (refine cD_guard ?_; refine D_unwanted rfl rfl ?_) | (refine cD_load ?_; refine D_val0 (fun w he => R_loadB rfl (he.heap (fun x => x) hub') rfl) rfl rfl ?_) | refine r151 hAg ?_))
  refine D_nil fun w1 hw1 => ?_
  refine G_frame (l := [(0, ptr u), (1, ptr a), (2, ptr b), (7, ptr h), (8, ptr h')]) ⟨rfl, rfl, rfl, rfl, rfl, trivial⟩ fun f0 => ?_
  have c1 := hw1.heap (fun x => x) (g3 h (List.mem_of_getElem? hp)).1
  have c2 := hw1.heap (fun x => x) (g3 h' (List.mem_of_getElem? hq)).1
  have hh1 := live_heap c1
  have hh2 := live_heap c2
  rw [hv] at c1
  (repeat (first | (refine cL ?_; first | (refine cL_guard ?_; refine L_unwanted rfl rfl rfl ?_) | (refine cL_eql ?_; refine L_valB (R_eqP rfl rfl hh1 hh2) (peq_false hne) rfl rfl rfl ?_)) | refine r152 ?_))
  refine L_callR (setHandle_any (hw.ext hw1) hal hnd ha hp (List.mem_of_getElem? hq)) rfl rfl fun v w2 ⟨_, hw2, x2⟩ => ?_
  (refine r150 ?_)
  (refine G_retF rfl ?_)
  exact ⟨_, rfl, rfl, hw2, hw1.of_no.trans x2⟩

/-- 'nify' on two parameters that are joined -/
theorem nf_join {p q a b hp hq : Nat} (hd : d + 1 ≤ 50) (hal : ∀ a ∈ as_, LiveH H a) (hnd : as_.Nodup) (ha : as_[p]? = some a) (hb : as_[q]? = some b) (hpq : p ≠ q) (hhp : s.hs[p]? = some hp) (hhq : s.hs[q]? = some hq) {s' : HS} {Q : Bool → HS → Prop} (hQ : Q true s')
    (hj : ∀ w, UW (mkUC H as_ u hm M hu hH) s (d + 1) w → Calls Tryz.prog 147 #[ptr u, ptr b, ptr a] w (Ret fun v w' => v = .bool true ∧ UW (mkUC H as_ u hm M hu hH) s' (d + 1) w' ∧ Ext M w w')) :
    Nf (mkUC H as_ u hm M hu hH) 2 (.iface 72 (ptr a)) (.iface 72 (ptr b)) d s Q := by
  intro w hw
  have hl : LiveH H a := hal a (List.mem_of_getElem? ha)
  have hl' : LiveH H b := hal b (List.mem_of_getElem? hb)
  have hinc : Value.int .i64 (IntKind.i64.wrap ((d : Int) + 1)) = .int .i64 ((d + 1 : Nat) : Int) := by rw [wrap_i64 (by omega) (by omega)]; rfl
  have hle : decide (((d + 1 : Nat) : Int) > 50) = false := decide_eq_false (by omega)
  have hab : a ≠ b := fun h => hpq (nodup_inj hnd ha (h ▸ hb))
  have e : (Nat.beq 72 72 && peq (some ⟨a, 0, none⟩) (some ⟨b, 0, none⟩)) = false := by rw [peq_false hab]; rfl
  obtain ⟨C, hC⟩ : ∃ C, C = mkUC H as_ u hm M hu hH := ⟨_, rfl⟩
  have hCu : C.u = u := by rw [hC]; rfl
  have hCM : C.M = M := by rw [hC]; rfl
  have hCH : C.H = H := by rw [hC]; rfl
  have hCc : C.ck = .pointer none := by rw [hC]; rfl
  have hCm : C.hm = hm := by rw [hC]; rfl
  have hub := hw.ub
  unfold UCells at hub
  rw [← hC] at hw hub hj ⊢
  rw [← hCu, ← hCM] at hj
  unfold NfAt
  (refine calls_enter_d Tryz.func111 Tryz.ntmps111 rfl rfl ?_)
  (refine r94 ?_)
  refine L_box rfl rfl rfl fun b5 w1 hn1 => ?_
  have hub1 := hn1.ext.heap (fun x => x) hub
  have h51 := hn1.here
  (repeat (first | (refine cL ?_; first | (refine cL_guard ?_; refine L_unwanted rfl rfl rfl ?_) | (refine cL_add ?_; refine L_valE (R_addI rfl rfl) hinc rfl rfl rfl ?_)) | refine r95 ?_))
  refine L_store rfl hub1 rfl rfl rfl fun w2 hub2 e2 s2 => ?_
  have hb5 : b5 ≠ C.u := by have := lt_of_heap hub; have := hn1.fresh; omega
  have hbM : ¬ C.M b5 := fun x => by have := hw.ml _ x; have := hn1.fresh; omega
  have hw2 : UW C s (d + 1) w2 := (hw.ext hn1.ext).deep hub2 e2
  have x2 : Ext C.M w w2 := hn1.ext.of_no.trans (e2.mono fun i _ h => by rw [h]; exact C.hu)
  have h52 := e2.heap (fun x => hb5 x) h51
  clear hub1 h51 e2 hub2
  have hub2 := hw2.ub
  unfold UCells at hub2
  have hA : Agree H w2 := hCH ▸ hw2.ag
  (repeat (first | (refine cL ?_; first | refine L_val (R_makeFunc (xs := [.tmp 5])) rfl rfl rfl ?_) | refine r95 ?_))
  refine L_defer (R_deferV rfl) rfl rfl ?_
  have hbya : ∀ w', UW C s (d + 1) w' → Calls Tryz.prog 143 #[ptr C.u, .iface 72 (ptr a)] w' (Ret (Is (ptr a) w')) := fun w' hw' => by
    rw [hCu]
    exact abtp_yes (hC ▸ hw') hal hnd ha hhp
  have hbyb : ∀ w', UW C s (d + 1) w' → Calls Tryz.prog 143 #[ptr C.u, .iface 72 (ptr b)] w' (Ret (Is (ptr b) w')) := fun w' hw' => by
    rw [hCu]
    exact abtp_yes (hC ▸ hw') hal hnd hb hhq
  (repeat (first | (refine cL ?_; first | (refine cL_guard ?_; refine L_unwanted rfl rfl rfl ?_) | (refine cL_call ?_; first | refine L_callI (unalias_any _ _ _ rfl) rfl rfl ?_ | refine L_callI (asNamed_no _ _ _ rfl rfl) rfl rfl ?_ | refine L_callI (hbyb _ hw2) rfl rfl ?_ | refine L_callI (hbya _ hw2) rfl rfl ?_ | refine L_callI (isTypeLit_param _ _) rfl rfl ?_) | (refine cL_eql ?_; refine L_valB (R_eqIf rfl rfl (hA.live hl) (hA.live hl')) e rfl rfl rfl ?_) | (refine cL_gtr ?_; refine L_valB (R_gtI rfl rfl) hle rfl rfl rfl ?_) | (refine cL_and ?_; refine L_val (R_andI rfl rfl) rfl rfl rfl ?_)) | refine r95 ?_))
  (refine G_draw No (0 :: 1 :: 2 :: 3 :: 4 :: 5 :: 6 :: 7 :: []) [] follows (by kernel_rfl) rfl ?_)
  have hAg : ∀ w', Ext No w2 w' → Agree H w' := fun _ he => hA.ext0 he
  (repeat (first | (refine cD_guard ?_; refine D_unwanted rfl rfl ?_) | (refine cD_load ?_; refine D_val0 (fun w he => R_loadB rfl (he.heap (fun x => x) h52) rfl) rfl rfl ?_) | (refine cD_call ?_; first | refine D_callQ (fun w he => Is.qt (hbya _ (hw2.ext he))) rfl ?_ | refine D_callQ (fun w he => Is.qt (hbyb _ (hw2.ext he))) rfl ?_) | refine r96 hAg ?_))
  refine D_nil fun w3 he3 => ?_
  refine G_frame (l := [(1, .iface 72 (ptr b)), (2, .iface 72 (ptr a)), (3, .int .u64 _), (4, .pointer none), (5, ptr b5), (12, ptr b), (13, ptr a)]) ⟨rfl, rfl, rfl, rfl, rfl, rfl, rfl, trivial⟩ fun f0 => ?_
  have hw3 := hw2.ext he3
  have h53 := he3.heap (fun x => x) h52
  have x3 : Ext C.M w w3 := x2.trans he3.of_no
  (refine r94 ?_)
  refine L_callR (hj w3 hw3) rfl rfl fun v w4 ⟨hv, hw4, x4⟩ => ?_
  subst hv
  (refine r94 ?_)
  refine G_ret ?_
  intro tmps htm
  exact nf_leave (fun w => ResV.tmp rfl _ w tmps htm) rfl (x4.heap hbM h53) hw4 (by omega) hQ (x3.trans x4)

/-- 'nify' on two parameters of which two things are known -/
theorem nf_joinN {p q a b hp hq T T' x x' : Nat} (hd : d + 1 ≤ 50) (hal : ∀ a ∈ as_, LiveH H a) (hnd : as_.Nodup) (ha : as_[p]? = some a) (hb : as_[q]? = some b) (hpq : p ≠ q) (hhp : s.hs[p]? = some hp) (hhq : s.hs[q]? = some hq) (hne : hp ≠ hq) (hv : s.val hp = .iface T (ptr x)) (hv' : s.val hq = .iface T' (ptr x')) {Q : Bool → HS → Prop}
    (ih : Nf (mkUC H as_ u hm M hu hH) 2 (.iface T' (ptr x')) (.iface T (ptr x)) (d + 1) s Q) :
    Nf (mkUC H as_ u hm M hu hH) 2 (.iface 72 (ptr a)) (.iface 72 (ptr b)) d s Q := by
  intro w hw
  have hl : LiveH H a := hal a (List.mem_of_getElem? ha)
  have hl' : LiveH H b := hal b (List.mem_of_getElem? hb)
  have hinc : Value.int .i64 (IntKind.i64.wrap ((d : Int) + 1)) = .int .i64 ((d + 1 : Nat) : Int) := by rw [wrap_i64 (by omega) (by omega)]; rfl
  have hle : decide (((d + 1 : Nat) : Int) > 50) = false := decide_eq_false (by omega)
  have hab : a ≠ b := fun h => hpq (nodup_inj hnd ha (h ▸ hb))
  have e : (Nat.beq 72 72 && peq (some ⟨a, 0, none⟩) (some ⟨b, 0, none⟩)) = false := by rw [peq_false hab]; rfl
  obtain ⟨C, hC⟩ : ∃ C, C = mkUC H as_ u hm M hu hH := ⟨_, rfl⟩
  have hCu : C.u = u := by rw [hC]; rfl
  have hCM : C.M = M := by rw [hC]; rfl
  have hCH : C.H = H := by rw [hC]; rfl
  have hCc : C.ck = .pointer none := by rw [hC]; rfl
  have hCm : C.hm = hm := by rw [hC]; rfl
  have hub := hw.ub
  unfold UCells at hub
  rw [← hC] at hw hub ih ⊢
  unfold Nf NfAt at ih
  unfold NfAt
  (refine calls_enter_d Tryz.func111 Tryz.ntmps111 rfl rfl ?_)
  (refine r94 ?_)
  refine L_box rfl rfl rfl fun b5 w1 hn1 => ?_
  have hub1 := hn1.ext.heap (fun x => x) hub
  have h51 := hn1.here
  (repeat (first | (refine cL ?_; first | (refine cL_guard ?_; refine L_unwanted rfl rfl rfl ?_) | (refine cL_add ?_; refine L_valE (R_addI rfl rfl) hinc rfl rfl rfl ?_)) | refine r95 ?_))
  refine L_store rfl hub1 rfl rfl rfl fun w2 hub2 e2 s2 => ?_
  have hb5 : b5 ≠ C.u := by have := lt_of_heap hub; have := hn1.fresh; omega
  have hbM : ¬ C.M b5 := fun x => by have := hw.ml _ x; have := hn1.fresh; omega
  have hw2 : UW C s (d + 1) w2 := (hw.ext hn1.ext).deep hub2 e2
  have x2 : Ext C.M w w2 := hn1.ext.of_no.trans (e2.mono fun i _ h => by rw [h]; exact C.hu)
  have h52 := e2.heap (fun x => hb5 x) h51
  clear hub1 h51 e2 hub2
  have hub2 := hw2.ub
  unfold UCells at hub2
  have hA : Agree H w2 := hCH ▸ hw2.ag
  (repeat (first | (refine cL ?_; first | refine L_val (R_makeFunc (xs := [.tmp 5])) rfl rfl rfl ?_) | refine r95 ?_))
  refine L_defer (R_deferV rfl) rfl rfl ?_
  have hbya : ∀ w', UW C s (d + 1) w' → Calls Tryz.prog 143 #[ptr C.u, .iface 72 (ptr a)] w' (Ret (Is (ptr a) w')) := fun w' hw' => by
    rw [hCu]
    exact abtp_yes (hC ▸ hw') hal hnd ha hhp
  have hbyb : ∀ w', UW C s (d + 1) w' → Calls Tryz.prog 143 #[ptr C.u, .iface 72 (ptr b)] w' (Ret (Is (ptr b) w')) := fun w' hw' => by
    rw [hCu]
    exact abtp_yes (hC ▸ hw') hal hnd hb hhq
  (repeat (first | (refine cL ?_; first | (refine cL_guard ?_; refine L_unwanted rfl rfl rfl ?_) | (refine cL_call ?_; first | refine L_callI (unalias_any _ _ _ rfl) rfl rfl ?_ | refine L_callI (asNamed_no _ _ _ rfl rfl) rfl rfl ?_ | refine L_callI (hbyb _ hw2) rfl rfl ?_ | refine L_callI (hbya _ hw2) rfl rfl ?_ | refine L_callI (isTypeLit_param _ _) rfl rfl ?_) | (refine cL_eql ?_; refine L_valB (R_eqIf rfl rfl (hA.live hl) (hA.live hl')) e rfl rfl rfl ?_) | (refine cL_gtr ?_; refine L_valB (R_gtI rfl rfl) hle rfl rfl rfl ?_) | (refine cL_and ?_; refine L_val (R_andI rfl rfl) rfl rfl rfl ?_)) | refine r95 ?_))
  (refine G_draw No (0 :: 1 :: 2 :: 3 :: 4 :: 5 :: 6 :: 7 :: []) [] follows (by kernel_rfl) rfl ?_)
  have hAg : ∀ w', Ext No w2 w' → Agree H w' := fun _ he => hA.ext0 he
  (repeat (first | (refine cD_guard ?_; refine D_unwanted rfl rfl ?_) | (refine cD_load ?_; refine D_val0 (fun w he => R_loadB rfl (he.heap (fun x => x) h52) rfl) rfl rfl ?_) | (refine cD_call ?_; first | refine D_callQ (fun w he => Is.qt (hbya _ (hw2.ext he))) rfl ?_ | refine D_callQ (fun w he => Is.qt (hbyb _ (hw2.ext he))) rfl ?_) | refine r96 hAg ?_))
  refine D_nil fun w3 he3 => ?_
  refine G_frame (l := [(1, .iface 72 (ptr b)), (2, .iface 72 (ptr a)), (3, .int .u64 _), (4, .pointer none), (5, ptr b5), (12, ptr b), (13, ptr a)]) ⟨rfl, rfl, rfl, rfl, rfl, rfl, rfl, trivial⟩ fun f0 => ?_
  have hw3 := hw2.ext he3
  have h53 := he3.heap (fun x => x) h52
  have x3 : Ext C.M w w3 := x2.trans he3.of_no
  have hj : Calls Tryz.prog 147 #[ptr C.u, ptr b, ptr a] w3 (Ret fun v w' => v = .bool false ∧ UW C s (d + 1) w' ∧ Ext C.M w3 w') := by
    rw [hCu, hCM]
    exact (join_no (hC ▸ hw3) hal hnd hb ha hhq hhp (Ne.symm hne) hv' hv).mono fun _ w' ⟨v, h1, h2, h3, h4⟩ => ⟨v, h1, h2, hC ▸ h3, h4⟩
  (refine r94 ?_)
  refine L_callR hj rfl rfl fun v w4 ⟨hv4, hw4, x4⟩ => ?_
  subst hv4
  have h54 := x4.heap hbM h53
  (refine r94 ?_)
  (refine G_drawX C.M (.op 0 (.op 1 (.op 2 (.op 4 (.op 5 (.op 7 (.op 8 (.op 3 (.op 6 (.op 9 (.op 10 .nil))))))))))) [(3, 1), (6, 1), (9, 1)] follows (by kernel_rfl) ?_)
  have hAgM : ∀ w', Ext C.M w4 w' → Agree H w' := fun _ he => hCH ▸ hw4.ag.ext he C.hH
  have hata : ∀ w', UW C s (d + 1) w' → Calls Tryz.prog 112 #[ptr C.u, ptr a] w' (Ret (Is (.iface T (ptr x)) w')) := fun w' hw' => by
    rw [hCu, ← hv]
    exact at_any (hC ▸ hw') hal hnd ha hhp
  have hatb : ∀ w', UW C s (d + 1) w' → Calls Tryz.prog 112 #[ptr C.u, ptr b] w' (Ret (Is (.iface T' (ptr x')) w')) := fun w' hw' => by
    rw [hCu, ← hv']
    exact at_any (hC ▸ hw') hal hnd hb hhq
  (repeat (first | (refine cX_guard ?_; refine X_unwanted rfl rfl ?_) | (refine cX_load ?_; refine X_val0 (fun w he => R_loadB rfl (he.heap hbM h54) rfl) rfl rfl ?_) | refine r98 hAgM ?_))
  refine X_call (fun w' he => hatb w' (hw4.ext he)) rfl fun w5' v w5 he5 ⟨hv5, hw6⟩ => ?_
  subst hv5
  subst hw6
  refine ⟨Ext.refl _ _, ?_⟩
  have hw5 := hw4.ext he5
  have h55 := he5.heap (fun x => x) h54
  have hAgM5 : ∀ w', Ext C.M w5 w' → Agree H w' := fun _ he => hCH ▸ hw5.ag.ext he C.hH
  (repeat (first | (refine cX_guard ?_; refine X_unwanted rfl rfl ?_) | (refine cX_load ?_; refine X_val0 (fun w he => R_loadB rfl (he.heap hbM h55) rfl) rfl rfl ?_) | refine r98 hAgM5 ?_))
  refine X_call (fun w' he => hata w' (hw5.ext he)) rfl fun w6' v w6 he6 ⟨hv6, hw7⟩ => ?_
  subst hv6
  subst hw7
  refine ⟨Ext.refl _ _, ?_⟩
  have hw6 := hw5.ext he6
  have h56 := he6.heap (fun x => x) h55
  have hAgM6 : ∀ w', Ext C.M w6 w' → Agree H w' := fun _ he => hCH ▸ hw6.ag.ext he C.hH
  (repeat (first | (refine cX_guard ?_; refine X_unwanted rfl rfl ?_) | (refine cX_load ?_; refine X_val0 (fun w he => R_loadB rfl (he.heap hbM h56) rfl) rfl rfl ?_) | refine r98 hAgM6 ?_))
  refine X_call (fun w' he => ih w' (hw6.ext he)) rfl fun w7 v w8 he7 ⟨r, s8, hv8, hq8, hw8, x8⟩ => ⟨x8, ?_⟩
  subst hv8
  have h58 := x8.heap hbM (he7.heap (fun x => x) h56)
  have hAgM8 : ∀ w', Ext C.M w8 w' → Agree H w' := fun _ he => hCH ▸ hw8.ag.ext he C.hH
  (refine r99 hAgM8 ?_)
  refine X_nil fun w9 he9 => ?_
  (refine r94 ?_)
  refine G_ret ?_
  intro tmps htm
  exact nf_leave (fun w => ResV.tmp rfl _ w tmps htm) rfl (he9.heap (fun x => x) h58) (hw8.ext he9) (by omega) hq8 (x3.trans (x4.trans (he5.of_no.trans (he6.of_no.trans (he7.of_no.trans (x8.trans he9.of_no))))))
end
end Go.Proofs.YtjilnjifegeceaaGreatDoor

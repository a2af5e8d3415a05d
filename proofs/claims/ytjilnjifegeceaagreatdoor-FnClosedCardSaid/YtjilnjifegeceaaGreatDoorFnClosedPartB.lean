/-
  A part of the proof that laws.FnClosed returns true at every input: the walk's own rules and the contracts of functions, in build order.
  Its conditions are those of the statement: see the last text.
-/
import Derived.Laws.AppendOwn
import Derived.Laws.Slices
import Derived.Test.YtjilnjifegeceaaGreatDoorFnClosedPartA

/-
  The walk's own rules, seventh part: cuts; slices of slices; append onto a slice of one's own.
-/
namespace Go.Proofs.YtjilnjifegeceaaGreatDoor

section
variable {P : Program} {f : Fm} {w : World} {dst : Option Nat} {ty : TypeId} {pos : String} {aft : Array Edge} {g : Option (Nat × Bool)}

theorem R_lenS {t : Nat} {x : Operand} {s : ByteArray} [hs : StrT P t] (hx : ev f x = .string s) :
    (execOp (ev f) ⟨dst, .call ⟨.builtin .len, #[x], #[t]⟩, ty, pos, aft, g⟩).run P w = .ok (.value (.int .i64 s.size)) w := by
  simp only [execOp, resolve, Array.map, invoke]
  simp [hx, builtin, Builtin.len_, run_underlying hs.h, goInt]

theorem R_minI {t u : Nat} {x y : Operand} {k : IntKind} {a b : Int} (hx : ev f x = .int k a) (hy : ev f y = .int k b) :
    (execOp (ev f) ⟨dst, .call ⟨.builtin .min, #[x, y], #[t, u]⟩, ty, pos, aft, g⟩).run P w = .ok (.value (.int k (if b < a then b else a))) w := by
  simp only [execOp, resolve, Array.map, invoke]
  simp [hx, hy, builtin, Builtin.min_, Builtin.min2]

theorem add_zero'' (a : Addr) : a.add 0 = a := by simp [Addr.add]

theorem R_sliceH {t e sz len cap : Nat} {x y : Operand} {p : Option Addr} {kd : IntKind} {i : Int} [hs : SliceT P t e sz] (hx : ev f x = .slice p len cap) (hy : ev f y = .int kd i) (h0 : 0 ≤ i) (h1 : i ≤ cap) :
    (execOp (ev f) ⟨dst, .slice t x none (some y) none, ty, pos, aft, g⟩).run P w = .ok (.value (.slice p i.toNat cap)) w := by
  have e2 : (p.map fun a => a.add 0) = p := by cases p <;> simp [add_zero'']
  simp [execOp, hx, hy, Instr.sliceAt, Instr.slice, run_underlying hs.h, Instr.sliceBounds, run_sliceBound w kd i cap _ h0 h1, run_sizeOf_info hs.hi, e2]

theorem R_sliceL {t e sz len cap : Nat} {x y : Operand} {p : Option Addr} {kd : IntKind} {i : Int} [hs : SliceT P t e sz] (hx : ev f x = .slice p len cap) (hy : ev f y = .int kd i) (h0 : 0 ≤ i) (h1 : i ≤ len) :
    (execOp (ev f) ⟨dst, .slice t x (some y) none none, ty, pos, aft, g⟩).run P w = .ok (.value (.slice (if cap = i.toNat then p else p.map fun a => a.add (i.toNat * sz)) (len - i.toNat) (cap - i.toNat))) w := by
  simp [execOp, hx, hy, Instr.sliceAt, Instr.slice, run_underlying hs.h, Instr.sliceBounds, run_sliceBound w kd i len _ h0 h1, run_sizeOf_info hs.hi, hs.hs]
end

/-! ### a slice of one's own, one cell an element -/

def OwnS (w : World) (e : TypeId) (v : Value) (xs : List Value) : Prop :=
  (v = .slice none 0 0 ∧ xs = []) ∨ ∃ g cap r, v = .slice (some ⟨g, 0, none⟩) xs.length cap ∧ w.heap[g]? = some (Ob (xs ++ r) e) ∧ (xs ++ r).length = cap

theorem OwnS.keep {w w' : World} {e : TypeId} {v : Value} {xs : List Value} (h : OwnS w e v xs) (he : ∀ g o, v.ownBlock = some g → w.heap[g]? = some o → w'.heap[g]? = some o) : OwnS w' e v xs := by
  rcases h with ⟨rfl, rfl⟩ | ⟨g, cap, r, rfl, h2, h3⟩
  · exact .inl ⟨rfl, rfl⟩
  · exact .inr ⟨g, cap, r, rfl, he g _ rfl h2, h3⟩
theorem OwnS.ext {M : Nat → Prop} {w w' : World} {e : TypeId} {v : Value} {xs : List Value} (h : OwnS w e v xs) (he : Ext M w w') (hm : ∀ g, v.ownBlock = some g → ¬ M g) : OwnS w' e v xs :=
  h.keep fun g _ hg hb => he.heap (hm g hg) hb
theorem OwnS.lt {w : World} {e : TypeId} {v : Value} {xs : List Value} (h : OwnS w e v xs) : ∀ g, v.ownBlock = some g → g < w.heap.size := by
  intro g hg
  rcases h with ⟨rfl, rfl⟩ | ⟨g', cap, r, rfl, h2, h3⟩
  · cases hg
  · simp only [Value.ownBlock, Option.some.injEq] at hg
    subst hg
    exact lt_of_heap h2

class AppT (P : Program) (t : Nat) (e by_ : outParam Nat) : Prop where
  h : P.underlying t = some (.slice e)
  hi : (P.info? e).map (fun i => (i.zero.map (·.cells.size), i.size, i.bytes)) = some (some 1, 1, by_)

structure Pushed (w w' : World) (e : TypeId) (v v' : Value) (xs : List Value) : Prop where
  own : OwnS w' e v' xs
  ext : Ext (fun k => some k = v.ownBlock) w w'
  blk : (v'.ownBlock = v.ownBlock) ∨ v'.ownBlock = some w.heap.size
  some_ : ∃ g len cap, v' = .slice (some ⟨g, 0, none⟩) len cap

section
variable {P : Program} {f : Fm} {w : World} {dst : Option Nat} {ty : TypeId} {pos : String} {aft : Array Edge} {g : Option (Nat × Bool)}

theorem run_push {t e by_ : Nat} [ha : AppT P t e by_] {v : Value} {xs : List Value} (hown : OwnS w e v xs) {b c : Nat} {u : Value} {T : TypeId} (hb : w.heap[b]? = some (Ob [u] T)) (h1 : u.oneCell' = true)
    (hbd : (xs.length + 1) * by_ ≤ 140737488355328) (hl : xs.length + 1 ≤ maxLen) :
    ∃ v' w', (Builtin.append_ #[t, t] ty #[v, .slice (some ⟨b, 0, none⟩) 1 c]).run P w = .ok v' w' ∧ Pushed w w' e v v' (xs ++ [u]) := by
  obtain ⟨i, hi, hh⟩ := Option.map_eq_some_iff.1 ha.hi
  simp only [Prod.mk.injEq] at hh
  obtain ⟨hz, hsz, hby⟩ := hh
  obtain ⟨z, hz, hzs⟩ := Option.map_eq_some_iff.1 hz
  have hl' : xs.length + 1 ≤ 9223372036854775807 := by simp only [maxLen] at hl; omega
  have hnews : ∀ j x, ([u] : List Value)[j]? = some x → w.cell? ((⟨b, 0, none⟩ : Addr).add j) = some x := by
    intro j x hj
    rw [Addr.add_lit, Nat.zero_add]
    simp [World.cell?, hb, Ob]
    exact hj
  have hnl : ([u] : List Value).length = 1 * i.size := by rw [hsz]; rfl
  rcases hown with ⟨rfl, rfl⟩ | ⟨g', cap, r, rfl, hg, hcap⟩
  · have hr := run_append_nil (P := P) w t ty e i z ha.h hi hz ⟨b, 0, none⟩ 1 c [u] hnl hnews (by omega) (by omega) (by rw [hby]; simp at hbd; omega)
    refine ⟨_, _, hr, ⟨?_, ?_, .inr rfl, _, _, _, rfl⟩⟩
    · refine .inr ⟨_, _, (Builtin.zeroCells z.cells (grownCap w 1 0 e - 1)).toList, rfl, ?_, ?_⟩
      · show (w.drew.alloc _).heap[w.drew.heap.size]? = _
        rw [heap_alloc_new w.drew _]
        simp [Ob]
      · have := grownCap_ge w 1 0 e
        simp [size_zeroCells, hzs]
        omega
    · exact ⟨rfl, rfl, rfl, by simp, fun k hk _ => heap_alloc_old w.drew _ k hk⟩
  · by_cases hroom : xs.length + 1 ≤ cap
    · have hfit : xs.length * i.size + ([u] : List Value).length ≤ (xs ++ r).toArray.size := by rw [hsz]; simp at hcap ⊢; omega
      have hr := run_append_room (P := P) w t ty e i ha.h hi g' xs.length cap (xs ++ r).toArray hg ⟨b, 0, none⟩ 1 c [u] hnl hnews (by simpa using h1) hroom hfit
      refine ⟨_, _, hr, ⟨?_, ?_, .inl rfl, _, _, _, rfl⟩⟩
      · refine .inr ⟨g', cap, r.drop 1, by simp, ?_, ?_⟩
        · rw [setRow_heap w g' (xs ++ r).toArray _ e _ hg]
          simp [hsz, Ob, List.drop_append]
        · simp at hcap ⊢
          omega
      · exact ⟨rfl, rfl, rfl, by simp, fun k _ hk => setRow_other w g' k _ (fun e => hk (by simp [Value.ownBlock, e]))⟩
    · have holds : ∀ j x, xs[j]? = some x → w.cell? ((⟨g', 0, none⟩ : Addr).add j) = some x := by
        intro j x hj
        rw [Addr.add_lit, Nat.zero_add]
        have hj2 : (xs ++ r)[j]? = some x := by rw [List.getElem?_append_left (List.getElem?_eq_some_iff.1 hj).1]; exact hj
        simp only [World.cell?, hg, Ob]
        simpa using hj2
      have hr := run_append_grow (P := P) w t ty e i z ha.h hi hz ⟨g', 0, none⟩ xs.length cap xs (by rw [hsz]; simp) holds ⟨b, 0, none⟩ 1 c [u] hnl hnews (by omega) (by omega) (growslice_fits (by omega) (by rw [hby]; exact hbd))
      refine ⟨_, _, hr, ⟨?_, ?_, .inr rfl, _, _, _, rfl⟩⟩
      · refine .inr ⟨w.heap.size, grownCap w (xs.length + 1) cap e, (Builtin.zeroCells z.cells (grownCap w (xs.length + 1) cap e - (xs.length + 1))).toList, by simp, ?_, ?_⟩
        · show (w.drew.alloc _).heap[w.drew.heap.size]? = _
          rw [heap_alloc_new w.drew _]
          simp [Ob]
        · have := grownCap_ge w (xs.length + 1) cap e
          simp [size_zeroCells, hzs]
          omega
      · exact ⟨rfl, rfl, rfl, by simp, fun k hk _ => heap_alloc_old w.drew _ k hk⟩

theorem R_push {t e by_ : Nat} {x y : Operand} [ha : AppT P t e by_] {v : Value} {xs : List Value} (hv : ev f x = v) (hown : OwnS w e v xs) {b c : Nat} {u : Value} {T : TypeId} (hy : ev f y = .slice (some ⟨b, 0, none⟩) 1 c) (hb : w.heap[b]? = some (Ob [u] T)) (h1 : u.oneCell' = true)
    (hbd : (xs.length + 1) * by_ ≤ 140737488355328) (hl : xs.length + 1 ≤ maxLen) :
    ∃ v' w', (execOp (ev f) ⟨dst, .call ⟨.builtin .append, #[x, y], #[t, t]⟩, ty, pos, aft, g⟩).run P w = .ok (.value v') w' ∧ Pushed w w' e v v' (xs ++ [u]) := by
  obtain ⟨v', w', h2, h3⟩ := run_push (P := P) (ty := ty) (t := t) (c := c) hown hb h1 hbd hl
  refine ⟨v', w', ?_, h3⟩
  simp only [execOp, resolve, Array.map, invoke]
  simp [hv, hy, builtin, h2]

theorem L_push {n : Nat} {ops rest : List Oper} {K : LK} {ds : List Deferred} {d : Nat} {t e by_ : Nat} {x y : Operand} [ha : AppT P t e by_] {v : Value} {xs : List Value} (hv : ev f x = v) (hown : OwnS w e v xs) {b c : Nat} {u : Value} {T : TypeId} (hy : ev f y = .slice (some ⟨b, 0, none⟩) 1 c) (hb : w.heap[b]? = some (Ob [u] T)) (h1 : u.oneCell' = true)
    (hbd : (xs.length + 1) * by_ ≤ 140737488355328) (hl : xs.length + 1 ≤ maxLen) (hw : wantd ops f ⟨some d, .call ⟨.builtin .append, #[x, y], #[t, t]⟩, ty, pos, aft, g⟩ = true) (hn : Nat.blt d n = true)
    (h : ∀ v' w', Pushed w w' e v v' (xs ++ [u]) → L P n ops K rest (upd f d v') ds w') : L P n ops K (⟨some d, .call ⟨.builtin .append, #[x, y], #[t, t]⟩, ty, pos, aft, g⟩ :: rest) f ds w := by
  obtain ⟨v', w', h2, h3⟩ := R_push (P := P) (dst := some d) (ty := ty) (pos := pos) (aft := aft) (g := g) (t := t) hv hown hy hb h1 hbd hl
  exact L_val h2 hw rfl hn (h v' w' h3)
end
end Go.Proofs.YtjilnjifegeceaaGreatDoor

/-
  What the verifier's own functions say of types as data. Plain Lean.
-/
namespace Go.Proofs.YtjilnjifegeceaaGreatDoor

def elemsL (k : Int) : Int :=
  if k = 0 ∨ k = 2 ∨ k = 3 then 0 else if k = 7 then 2 else if k = 1 ∨ k = 9 ∨ k = 10 then -1 else 1

def limitL (nd : Nat) (k params own : Int) : Int :=
  if k = 0 then 17 else if k = 1 then nd else if k = 2 then params else if k = 3 then own else if k = 6 then -1 else if k = 8 then 3 else -2

def nmAt (es : List Ty) (i : Nat) : ByteArray := (es[i]?.map Ty.nm).getD ⟨#[]⟩

/-- one capital letter, as the verifier tests it -/
def letterB (s : ByteArray) : Bool :=
  ((s.size : Int) == 1) && (!(Op.bytesLess s.toList (⟨#[65]⟩ : ByteArray).toList) && (Op.bytesLess s.toList (⟨#[90]⟩ : ByteArray).toList || s.toList == (⟨#[90]⟩ : ByteArray).toList))

def nameB (es : List Ty) (i : Nat) : Bool := (List.range i).all (fun j => !beqB (nmAt es j) (nmAt es i)) && letterB (nmAt es i)

def namesB (es : List Ty) : Bool := (List.range es.length).all (nameB es)

/-! what is asked of one type's own parts, test for test -/
def head2 (k len : Int) : Bool := decide (k < 0) || (decide (k > 10) || (decide (elemsL k ≥ 0) && (len != elemsL k)))
def head4 (lim n : Int) : Bool := (decide (lim ≥ -1) && decide (n < 0)) || (decide (lim ≥ 0) && decide (n ≥ lim))
def head6 (ds : List (Int × Ty)) (k n len : Int) : Bool := (k == 1) && (len != (ds[n.toNat]?.map (·.1)).getD 0)
def head8 (k c : Int) (b : Bool) (es : List Ty) : Bool :=
  (k == 10) && (decide (c < 0) || (decide (c > es.length) || (b && ((c == 0) || ((es[(c - 1).toNat]?.map Ty.k).getD 0 != 5)))))
def headB (ds : List (Int × Ty)) (k n c : Int) (b : Bool) (es : List Ty) (params own : Int) : Bool :=
  !head2 k es.length && (!head4 (limitL ds.length k params own) n && (!head6 ds k n es.length && !head8 k c b es))

mutual
def shapedB (ds : List (Int × Ty)) (params own : Int) : Ty → Bool
  | .mk k n c b _ es => headB ds k n c b es params own && (shapedLB ds params own es && (!(k == 9) || namesB es))
def shapedLB (ds : List (Int × Ty)) (params own : Int) : List Ty → Bool
  | [] => true
  | e :: es => shapedB ds params own e && shapedLB ds params own es
end

mutual
def sizeW : Ty → Int
  | .mk _ _ _ _ _ es => sizeWL 1 es
def sizeWL (n : Int) : List Ty → Int
  | [] => n
  | e :: es => sizeWL (IntKind.i64.wrap (n + sizeW e)) es
end

def shAt (ds : List (Int × Ty)) (params own : Int) (es : List Ty) (i : Nat) : Bool := match es[i]? with | some e => shapedB ds params own e | none => true

theorem shapedLB_eq (ds : List (Int × Ty)) (params own : Int) : ∀ es : List Ty, shapedLB ds params own es = (List.range es.length).all (shAt ds params own es)
  | [] => rfl
  | e :: es => by
    rw [List.length_cons, List.range_succ_eq_map, List.all_cons, List.all_map, shapedLB, shapedLB_eq ds params own es]
    rfl

/-- part i of a type is in order -/
def partB (ds : List (Int × Ty)) (params own k : Int) (es : List Ty) (i : Nat) : Bool := shAt ds params own es i && (!(k == 9) || nameB es i)

theorem all_or (c : Bool) (p q : Nat → Bool) : ∀ l : List Nat, (l.all p && (c || l.all q)) = l.all fun i => p i && (c || q i)
  | [] => by cases c <;> rfl
  | a :: l => by
    simp only [List.all_cons]
    rw [← all_or c p q l]
    cases p a <;> cases q a <;> cases c <;> cases l.all p <;> cases l.all q <;> rfl

theorem shapedB_eq (ds : List (Int × Ty)) (params own : Int) (t : Ty) : shapedB ds params own t = (headB ds t.k t.n t.c t.b t.es params own && (List.range t.es.length).all (partB ds params own t.k t.es)) := by
  cases t with
  | mk k n c b nm es =>
    simp only [shapedB, Ty.k, Ty.n, Ty.c, Ty.b, Ty.es, shapedLB_eq, namesB]
    rw [all_or]
    rfl
end Go.Proofs.YtjilnjifegeceaaGreatDoor

/-
  The verifier's small functions on the input's types.
-/
namespace Go.Proofs.YtjilnjifegeceaaGreatDoor
set_option maxRecDepth 100000
set_option maxHeartbeats 4000000
attribute [local irreducible] Calls execOp

theorem r14 {G G' : Prop} (k : G') (h : Hid G' → G := by intro k_; (repeat (first | (refine cL ?_; first | (refine cL_move ?_; refine L_val R_move rfl rfl rfl ?_) | (refine cL_assign ?_; refine L_val R_assign rfl rfl rfl ?_) | (refine cL_eql ?_; first | refine L_val (R_eqPN rfl rfl) rfl rfl rfl ?_ | refine L_val (R_eqI rfl rfl) rfl rfl rfl ?_ | refine L_val (R_eqB rfl rfl) rfl rfl rfl ?_ | refine L_val (R_eqIfN rfl rfl) rfl rfl rfl ?_ | refine L_val (R_eqIfNN rfl) rfl rfl rfl ?_) | refine L_nil ?_) | refine G_seq ?_ | refine G_region ?_ | refine G_skip ?_ | refine G_block ?_ | refine G_end ?_ | refine G_true rfl ?_ | refine G_false rfl ?_)); exact k_.out) : G := h ⟨k⟩
theorem r15 {G G' : Prop} (k : G') (h : Hid G' → G := by intro k_; (first | (refine cL ?_; first | (refine cL_move ?_; refine L_val R_move rfl rfl rfl ?_) | (refine cL_assign ?_; refine L_val R_assign rfl rfl rfl ?_) | (refine cL_eql ?_; first | refine L_val (R_eqPN rfl rfl) rfl rfl rfl ?_ | refine L_val (R_eqI rfl rfl) rfl rfl rfl ?_ | refine L_val (R_eqB rfl rfl) rfl rfl rfl ?_ | refine L_val (R_eqIfN rfl rfl) rfl rfl rfl ?_ | refine L_val (R_eqIfNN rfl) rfl rfl rfl ?_) | refine L_nil ?_) | refine G_seq ?_ | refine G_region ?_ | refine G_skip ?_ | refine G_block ?_ | refine G_end ?_ | refine G_true rfl ?_ | refine G_false rfl ?_); exact k_.out) : G := h ⟨k⟩
theorem r16 {G G' : Prop} (k : G') (h : Hid G' → G := by intro k_; (repeat (first | (refine cL ?_; first | (refine cL_move ?_; refine L_val R_move rfl rfl rfl ?_) | (refine cL_assign ?_; refine L_val R_assign rfl rfl rfl ?_) | (refine cL_call ?_; refine L_val (R_len rfl) rfl rfl rfl ?_) | (refine cL_eql ?_; first | refine L_val (R_eqPN rfl rfl) rfl rfl rfl ?_ | refine L_val (R_eqI rfl rfl) rfl rfl rfl ?_ | refine L_val (R_eqB rfl rfl) rfl rfl rfl ?_ | refine L_val (R_eqIfN rfl rfl) rfl rfl rfl ?_ | refine L_val (R_eqIfNN rfl) rfl rfl rfl ?_) | refine L_nil ?_) | refine G_seq ?_ | refine G_region ?_ | refine G_skip ?_ | refine G_block ?_ | refine G_end ?_ | refine G_true rfl ?_ | refine G_false rfl ?_)); exact k_.out) : G := h ⟨k⟩
theorem r17 {G G' : Prop} (k : G') (h : Hid G' → G := by intro k_; (first | (refine cL ?_; first | (refine cL_move ?_; refine L_val R_move rfl rfl rfl ?_) | (refine cL_assign ?_; refine L_val R_assign rfl rfl rfl ?_) | (refine cL_call ?_; refine L_val (R_len rfl) rfl rfl rfl ?_) | (refine cL_eql ?_; first | refine L_val (R_eqPN rfl rfl) rfl rfl rfl ?_ | refine L_val (R_eqI rfl rfl) rfl rfl rfl ?_ | refine L_val (R_eqB rfl rfl) rfl rfl rfl ?_ | refine L_val (R_eqIfN rfl rfl) rfl rfl rfl ?_ | refine L_val (R_eqIfNN rfl) rfl rfl rfl ?_) | refine L_nil ?_) | refine G_seq ?_ | refine G_region ?_ | refine G_skip ?_ | refine G_block ?_ | refine G_end ?_ | refine G_true rfl ?_ | refine G_false rfl ?_); exact k_.out) : G := h ⟨k⟩

theorem elems_any (k : Int) (w : World) : Calls Tryz.prog 25 #[.int .i64 k] w (Ret (Is (.int .i64 (elemsL k)) w)) := by
  cases e0 : (k == 0) with
  | true =>
    have hk : k = 0 := by simpa using e0
    subst hk
    (refine calls_enter Tryz.func25 Tryz.ntmps25 rfl rfl ?_)
    (refine r14 ?_)
    (refine G_retF rfl ?_)
    exact ⟨_, rfl, rfl, rfl⟩
  | false =>
  cases e2 : (k == 2) with
  | true =>
    have hk : k = 2 := by simpa using e2
    subst hk
    (refine calls_enter Tryz.func25 Tryz.ntmps25 rfl rfl ?_)
    (refine r14 ?_)
    (refine G_retF rfl ?_)
    exact ⟨_, rfl, rfl, rfl⟩
  | false =>
  cases e3 : (k == 3) with
  | true =>
    have hk : k = 3 := by simpa using e3
    subst hk
    (refine calls_enter Tryz.func25 Tryz.ntmps25 rfl rfl ?_)
    (refine r14 ?_)
    (refine G_retF rfl ?_)
    exact ⟨_, rfl, rfl, rfl⟩
  | false =>
  cases e7 : (k == 7) with
  | true =>
    have hk : k = 7 := by simpa using e7
    subst hk
    (refine calls_enter Tryz.func25 Tryz.ntmps25 rfl rfl ?_)
    (refine r14 ?_)
    (refine G_retF rfl ?_)
    exact ⟨_, rfl, rfl, rfl⟩
  | false =>
  cases e1 : (k == 1) with
  | true =>
    have hk : k = 1 := by simpa using e1
    subst hk
    (refine calls_enter Tryz.func25 Tryz.ntmps25 rfl rfl ?_)
    (refine r14 ?_)
    (refine G_retF rfl ?_)
    exact ⟨_, rfl, rfl, rfl⟩
  | false =>
  cases e9 : (k == 9) with
  | true =>
    have hk : k = 9 := by simpa using e9
    subst hk
    (refine calls_enter Tryz.func25 Tryz.ntmps25 rfl rfl ?_)
    (refine r14 ?_)
    (refine G_retF rfl ?_)
    exact ⟨_, rfl, rfl, rfl⟩
  | false =>
  cases e10 : (k == 10) with
  | true =>
    have hk : k = 10 := by simpa using e10
    subst hk
    (refine calls_enter Tryz.func25 Tryz.ntmps25 rfl rfl ?_)
    (refine r14 ?_)
    (refine G_retF rfl ?_)
    exact ⟨_, rfl, rfl, rfl⟩
  | false =>
    have hv : elemsL k = 1 := by simp at e0 e2 e3 e7 e1 e9 e10; simp [elemsL, *]
    rw [hv]
    (refine calls_enter Tryz.func25 Tryz.ntmps25 rfl rfl ?_)
    (repeat (first | (refine cL ?_; first | (refine cL_eql ?_; first | refine L_valB (R_eqI rfl rfl) e0 rfl rfl rfl ?_ | refine L_valB (R_eqI rfl rfl) e2 rfl rfl rfl ?_ | refine L_valB (R_eqI rfl rfl) e3 rfl rfl rfl ?_ | refine L_valB (R_eqI rfl rfl) e7 rfl rfl rfl ?_ | refine L_valB (R_eqI rfl rfl) e1 rfl rfl rfl ?_ | refine L_valB (R_eqI rfl rfl) e9 rfl rfl rfl ?_ | refine L_valB (R_eqI rfl rfl) e10 rfl rfl rfl ?_)) | refine r15 ?_))
    (refine G_retF rfl ?_)
    exact ⟨_, rfl, rfl, rfl⟩

theorem limit_any (p : Option Addr) (nd cap : Nat) (k params own : Int) (w : World) : Calls Tryz.prog 26 #[.slice p nd cap, .int .i64 k, .int .i64 params, .int .i64 own] w (Ret (Is (.int .i64 (limitL nd k params own)) w)) := by
  cases e0 : (k == 0) with
  | true =>
    have hk : k = 0 := by simpa using e0
    subst hk
    (refine calls_enter Tryz.func26 Tryz.ntmps26 rfl rfl ?_)
    (refine r16 ?_)
    (refine G_retF rfl ?_)
    exact ⟨_, rfl, rfl, rfl⟩
  | false =>
  cases e1 : (k == 1) with
  | true =>
    have hk : k = 1 := by simpa using e1
    subst hk
    (refine calls_enter Tryz.func26 Tryz.ntmps26 rfl rfl ?_)
    (refine r16 ?_)
    (refine G_retF rfl ?_)
    exact ⟨_, rfl, rfl, rfl⟩
  | false =>
  cases e2 : (k == 2) with
  | true =>
    have hk : k = 2 := by simpa using e2
    subst hk
    (refine calls_enter Tryz.func26 Tryz.ntmps26 rfl rfl ?_)
    (refine r16 ?_)
    (refine G_retF rfl ?_)
    exact ⟨_, rfl, rfl, rfl⟩
  | false =>
  cases e3 : (k == 3) with
  | true =>
    have hk : k = 3 := by simpa using e3
    subst hk
    (refine calls_enter Tryz.func26 Tryz.ntmps26 rfl rfl ?_)
    (refine r16 ?_)
    (refine G_retF rfl ?_)
    exact ⟨_, rfl, rfl, rfl⟩
  | false =>
  cases e6 : (k == 6) with
  | true =>
    have hk : k = 6 := by simpa using e6
    subst hk
    (refine calls_enter Tryz.func26 Tryz.ntmps26 rfl rfl ?_)
    (refine r16 ?_)
    (refine G_retF rfl ?_)
    exact ⟨_, rfl, rfl, rfl⟩
  | false =>
  cases e8 : (k == 8) with
  | true =>
    have hk : k = 8 := by simpa using e8
    subst hk
    (refine calls_enter Tryz.func26 Tryz.ntmps26 rfl rfl ?_)
    (refine r16 ?_)
    (refine G_retF rfl ?_)
    exact ⟨_, rfl, rfl, rfl⟩
  | false =>
    have hv : limitL nd k params own = -2 := by simp at e0 e1 e2 e3 e6 e8; simp [limitL, *]
    rw [hv]
    (refine calls_enter Tryz.func26 Tryz.ntmps26 rfl rfl ?_)
    (repeat (first | (refine cL ?_; first | (refine cL_eql ?_; first | refine L_valB (R_eqI rfl rfl) e0 rfl rfl rfl ?_ | refine L_valB (R_eqI rfl rfl) e1 rfl rfl rfl ?_ | refine L_valB (R_eqI rfl rfl) e2 rfl rfl rfl ?_ | refine L_valB (R_eqI rfl rfl) e3 rfl rfl rfl ?_ | refine L_valB (R_eqI rfl rfl) e6 rfl rfl rfl ?_ | refine L_valB (R_eqI rfl rfl) e8 rfl rfl rfl ?_)) | refine r17 ?_))
    (refine G_retF rfl ?_)
    exact ⟨_, rfl, rfl, rfl⟩
end Go.Proofs.YtjilnjifegeceaaGreatDoor

/-
  The verifier's 'fieldName' and 'shaped' on the input's types.
-/
namespace Go.Proofs.YtjilnjifegeceaaGreatDoor
set_option maxRecDepth 100000
set_option maxHeartbeats 4000000
attribute [local irreducible] Calls execOp

theorem r18 {G G' : Prop} (k : G') (h : Hid G' → G := by intro k_; (first | (refine cL ?_; first | (refine cL_guard ?_; refine L_unwanted rfl rfl rfl ?_) | (refine cL_move ?_; refine L_val R_move rfl rfl rfl ?_) | (refine cL_load ?_; first | refine L_val (R_loadB rfl (by assumption) (by rfl)) rfl rfl rfl ?_ | refine L_val (R_loadH (by assumption) rfl (by assumption) (by rfl)) rfl rfl rfl ?_) | (refine cL_fieldAddr ?_; refine L_val (R_fa rfl) rfl rfl rfl ?_) | (refine cL_assign ?_; refine L_val R_assign rfl rfl rfl ?_) | (refine cL_call ?_; refine L_val (R_len rfl) rfl rfl rfl ?_) | (refine cL_pick ?_; first | refine L_val (R_pickT rfl) rfl rfl rfl ?_ | refine L_val (R_pickF rfl) rfl rfl rfl ?_) | (refine cL_eql ?_; first | refine L_val (R_eqPN rfl rfl) rfl rfl rfl ?_ | refine L_val (R_eqI rfl rfl) rfl rfl rfl ?_ | refine L_val (R_eqB rfl rfl) rfl rfl rfl ?_ | refine L_val (R_eqIfN rfl rfl) rfl rfl rfl ?_ | refine L_val (R_eqIfNN rfl) rfl rfl rfl ?_) | (refine cL_lss ?_; refine L_val (R_ltI rfl rfl) rfl rfl rfl ?_) | (refine cL_add ?_; refine L_val (R_addI rfl rfl) rfl rfl rfl ?_) | (refine cL_leq ?_; refine L_val (R_leI rfl rfl) rfl rfl rfl ?_) | (refine cL_geq ?_; refine L_val (R_geI rfl rfl) rfl rfl rfl ?_) | refine L_nil ?_) | refine G_seq ?_ | refine G_region ?_ | refine G_skip ?_ | refine G_block ?_ | refine G_end ?_ | refine G_true rfl ?_ | refine G_false rfl ?_); exact k_.out) : G := h ⟨k⟩
theorem r19 {G G' : Prop} (k : G') (h : Hid G' → G := by intro k_; (repeat (first | (refine cL ?_; first | (refine cL_guard ?_; refine L_unwanted rfl rfl rfl ?_) | (refine cL_move ?_; refine L_val R_move rfl rfl rfl ?_) | (refine cL_load ?_; first | refine L_val (R_loadB rfl (by assumption) (by rfl)) rfl rfl rfl ?_ | refine L_val (R_loadH (by assumption) rfl (by assumption) (by rfl)) rfl rfl rfl ?_) | (refine cL_fieldAddr ?_; refine L_val (R_fa rfl) rfl rfl rfl ?_) | (refine cL_assign ?_; refine L_val R_assign rfl rfl rfl ?_) | (refine cL_call ?_; refine L_val (R_len rfl) rfl rfl rfl ?_) | (refine cL_pick ?_; first | refine L_val (R_pickT rfl) rfl rfl rfl ?_ | refine L_val (R_pickF rfl) rfl rfl rfl ?_) | (refine cL_eql ?_; first | refine L_val (R_eqPN rfl rfl) rfl rfl rfl ?_ | refine L_val (R_eqI rfl rfl) rfl rfl rfl ?_ | refine L_val (R_eqB rfl rfl) rfl rfl rfl ?_ | refine L_val (R_eqIfN rfl rfl) rfl rfl rfl ?_ | refine L_val (R_eqIfNN rfl) rfl rfl rfl ?_) | (refine cL_lss ?_; refine L_val (R_ltI rfl rfl) rfl rfl rfl ?_) | (refine cL_add ?_; refine L_val (R_addI rfl rfl) rfl rfl rfl ?_) | (refine cL_leq ?_; refine L_val (R_leI rfl rfl) rfl rfl rfl ?_) | (refine cL_geq ?_; refine L_val (R_geI rfl rfl) rfl rfl rfl ?_) | refine L_nil ?_) | refine G_seq ?_ | refine G_region ?_ | refine G_skip ?_ | refine G_block ?_ | refine G_end ?_ | refine G_true rfl ?_ | refine G_false rfl ?_)); exact k_.out) : G := h ⟨k⟩
theorem r20 {G G' A : Prop} (ag : A) (k : G') (h : Hid G' → A → G := by intro k_ ag_; (first | (refine cD_guard ?_; refine D_unwanted rfl rfl ?_) | (refine cD_move ?_; refine D_val0 (fun _ _ => R_move) rfl rfl ?_) | (refine cD_load ?_; refine D_val0 (fun w he => R_loadH (ag_ w he) rfl (by assumption) (by rfl)) rfl rfl ?_) | (refine cD_fieldAddr ?_; refine D_val0 (fun _ _ => R_fa rfl) rfl rfl ?_) | (refine cD_assign ?_; refine D_val0 (fun _ _ => R_assign) rfl rfl ?_) | (refine cD_call ?_; refine D_val0 (fun _ _ => R_len rfl) rfl rfl ?_) | (refine cD_pick ?_; first | refine D_val0 (fun _ _ => R_pickT rfl) rfl rfl ?_ | refine D_val0 (fun _ _ => R_pickF rfl) rfl rfl ?_) | (refine cD_eql ?_; first | refine D_val0 (fun _ _ => R_eqPN rfl rfl) rfl rfl ?_ | refine D_val0 (fun _ _ => R_eqI rfl rfl) rfl rfl ?_ | refine D_val0 (fun _ _ => R_eqB rfl rfl) rfl rfl ?_ | refine D_val0 (fun _ _ => R_eqIfN rfl rfl) rfl rfl ?_ | refine D_val0 (fun _ _ => R_eqIfNN rfl) rfl rfl ?_) | (refine cD_lss ?_; refine D_val0 (fun _ _ => R_ltI rfl rfl) rfl rfl ?_) | (refine cD_add ?_; refine D_val0 (fun _ _ => R_addI rfl rfl) rfl rfl ?_) | (refine cD_leq ?_; refine D_val0 (fun _ _ => R_leI rfl rfl) rfl rfl ?_) | (refine cD_geq ?_; refine D_val0 (fun _ _ => R_geI rfl rfl) rfl rfl ?_)); exact k_.out) : G := h ⟨k⟩ ag

theorem nmAt_eq {es : List Ty} {i : Nat} {e : Ty} (h : es[i]? = some e) : nmAt es i = e.nm := by simp [nmAt, h]

theorem fieldName_any {H : Hp} {es : List Ty} {p : Option Addr} {cap i : Nat} (w : World) (hA : Agree H w) (hes : DSl H es p) (hi : i < es.length) (hcap : es.length ≤ cap) (hbd : es.length < 9223372036854775808) :
    Calls Tryz.prog 27 #[.slice p es.length cap, .int .i64 (i : Int)] w (Ret (Qt (.bool (nameB es i)) w)) := by
  obtain ⟨e, he⟩ : ∃ v, es[i]? = some v := ⟨_, List.getElem?_eq_getElem hi⟩
  obtain ⟨bk, off, ec, rfl, hec, hed⟩ := hes.get he
  obtain ⟨q, qcap, rfl, -, -, -, -, -⟩ := hed.cells
  (refine calls_enter Tryz.func27 Tryz.ntmps27 rfl rfl ?_)
  (repeat (first | (refine cL ?_; first | (refine cL_guard ?_; refine L_unwanted rfl rfl rfl ?_) | (refine cL_slice ?_; refine L_valE (v' := .slice (some ⟨bk, off, none⟩) i cap) (R_sliceH rfl rfl (by omega) (by omega)) rfl rfl rfl rfl ?_)) | refine r18 ?_))
  refine G_loop (CountI 11 10 i [(0, .slice (some ⟨bk, off, none⟩) es.length cap), (1, .int .i64 (i : Int)), (9, .slice (some ⟨bk, off, none⟩) i cap)] w fun j => ∀ l, l < j → (!beqB (nmAt es l) (nmAt es i)) = true) (fun f _ _ => countM 11 10 f)
    ⟨rfl, Ext.refl _ _, _, 0, with_self ⟨rfl, rfl, rfl, rfl, rfl, trivial⟩, Nat.zero_le _, fun j hj => absurd hj (Nat.not_lt_zero j)⟩ ?_
  rintro f ds wr ⟨rfl, hext, f0, j, rfl, hj, hJ⟩
  have hAr := hA.ext0 hext
  by_cases h : j < i
  · have hb : decide ((j : Int) < (i : Int)) = true := decide_eq_true (by omega)
    obtain ⟨e', he'⟩ : ∃ v', es[j]? = some v' := ⟨_, List.getElem?_eq_getElem (by omega)⟩
    obtain ⟨bk', off', ec', hp', hec', hed'⟩ := hes.get he'
    simp only [Option.some.injEq, Addr.mk.injEq, and_true] at hp'
    obtain ⟨h1, h2⟩ := hp'
    subst h1
    subst h2
    obtain ⟨q', qcap', rfl, -, -, -, -, -⟩ := hed'.cells
    (repeat (first | (refine cL ?_; first | (refine cL_guard ?_; refine L_unwanted rfl rfl rfl ?_) | (refine cL_load ?_; refine L_val (R_loadA rfl rfl fun j v hj => hAr.hcell (hec' j v hj)) rfl rfl rfl ?_) | (refine cL_lss ?_; refine L_valB (R_ltI rfl rfl) hb rfl rfl rfl ?_) | (refine cL_indexAddr ?_; refine L_valE (R_ia rfl rfl (by omega) (by omega)) (ia6 _ _ _) rfl rfl rfl ?_)) | refine r18 ?_))
    refine L_allocS rfl rfl fun b6 w3 hn3 => ?_
    (refine r19 ?_)
    refine L_storeA rfl hn3.here rfl rfl rfl rfl rfl rfl fun w4 h4 e4 s4 => ?_
    obtain ⟨H4, g4, hb6⟩ := Grow.ofNew hAr (hn3.store h4 e4 s4)
    have hAg : ∀ w', Ext No w4 w' → Agree _ w' := fun _ he => g4.ag.ext0 he
    have hec2 := hec.mono g4.le
    have hnm : (e'.nm.toList == e.nm.toList) = beqB (nmAt es j) (nmAt es i) := by rw [nmAt_eq he, nmAt_eq he']; rfl
    (refine r19 ?_)
    (refine G_draw No (0 :: 1 :: 2 :: 3 :: 4 :: 5 :: 6 :: 7 :: []) [] follows (by kernel_rfl) rfl ?_)
    cases hbn : beqB (nmAt es j) (nmAt es i) with
    | true =>
      rw [hbn] at hnm
      (repeat (first | (refine cD_guard ?_; refine D_unwanted rfl rfl ?_) | (refine cD_load ?_; refine D_val0 (fun w he => R_load rfl ((hAg w he).hcell (hec2 5 _ rfl))) rfl rfl ?_) | (refine cD_eql ?_; refine D_valB (fun _ _ => R_eqS rfl rfl) hnm rfl rfl ?_) | (refine cD_indexAddr ?_; refine D_valE (fun _ _ => R_ia rfl rfl (by omega) (by omega)) (ia6 _ _ _) rfl rfl ?_) | refine r20 hAg ?_))
      refine D_nil fun w5 hw5 => ?_
      (refine r19 ?_)
      (refine G_retF rfl ?_)
      refine ⟨_, rfl, ?_, hext.trans (g4.ext.trans hw5)⟩
      have hv : nameB es i = false := by
        unfold nameB
        rw [allR_false (i := j) h (by rw [hbn]; rfl)]
        rfl
      rw [hv]
      rfl
    | false =>
      rw [hbn] at hnm
      (repeat (first | (refine cD_guard ?_; refine D_unwanted rfl rfl ?_) | (refine cD_load ?_; refine D_val0 (fun w he => R_load rfl ((hAg w he).hcell (hec2 5 _ rfl))) rfl rfl ?_) | (refine cD_eql ?_; refine D_valB (fun _ _ => R_eqS rfl rfl) hnm rfl rfl ?_) | (refine cD_indexAddr ?_; refine D_valE (fun _ _ => R_ia rfl rfl (by omega) (by omega)) (ia6 _ _ _) rfl rfl ?_) | refine r20 hAg ?_))
      refine D_nil fun w5 hw5 => ?_
      (repeat (first | (refine cL ?_; first | (refine cL_guard ?_; refine L_unwanted rfl rfl rfl ?_) | (refine cL_add ?_; refine L_valE (R_addI rfl rfl) (succ_i64 h (by omega)) rfl rfl rfl ?_)) | refine r18 ?_))
      refine G_inv ⟨⟨rfl, hext.trans (g4.ext.trans hw5), _, j + 1, with_self ⟨rfl, rfl, rfl, rfl, rfl, trivial⟩, h, fun l hl => ?_⟩, ?_⟩
      · rcases Nat.lt_succ_iff_lt_or_eq.1 hl with hl | rfl
        · exact hJ l hl
        · rw [hbn]; rfl
      · show ((i : Int) - ((j + 1 : Nat) : Int)).toNat < ((i : Int) - (j : Int)).toNat
        omega
  · have hb : decide ((j : Int) < (i : Int)) = false := decide_eq_false (by omega)
    have hall : (List.range i).all (fun j => !beqB (nmAt es j) (nmAt es i)) = true := allR_true fun l hl => hJ l (by omega)
    have hv : nameB es i = letterB e.nm := by unfold nameB; rw [hall, nmAt_eq he]; rfl
    rw [hv]
    unfold letterB
    cases c1 : ((e.nm.size : Int) == 1) with
    | false =>
      (repeat (first | (refine cL ?_; first | (refine cL_guard ?_; refine L_unwanted rfl rfl rfl ?_) | (refine cL_load ?_; refine L_val (R_load rfl (hAr.hcell (hec 5 _ rfl))) rfl rfl rfl ?_) | (refine cL_call ?_; refine L_val (R_lenS rfl) rfl rfl rfl ?_) | (refine cL_eql ?_; refine L_valB (R_eqI rfl rfl) c1 rfl rfl rfl ?_) | (refine cL_lss ?_; refine L_valB (R_ltI rfl rfl) hb rfl rfl rfl ?_) | (refine cL_indexAddr ?_; refine L_valE (R_ia rfl rfl (by omega) (by omega)) (ia6 _ _ _) rfl rfl rfl ?_)) | refine G_exit rfl ?_ | refine r18 ?_))
      (refine G_retF rfl ?_)
      exact ⟨_, rfl, rfl, hext⟩
    | true =>
      cases c2 : (!(Op.bytesLess e.nm.toList (⟨#[65]⟩ : ByteArray).toList)) with
      | false =>
        (repeat (first | (refine cL ?_; first | (refine cL_guard ?_; refine L_unwanted rfl rfl rfl ?_) | (refine cL_load ?_; refine L_val (R_load rfl (hAr.hcell (hec 5 _ rfl))) rfl rfl rfl ?_) | (refine cL_call ?_; refine L_val (R_lenS rfl) rfl rfl rfl ?_) | (refine cL_eql ?_; refine L_valB (R_eqI rfl rfl) c1 rfl rfl rfl ?_) | (refine cL_lss ?_; refine L_valB (R_ltI rfl rfl) hb rfl rfl rfl ?_) | (refine cL_indexAddr ?_; refine L_valE (R_ia rfl rfl (by omega) (by omega)) (ia6 _ _ _) rfl rfl rfl ?_) | (refine cL_geq ?_; refine L_valB (R_geS rfl rfl) c2 rfl rfl rfl ?_)) | refine G_exit rfl ?_ | refine r18 ?_))
        (refine G_retF rfl ?_)
        exact ⟨_, rfl, rfl, hext⟩
      | true =>
        (repeat (first | (refine cL ?_; first | (refine cL_guard ?_; refine L_unwanted rfl rfl rfl ?_) | (refine cL_load ?_; refine L_val (R_load rfl (hAr.hcell (hec 5 _ rfl))) rfl rfl rfl ?_) | (refine cL_call ?_; refine L_val (R_lenS rfl) rfl rfl rfl ?_) | (refine cL_eql ?_; refine L_valB (R_eqI rfl rfl) c1 rfl rfl rfl ?_) | (refine cL_lss ?_; refine L_valB (R_ltI rfl rfl) hb rfl rfl rfl ?_) | (refine cL_indexAddr ?_; refine L_valE (R_ia rfl rfl (by omega) (by omega)) (ia6 _ _ _) rfl rfl rfl ?_) | (refine cL_leq ?_; refine L_val (R_leS rfl rfl) rfl rfl rfl ?_) | (refine cL_geq ?_; refine L_valB (R_geS rfl rfl) c2 rfl rfl rfl ?_)) | refine G_exit rfl ?_ | refine r18 ?_))
        (refine G_retF rfl ?_)
        exact ⟨_, rfl, rfl, hext⟩
end Go.Proofs.YtjilnjifegeceaaGreatDoor

/-
  The verifier's 'shaped' on the input's types.
-/
namespace Go.Proofs.YtjilnjifegeceaaGreatDoor
set_option maxRecDepth 100000
set_option maxHeartbeats 4000000
attribute [local irreducible] Calls execOp

theorem r21 {G G' : Prop} (k : G') (h : Hid G' → G := by intro k_; (repeat (first | (refine cL ?_; first | (refine cL_guard ?_; refine L_unwanted rfl rfl rfl ?_) | (refine cL_move ?_; refine L_val R_move rfl rfl rfl ?_) | (refine cL_load ?_; first | refine L_val (R_loadB rfl (by assumption) (by rfl)) rfl rfl rfl ?_ | refine L_val (R_loadH (by assumption) rfl (by assumption) (by rfl)) rfl rfl rfl ?_) | (refine cL_fieldAddr ?_; refine L_val (R_fa rfl) rfl rfl rfl ?_) | (refine cL_assign ?_; refine L_val R_assign rfl rfl rfl ?_) | (refine cL_call ?_; refine L_val (R_len rfl) rfl rfl rfl ?_) | (refine cL_pick ?_; first | refine L_val (R_pickT rfl) rfl rfl rfl ?_ | refine L_val (R_pickF rfl) rfl rfl rfl ?_) | (refine cL_eql ?_; first | refine L_val (R_eqPN rfl rfl) rfl rfl rfl ?_ | refine L_val (R_eqI rfl rfl) rfl rfl rfl ?_ | refine L_val (R_eqB rfl rfl) rfl rfl rfl ?_ | refine L_val (R_eqIfN rfl rfl) rfl rfl rfl ?_ | refine L_val (R_eqIfNN rfl) rfl rfl rfl ?_) | (refine cL_neq ?_; first | refine L_val (R_nePN rfl rfl) rfl rfl rfl ?_ | refine L_val (R_neI rfl rfl) rfl rfl rfl ?_ | refine L_val (R_neB rfl rfl) rfl rfl rfl ?_ | refine L_val (R_neIfN rfl rfl) rfl rfl rfl ?_ | refine L_val (R_neIfNN rfl) rfl rfl rfl ?_) | (refine cL_lss ?_; refine L_val (R_ltI rfl rfl) rfl rfl rfl ?_) | (refine cL_not ?_; refine L_val (R_not rfl) rfl rfl rfl ?_) | (refine cL_add ?_; refine L_val (R_addI rfl rfl) rfl rfl rfl ?_) | (refine cL_sub ?_; refine L_val (R_subI rfl rfl) rfl rfl rfl ?_) | (refine cL_gtr ?_; refine L_val (R_gtI rfl rfl) rfl rfl rfl ?_) | (refine cL_geq ?_; refine L_val (R_geI rfl rfl) rfl rfl rfl ?_) | refine L_nil ?_) | refine G_seq ?_ | refine G_region ?_ | refine G_skip ?_ | refine G_block ?_ | refine G_end ?_ | refine G_true rfl ?_ | refine G_false rfl ?_)); exact k_.out) : G := h ⟨k⟩
theorem r22 {G G' A : Prop} (ag : A) (k : G') (h : Hid G' → A → G := by intro k_ ag_; (first | (refine cD_guard ?_; refine D_unwanted rfl rfl ?_) | (refine cD_move ?_; refine D_val0 (fun _ _ => R_move) rfl rfl ?_) | (refine cD_load ?_; refine D_val0 (fun w he => R_loadH (ag_ w he) rfl (by assumption) (by rfl)) rfl rfl ?_) | (refine cD_fieldAddr ?_; refine D_val0 (fun _ _ => R_fa rfl) rfl rfl ?_) | (refine cD_assign ?_; refine D_val0 (fun _ _ => R_assign) rfl rfl ?_) | (refine cD_call ?_; refine D_val0 (fun _ _ => R_len rfl) rfl rfl ?_) | (refine cD_pick ?_; first | refine D_val0 (fun _ _ => R_pickT rfl) rfl rfl ?_ | refine D_val0 (fun _ _ => R_pickF rfl) rfl rfl ?_) | (refine cD_eql ?_; first | refine D_val0 (fun _ _ => R_eqPN rfl rfl) rfl rfl ?_ | refine D_val0 (fun _ _ => R_eqI rfl rfl) rfl rfl ?_ | refine D_val0 (fun _ _ => R_eqB rfl rfl) rfl rfl ?_ | refine D_val0 (fun _ _ => R_eqIfN rfl rfl) rfl rfl ?_ | refine D_val0 (fun _ _ => R_eqIfNN rfl) rfl rfl ?_) | (refine cD_neq ?_; first | refine D_val0 (fun _ _ => R_nePN rfl rfl) rfl rfl ?_ | refine D_val0 (fun _ _ => R_neI rfl rfl) rfl rfl ?_ | refine D_val0 (fun _ _ => R_neB rfl rfl) rfl rfl ?_ | refine D_val0 (fun _ _ => R_neIfN rfl rfl) rfl rfl ?_ | refine D_val0 (fun _ _ => R_neIfNN rfl) rfl rfl ?_) | (refine cD_lss ?_; refine D_val0 (fun _ _ => R_ltI rfl rfl) rfl rfl ?_) | (refine cD_not ?_; refine D_val0 (fun _ _ => R_not rfl) rfl rfl ?_) | (refine cD_add ?_; refine D_val0 (fun _ _ => R_addI rfl rfl) rfl rfl ?_) | (refine cD_sub ?_; refine D_val0 (fun _ _ => R_subI rfl rfl) rfl rfl ?_) | (refine cD_gtr ?_; refine D_val0 (fun _ _ => R_gtI rfl rfl) rfl rfl ?_) | (refine cD_geq ?_; refine D_val0 (fun _ _ => R_geI rfl rfl) rfl rfl ?_)); exact k_.out) : G := h ⟨k⟩ ag
theorem r23 {G G' : Prop} (k : G') (h : Hid G' → G := by intro k_; (first | (refine cL ?_; first | (refine cL_guard ?_; refine L_unwanted rfl rfl rfl ?_) | (refine cL_move ?_; refine L_val R_move rfl rfl rfl ?_) | (refine cL_load ?_; first | refine L_val (R_loadB rfl (by assumption) (by rfl)) rfl rfl rfl ?_ | refine L_val (R_loadH (by assumption) rfl (by assumption) (by rfl)) rfl rfl rfl ?_) | (refine cL_fieldAddr ?_; refine L_val (R_fa rfl) rfl rfl rfl ?_) | (refine cL_assign ?_; refine L_val R_assign rfl rfl rfl ?_) | (refine cL_call ?_; refine L_val (R_len rfl) rfl rfl rfl ?_) | (refine cL_pick ?_; first | refine L_val (R_pickT rfl) rfl rfl rfl ?_ | refine L_val (R_pickF rfl) rfl rfl rfl ?_) | (refine cL_eql ?_; first | refine L_val (R_eqPN rfl rfl) rfl rfl rfl ?_ | refine L_val (R_eqI rfl rfl) rfl rfl rfl ?_ | refine L_val (R_eqB rfl rfl) rfl rfl rfl ?_ | refine L_val (R_eqIfN rfl rfl) rfl rfl rfl ?_ | refine L_val (R_eqIfNN rfl) rfl rfl rfl ?_) | (refine cL_neq ?_; first | refine L_val (R_nePN rfl rfl) rfl rfl rfl ?_ | refine L_val (R_neI rfl rfl) rfl rfl rfl ?_ | refine L_val (R_neB rfl rfl) rfl rfl rfl ?_ | refine L_val (R_neIfN rfl rfl) rfl rfl rfl ?_ | refine L_val (R_neIfNN rfl) rfl rfl rfl ?_) | (refine cL_lss ?_; refine L_val (R_ltI rfl rfl) rfl rfl rfl ?_) | (refine cL_not ?_; refine L_val (R_not rfl) rfl rfl rfl ?_) | (refine cL_add ?_; refine L_val (R_addI rfl rfl) rfl rfl rfl ?_) | (refine cL_sub ?_; refine L_val (R_subI rfl rfl) rfl rfl rfl ?_) | (refine cL_gtr ?_; refine L_val (R_gtI rfl rfl) rfl rfl rfl ?_) | (refine cL_geq ?_; refine L_val (R_geI rfl rfl) rfl rfl rfl ?_) | refine L_nil ?_) | refine G_seq ?_ | refine G_region ?_ | refine G_skip ?_ | refine G_block ?_ | refine G_end ?_ | refine G_true rfl ?_ | refine G_false rfl ?_); exact k_.out) : G := h ⟨k⟩

theorem headB_false2 {ds : List (Int × Ty)} {k n c : Int} {b : Bool} {es : List Ty} {params own : Int} (h : head2 k es.length = true) : headB ds k n c b es params own = false := by simp [headB, h]
theorem headB_false4 {ds : List (Int × Ty)} {k n c : Int} {b : Bool} {es : List Ty} {params own : Int} (h : head4 (limitL ds.length k params own) n = true) : headB ds k n c b es params own = false := by simp [headB, h]
theorem headB_false6 {ds : List (Int × Ty)} {k n c : Int} {b : Bool} {es : List Ty} {params own : Int} (h : head6 ds k n es.length = true) : headB ds k n c b es params own = false := by simp [headB, h]
theorem headB_false8 {ds : List (Int × Ty)} {k n c : Int} {b : Bool} {es : List Ty} {params own : Int} (h : head8 k c b es = true) : headB ds k n c b es params own = false := by simp [headB, h]
theorem headB_true {ds : List (Int × Ty)} {k n c : Int} {b : Bool} {es : List Ty} {params own : Int} (h2 : head2 k es.length = false) (h4 : head4 (limitL ds.length k params own) n = false) (h6 : head6 ds k n es.length = false) (h8 : head8 k c b es = false) : headB ds k n c b es params own = true := by simp [headB, h2, h4, h6, h8]

theorem shaped_any : ∀ (t : Ty) (cs : List Value) (ds : List (Int × Ty)) (p : Option Addr) (dcap : Nat) (params own : Int) (H : Hp) (w : World), Agree H w → DTy H t cs → DDl H ds p → ds.length < 9223372036854775808 →
    Calls Tryz.prog 16 #[.slice p ds.length dcap, .agg cs.toArray, .int .i64 params, .int .i64 own] w (Ret (Qt (.bool (shapedB ds params own t)) w)) := by
  refine Ty.ind fun k0 n0 c0 b0 nm0 es0 ih => ?_
  generalize hxx : Ty.mk k0 n0 c0 b0 nm0 es0 = x
  have hese : x.es = es0 := by rw [← hxx]; rfl
  rw [← hese] at ih
  clear hese hxx
  intro cs ds p dcap params own H w hA hx hd hdl
  obtain ⟨p', cap, rfl, -, -, -, hbd, hes⟩ := hx.cells
  rw [shapedB_eq]
  (refine calls_enter Tryz.func16 Tryz.ntmps16 rfl rfl ?_)
  (refine r21 ?_)
  refine L_box rfl rfl rfl fun b5 w1 hn1 => ?_
  obtain ⟨H1, g1, hb5⟩ := Grow.ofNew hA hn1
  have hA1 := g1.ag
  have hes1 := hes.mono g1.le
  have hd1 := hd.mono g1.le
  (refine r21 ?_)
  (refine G_draw No (0 :: 1 :: 2 :: 3 :: 4 :: 5 :: 6 :: 7 :: 8 :: 9 :: 10 :: []) [] follows (by kernel_rfl) rfl ?_)
  have hAg1 : ∀ w', Ext No w1 w' → Agree H1 w' := fun _ he => hA1.ext0 he
  (repeat (first | (refine cD_guard ?_; refine D_unwanted rfl rfl ?_) | (refine cD_call ?_; first | refine D_callQ (fun w he => Is.qt (elems_any x.k w)) rfl ?_ | refine D_callQ (fun w he => Is.qt (limit_any p ds.length dcap x.k params own w)) rfl ?_) | refine r22 hAg1 ?_))
  refine D_nil fun w2 hw2 => ?_
  have hA2 := hA1.ext0 hw2
  have hex2 : Ext No w w2 := hn1.ext.trans hw2
  clear hA1 hAg1
  refine G_seq ?_
  refine G_block ?_
  refine G_seq ?_
  refine G_cut1 (fun f ds0 w0 => ds0 = [] ∧ Ext No w2 w0 ∧ ∃ f0, f = with_ [(0, .slice p ds.length dcap), (2, .int .i64 params), (3, .int .i64 own), (5, ptr b5), (9, .int .i64 (elemsL x.k)), (10, .int .i64 (limitL ds.length x.k params own)), (22, .bool (head2 x.k x.es.length))] f0) ?_ ?_
  · have hhead : ∀ bb, head2 x.k x.es.length = bb → bb = head2 x.k x.es.length := fun _ h => h.symm
    cases c1 : decide (x.k < 0) with
    | true =>
      (repeat (first | (refine cL ?_; first | (refine cL_guard ?_; refine L_unwanted rfl rfl rfl ?_) | (refine cL_lss ?_; refine L_valB (R_ltI rfl rfl) c1 rfl rfl rfl ?_)) | refine r23 ?_))
      exact G_inv ⟨rfl, Ext.refl _ _, _, with_self ⟨rfl, rfl, rfl, rfl, rfl, rfl,  congrArg Value.bool (hhead _ (by simp only [head2, c1]; rfl)), trivial⟩⟩
    | false =>
      cases c2 : decide (x.k > 10) with
      | true =>
        (repeat (first | (refine cL ?_; first | (refine cL_guard ?_; refine L_unwanted rfl rfl rfl ?_) | (refine cL_lss ?_; refine L_valB (R_ltI rfl rfl) c1 rfl rfl rfl ?_) | (refine cL_gtr ?_; refine L_valB (R_gtI rfl rfl) c2 rfl rfl rfl ?_)) | refine r23 ?_))
        exact G_inv ⟨rfl, Ext.refl _ _, _, with_self ⟨rfl, rfl, rfl, rfl, rfl, rfl,  congrArg Value.bool (hhead _ (by simp only [head2, c1, c2]; rfl)), trivial⟩⟩
      | false =>
        cases c3 : decide (elemsL x.k ≥ 0) with
        | true =>
          cases c4 : ((x.es.length : Int) != elemsL x.k) with
          | true =>
            (repeat (first | (refine cL ?_; first | (refine cL_guard ?_; refine L_unwanted rfl rfl rfl ?_) | (refine cL_neq ?_; refine L_valB (R_neI rfl rfl) c4 rfl rfl rfl ?_) | (refine cL_lss ?_; refine L_valB (R_ltI rfl rfl) c1 rfl rfl rfl ?_) | (refine cL_gtr ?_; refine L_valB (R_gtI rfl rfl) c2 rfl rfl rfl ?_) | (refine cL_geq ?_; refine L_valB (R_geI rfl rfl) c3 rfl rfl rfl ?_)) | refine r23 ?_))
            exact G_inv ⟨rfl, Ext.refl _ _, _, with_self ⟨rfl, rfl, rfl, rfl, rfl, rfl,  congrArg Value.bool (hhead _ (by simp only [head2, c1, c2, c3, c4]; rfl)), trivial⟩⟩
          | false =>
            (repeat (first | (refine cL ?_; first | (refine cL_guard ?_; refine L_unwanted rfl rfl rfl ?_) | (refine cL_neq ?_; refine L_valB (R_neI rfl rfl) c4 rfl rfl rfl ?_) | (refine cL_lss ?_; refine L_valB (R_ltI rfl rfl) c1 rfl rfl rfl ?_) | (refine cL_gtr ?_; refine L_valB (R_gtI rfl rfl) c2 rfl rfl rfl ?_) | (refine cL_geq ?_; refine L_valB (R_geI rfl rfl) c3 rfl rfl rfl ?_)) | refine r23 ?_))
            exact G_inv ⟨rfl, Ext.refl _ _, _, with_self ⟨rfl, rfl, rfl, rfl, rfl, rfl,  congrArg Value.bool (hhead _ (by simp only [head2, c1, c2, c3, c4]; rfl)), trivial⟩⟩
        | false =>
          (repeat (first | (refine cL ?_; first | (refine cL_guard ?_; refine L_unwanted rfl rfl rfl ?_) | (refine cL_lss ?_; refine L_valB (R_ltI rfl rfl) c1 rfl rfl rfl ?_) | (refine cL_gtr ?_; refine L_valB (R_gtI rfl rfl) c2 rfl rfl rfl ?_) | (refine cL_geq ?_; refine L_valB (R_geI rfl rfl) c3 rfl rfl rfl ?_)) | refine r23 ?_))
          exact G_inv ⟨rfl, Ext.refl _ _, _, with_self ⟨rfl, rfl, rfl, rfl, rfl, rfl,  congrArg Value.bool (hhead _ (by simp only [head2, c1, c2, c3]; rfl)), trivial⟩⟩
  rintro f ds0 w3 ⟨rfl, hw3, f0, rfl⟩
  have hA3 := hA2.ext0 hw3
  cases e2 : head2 x.k x.es.length with
  | true =>
    rw [headB_false2 e2]
    (refine r21 ?_)
    (refine G_retF rfl ?_)
    exact ⟨_, rfl, rfl, hex2.trans hw3⟩
  | false =>
  refine G_false rfl ?_
  refine G_seq ?_
  refine G_cut1 (fun f ds0 w0 => ds0 = [] ∧ Ext No w2 w0 ∧ ∃ f0, f = with_ [(0, .slice p ds.length dcap), (2, .int .i64 params), (3, .int .i64 own), (5, ptr b5), (9, .int .i64 (elemsL x.k)), (10, .int .i64 (limitL ds.length x.k params own)), (42, .bool (head4 (limitL ds.length x.k params own) x.n))] f0) ?_ ?_
  · have hhead : ∀ bb, head4 (limitL ds.length x.k params own) x.n = bb → bb = head4 (limitL ds.length x.k params own) x.n := fun _ h => h.symm
    cases c1 : decide (limitL ds.length x.k params own ≥ -1) with
    | true =>
      cases c2 : decide (x.n < 0) with
      | true =>
        (repeat (first | (refine cL ?_; first | (refine cL_guard ?_; refine L_unwanted rfl rfl rfl ?_) | (refine cL_lss ?_; refine L_valB (R_ltI rfl rfl) c2 rfl rfl rfl ?_) | (refine cL_geq ?_; refine L_valB (R_geI rfl rfl) c1 rfl rfl rfl ?_)) | refine r23 ?_))
        exact G_inv ⟨rfl, hw3, _, with_self ⟨rfl, rfl, rfl, rfl, rfl, rfl,  congrArg Value.bool (hhead _ (by simp only [head4, c1, c2]; rfl)), trivial⟩⟩
      | false =>
        cases c3 : decide (limitL ds.length x.k params own ≥ 0) with
        | false =>
          (repeat (first | (refine cL ?_; first | (refine cL_guard ?_; refine L_unwanted rfl rfl rfl ?_) | (refine cL_lss ?_; refine L_valB (R_ltI rfl rfl) c2 rfl rfl rfl ?_) | (refine cL_geq ?_; first | refine L_valB (R_geI rfl rfl) c1 rfl rfl rfl ?_ | refine L_valB (R_geI rfl rfl) c3 rfl rfl rfl ?_)) | refine r23 ?_))
          exact G_inv ⟨rfl, hw3, _, with_self ⟨rfl, rfl, rfl, rfl, rfl, rfl,  congrArg Value.bool (hhead _ (by simp only [head4, c1, c2, c3]; rfl)), trivial⟩⟩
        | true =>
          cases c4 : decide (x.n ≥ limitL ds.length x.k params own) with
          | true =>
            (repeat (first | (refine cL ?_; first | (refine cL_guard ?_; refine L_unwanted rfl rfl rfl ?_) | (refine cL_lss ?_; refine L_valB (R_ltI rfl rfl) c2 rfl rfl rfl ?_) | (refine cL_geq ?_; first | refine L_valB (R_geI rfl rfl) c1 rfl rfl rfl ?_ | refine L_valB (R_geI rfl rfl) c3 rfl rfl rfl ?_ | refine L_valB (R_geI rfl rfl) c4 rfl rfl rfl ?_)) | refine r23 ?_))
            exact G_inv ⟨rfl, hw3, _, with_self ⟨rfl, rfl, rfl, rfl, rfl, rfl,  congrArg Value.bool (hhead _ (by simp only [head4, c1, c2, c3, c4]; rfl)), trivial⟩⟩
          | false =>
            (repeat (first | (refine cL ?_; first | (refine cL_guard ?_; refine L_unwanted rfl rfl rfl ?_) | (refine cL_lss ?_; refine L_valB (R_ltI rfl rfl) c2 rfl rfl rfl ?_) | (refine cL_geq ?_; first | refine L_valB (R_geI rfl rfl) c1 rfl rfl rfl ?_ | refine L_valB (R_geI rfl rfl) c3 rfl rfl rfl ?_ | refine L_valB (R_geI rfl rfl) c4 rfl rfl rfl ?_)) | refine r23 ?_))
            exact G_inv ⟨rfl, hw3, _, with_self ⟨rfl, rfl, rfl, rfl, rfl, rfl,  congrArg Value.bool (hhead _ (by simp only [head4, c1, c2, c3, c4]; rfl)), trivial⟩⟩
    | false =>
      cases c3 : decide (limitL ds.length x.k params own ≥ 0) with
      | false =>
        (repeat (first | (refine cL ?_; first | (refine cL_guard ?_; refine L_unwanted rfl rfl rfl ?_) | (refine cL_geq ?_; first | refine L_valB (R_geI rfl rfl) c1 rfl rfl rfl ?_ | refine L_valB (R_geI rfl rfl) c3 rfl rfl rfl ?_)) | refine r23 ?_))
        exact G_inv ⟨rfl, hw3, _, with_self ⟨rfl, rfl, rfl, rfl, rfl, rfl,  congrArg Value.bool (hhead _ (by simp only [head4, c1, c3]; rfl)), trivial⟩⟩
      | true =>
        cases c4 : decide (x.n ≥ limitL ds.length x.k params own) with
        | true =>
          (repeat (first | (refine cL ?_; first | (refine cL_guard ?_; refine L_unwanted rfl rfl rfl ?_) | (refine cL_geq ?_; first | refine L_valB (R_geI rfl rfl) c1 rfl rfl rfl ?_ | refine L_valB (R_geI rfl rfl) c3 rfl rfl rfl ?_ | refine L_valB (R_geI rfl rfl) c4 rfl rfl rfl ?_)) | refine r23 ?_))
          exact G_inv ⟨rfl, hw3, _, with_self ⟨rfl, rfl, rfl, rfl, rfl, rfl,  congrArg Value.bool (hhead _ (by simp only [head4, c1, c3, c4]; rfl)), trivial⟩⟩
        | false =>
          (repeat (first | (refine cL ?_; first | (refine cL_guard ?_; refine L_unwanted rfl rfl rfl ?_) | (refine cL_geq ?_; first | refine L_valB (R_geI rfl rfl) c1 rfl rfl rfl ?_ | refine L_valB (R_geI rfl rfl) c3 rfl rfl rfl ?_ | refine L_valB (R_geI rfl rfl) c4 rfl rfl rfl ?_)) | refine r23 ?_))
          exact G_inv ⟨rfl, hw3, _, with_self ⟨rfl, rfl, rfl, rfl, rfl, rfl,  congrArg Value.bool (hhead _ (by simp only [head4, c1, c3, c4]; rfl)), trivial⟩⟩
  rintro f ds0 w4 ⟨rfl, hw4, f0, rfl⟩
  have hA4 := hA2.ext0 hw4
  cases e4 : head4 (limitL ds.length x.k params own) x.n with
  | true =>
    rw [headB_false4 e4]
    (refine r21 ?_)
    (refine G_retF rfl ?_)
    exact ⟨_, rfl, rfl, hex2.trans hw4⟩
  | false =>
  refine G_false rfl ?_
  refine G_seq ?_
  refine G_cut1 (fun f ds0 w0 => ds0 = [] ∧ Ext No w2 w0 ∧ ∃ f0, f = with_ [(0, .slice p ds.length dcap), (2, .int .i64 params), (3, .int .i64 own), (5, ptr b5), (60, .bool (head6 ds x.k x.n x.es.length))] f0) ?_ ?_
  · have hhead : ∀ bb, head6 ds x.k x.n x.es.length = bb → bb = head6 ds x.k x.n x.es.length := fun _ h => h.symm
    have hAg4 : ∀ w', Ext No w4 w' → Agree H1 w' := fun _ he => hA4.ext0 he
    (refine G_draw No (0 :: 1 :: 2 :: 3 :: 4 :: 5 :: 6 :: 7 :: 8 :: 9 :: 10 :: 11 :: 12 :: 13 :: 14 :: 15 :: []) [] follows (by kernel_rfl) rfl ?_)
    cases c1 : (x.k == 1) with
    | false =>
      (repeat (first | (refine cD_guard ?_; refine D_unwanted rfl rfl ?_) | (refine cD_eql ?_; refine D_valB (fun _ _ => R_eqI rfl rfl) c1 rfl rfl ?_) | refine r22 hAg4 ?_))
      refine D_nil fun w5 hw5 => ?_
      exact G_inv ⟨rfl, hw4.trans hw5, _, with_self ⟨rfl, rfl, rfl, rfl,  congrArg Value.bool (hhead _ (by simp only [head6, c1]; rfl)), trivial⟩⟩
    | true =>
      have hk1 : x.k = 1 := by simpa using c1
      have hlim : limitL ds.length x.k params own = ds.length := by simp [limitL, hk1]
      have hn0 : 0 ≤ x.n ∧ x.n < ds.length := by
        rw [hlim] at e4
        simp [head4] at e4
        omega
      obtain ⟨dd, hdd⟩ : ∃ dd, ds[x.n.toNat]? = some dd := ⟨_, List.getElem?_eq_getElem (by omega)⟩
      obtain ⟨bk, off, tcs, rfl, hdc, -, -⟩ := hd1 _ _ hdd
      have hdp : ((ds[x.n.toNat]?.map (·.1)).getD 0) = dd.1 := by rw [hdd]; rfl
      cases c2 : ((x.es.length : Int) != dd.1) with
      | true =>
        (repeat (first | (refine cD_guard ?_; refine D_unwanted rfl rfl ?_) | (refine cD_load ?_; refine D_val0 (fun w he => R_load rfl ((hAg4 w he).hcell (hdc 0 _ rfl))) rfl rfl ?_) | (refine cD_eql ?_; refine D_valB (fun _ _ => R_eqI rfl rfl) c1 rfl rfl ?_) | (refine cD_neq ?_; refine D_valB (fun _ _ => R_neI rfl rfl) c2 rfl rfl ?_) | (refine cD_indexAddr ?_; refine D_val0 (fun _ _ => R_ia rfl rfl hn0.1 hn0.2) rfl rfl ?_) | refine r22 hAg4 ?_))
        refine D_nil fun w5 hw5 => ?_
        exact G_inv ⟨rfl, hw4.trans hw5, _, with_self ⟨rfl, rfl, rfl, rfl,  congrArg Value.bool (hhead _ (by simp only [head6, c1, hdp, c2]; rfl)), trivial⟩⟩
      | false =>
        (repeat (first | (refine cD_guard ?_; refine D_unwanted rfl rfl ?_) | (refine cD_load ?_; refine D_val0 (fun w he => R_load rfl ((hAg4 w he).hcell (hdc 0 _ rfl))) rfl rfl ?_) | (refine cD_eql ?_; refine D_valB (fun _ _ => R_eqI rfl rfl) c1 rfl rfl ?_) | (refine cD_neq ?_; refine D_valB (fun _ _ => R_neI rfl rfl) c2 rfl rfl ?_) | (refine cD_indexAddr ?_; refine D_val0 (fun _ _ => R_ia rfl rfl hn0.1 hn0.2) rfl rfl ?_) | refine r22 hAg4 ?_))
        refine D_nil fun w5 hw5 => ?_
        exact G_inv ⟨rfl, hw4.trans hw5, _, with_self ⟨rfl, rfl, rfl, rfl,  congrArg Value.bool (hhead _ (by simp only [head6, c1, hdp, c2]; rfl)), trivial⟩⟩
  rintro f ds0 w5 ⟨rfl, hw5, f0, rfl⟩
  have hA5 := hA2.ext0 hw5
  cases e6 : head6 ds x.k x.n x.es.length with
  | true =>
    rw [headB_false6 e6]
    (refine r21 ?_)
    (refine G_retF rfl ?_)
    exact ⟨_, rfl, rfl, hex2.trans hw5⟩
  | false =>
  refine G_false rfl ?_
  refine G_seq ?_
  refine G_cut1 (fun f ds0 w0 => ds0 = [] ∧ Ext No w2 w0 ∧ ∃ f0, f = with_ [(0, .slice p ds.length dcap), (2, .int .i64 params), (3, .int .i64 own), (5, ptr b5), (76, .bool (head8 x.k x.c x.b x.es))] f0) ?_ ?_
  · have hhead : ∀ bb, head8 x.k x.c x.b x.es = bb → bb = head8 x.k x.c x.b x.es := fun _ h => h.symm
    cases c1 : (x.k == 10) with
    | false =>
      (repeat (first | (refine cL ?_; first | (refine cL_guard ?_; refine L_unwanted rfl rfl rfl ?_) | (refine cL_eql ?_; refine L_valB (R_eqI rfl rfl) c1 rfl rfl rfl ?_)) | refine r23 ?_))
      exact G_inv ⟨rfl, hw5, _, with_self ⟨rfl, rfl, rfl, rfl,  congrArg Value.bool (hhead _ (by simp only [head8, c1]; rfl)), trivial⟩⟩
    | true =>
      cases c2 : decide (x.c < 0) with
      | true =>
        (repeat (first | (refine cL ?_; first | (refine cL_guard ?_; refine L_unwanted rfl rfl rfl ?_) | (refine cL_eql ?_; refine L_valB (R_eqI rfl rfl) c1 rfl rfl rfl ?_) | (refine cL_lss ?_; refine L_valB (R_ltI rfl rfl) c2 rfl rfl rfl ?_)) | refine r23 ?_))
        exact G_inv ⟨rfl, hw5, _, with_self ⟨rfl, rfl, rfl, rfl,  congrArg Value.bool (hhead _ (by simp only [head8, c1, c2]; rfl)), trivial⟩⟩
      | false =>
        cases c3 : decide (x.c > x.es.length) with
        | true =>
          (repeat (first | (refine cL ?_; first | (refine cL_guard ?_; refine L_unwanted rfl rfl rfl ?_) | (refine cL_eql ?_; refine L_valB (R_eqI rfl rfl) c1 rfl rfl rfl ?_) | (refine cL_lss ?_; refine L_valB (R_ltI rfl rfl) c2 rfl rfl rfl ?_) | (refine cL_gtr ?_; refine L_valB (R_gtI rfl rfl) c3 rfl rfl rfl ?_)) | refine r23 ?_))
          exact G_inv ⟨rfl, hw5, _, with_self ⟨rfl, rfl, rfl, rfl,  congrArg Value.bool (hhead _ (by simp only [head8, c1, c2, c3]; rfl)), trivial⟩⟩
        | false =>
          obtain ⟨bb, c4⟩ : ∃ bb, x.b = bb := ⟨_, rfl⟩
          cases bb with
          | false =>
            rw [c4] at hb5
            (repeat (first | (refine cL ?_; first | (refine cL_guard ?_; refine L_unwanted rfl rfl rfl ?_) | (refine cL_eql ?_; refine L_valB (R_eqI rfl rfl) c1 rfl rfl rfl ?_) | (refine cL_lss ?_; refine L_valB (R_ltI rfl rfl) c2 rfl rfl rfl ?_) | (refine cL_gtr ?_; refine L_valB (R_gtI rfl rfl) c3 rfl rfl rfl ?_)) | refine r23 ?_))
            exact G_inv ⟨rfl, hw5, _, with_self ⟨rfl, rfl, rfl, rfl,  congrArg Value.bool (hhead _ (by simp only [head8, c1, c2, c3, c4]; rfl)), trivial⟩⟩
          | true =>
            rw [c4] at hb5
            cases c5 : (x.c == 0) with
            | true =>
              (repeat (first | (refine cL ?_; first | (refine cL_guard ?_; refine L_unwanted rfl rfl rfl ?_) | (refine cL_eql ?_; first | refine L_valB (R_eqI rfl rfl) c1 rfl rfl rfl ?_ | refine L_valB (R_eqI rfl rfl) c5 rfl rfl rfl ?_) | (refine cL_lss ?_; refine L_valB (R_ltI rfl rfl) c2 rfl rfl rfl ?_) | (refine cL_gtr ?_; refine L_valB (R_gtI rfl rfl) c3 rfl rfl rfl ?_)) | refine r23 ?_))
              exact G_inv ⟨rfl, hw5, _, with_self ⟨rfl, rfl, rfl, rfl,  congrArg Value.bool (hhead _ (by simp only [head8, c1, c2, c3, c4, c5]; rfl)), trivial⟩⟩
            | false =>
              have hcr : 0 ≤ x.c - 1 ∧ x.c - 1 < x.es.length := by
                simp at c2 c3 c5
                omega
              obtain ⟨e, he⟩ : ∃ e, x.es[(x.c - 1).toNat]? = some e := ⟨_, List.getElem?_eq_getElem (by omega)⟩
              obtain ⟨bk, off, ec, rfl, hec, hed⟩ := hes1.get he
              obtain ⟨q, qcap, rfl, -, -, -, -, -⟩ := hed.cells
              have hek : ((x.es[(x.c - 1).toNat]?.map Ty.k).getD 0) = e.k := by rw [he]; rfl
              have hwr : Value.int .i64 (IntKind.i64.wrap (x.c - 1)) = .int .i64 (x.c - 1) := by rw [wrap_i64 (by omega) (by omega)]
              cases c6 : (e.k != 5) with
              | true =>
                (repeat (first | (refine cL ?_; first | (refine cL_guard ?_; refine L_unwanted rfl rfl rfl ?_) | (refine cL_load ?_; refine L_val (R_load rfl (hA5.hcell (hec 0 _ rfl))) rfl rfl rfl ?_) | (refine cL_eql ?_; first | refine L_valB (R_eqI rfl rfl) c1 rfl rfl rfl ?_ | refine L_valB (R_eqI rfl rfl) c5 rfl rfl rfl ?_) | (refine cL_neq ?_; refine L_valB (R_neI rfl rfl) c6 rfl rfl rfl ?_) | (refine cL_lss ?_; refine L_valB (R_ltI rfl rfl) c2 rfl rfl rfl ?_) | (refine cL_indexAddr ?_; refine L_val (R_ia rfl rfl hcr.1 hcr.2) rfl rfl rfl ?_) | (refine cL_sub ?_; refine L_valE (R_subI rfl rfl) hwr rfl rfl rfl ?_) | (refine cL_gtr ?_; refine L_valB (R_gtI rfl rfl) c3 rfl rfl rfl ?_)) | refine r23 ?_))
                exact G_inv ⟨rfl, hw5, _, with_self ⟨rfl, rfl, rfl, rfl,  congrArg Value.bool (hhead _ (by simp only [head8, c1, c2, c3, c4, c5, hek, c6]; rfl)), trivial⟩⟩
              | false =>
                (repeat (first | (refine cL ?_; first | (refine cL_guard ?_; refine L_unwanted rfl rfl rfl ?_) | (refine cL_load ?_; refine L_val (R_load rfl (hA5.hcell (hec 0 _ rfl))) rfl rfl rfl ?_) | (refine cL_eql ?_; first | refine L_valB (R_eqI rfl rfl) c1 rfl rfl rfl ?_ | refine L_valB (R_eqI rfl rfl) c5 rfl rfl rfl ?_) | (refine cL_neq ?_; refine L_valB (R_neI rfl rfl) c6 rfl rfl rfl ?_) | (refine cL_lss ?_; refine L_valB (R_ltI rfl rfl) c2 rfl rfl rfl ?_) | (refine cL_indexAddr ?_; refine L_val (R_ia rfl rfl hcr.1 hcr.2) rfl rfl rfl ?_) | (refine cL_sub ?_; refine L_valE (R_subI rfl rfl) hwr rfl rfl rfl ?_) | (refine cL_gtr ?_; refine L_valB (R_gtI rfl rfl) c3 rfl rfl rfl ?_)) | refine r23 ?_))
                exact G_inv ⟨rfl, hw5, _, with_self ⟨rfl, rfl, rfl, rfl,  congrArg Value.bool (hhead _ (by simp only [head8, c1, c2, c3, c4, c5, hek, c6]; rfl)), trivial⟩⟩
  rintro f ds0 w6 ⟨rfl, hw6, f0, rfl⟩
  have hA6 := hA2.ext0 hw6
  cases e8 : head8 x.k x.c x.b x.es with
  | true =>
    rw [headB_false8 e8]
    (refine r21 ?_)
    (refine G_retF rfl ?_)
    exact ⟨_, rfl, rfl, hex2.trans hw6⟩
  | false =>
  rw [headB_true e2 e4 e6 e8, Bool.true_and]
  (refine r21 ?_)
  refine G_loop (CountI 116 115 x.es.length [(0, .slice p ds.length dcap), (2, .int .i64 params), (3, .int .i64 own), (5, ptr b5), (114, .slice p' x.es.length cap)] w6 fun i => ∀ j, j < i → partB ds params own x.k x.es j = true) (fun f _ _ => countM 116 115 f)
    ⟨rfl, Ext.refl _ _, _, 0, with_self ⟨rfl, rfl, rfl, rfl, rfl, rfl, rfl, trivial⟩, Nat.zero_le _, fun j hj => absurd hj (Nat.not_lt_zero j)⟩ ?_
  rintro f ds0 wr ⟨rfl, hext, f0, i, rfl, hi, hJ⟩
  have hAr := hA6.ext0 hext
  have hexr := hex2.trans (hw6.trans hext)
  by_cases h : i < x.es.length
  · have hb : decide ((i : Int) < (x.es.length : Int)) = true := decide_eq_true (by omega)
    obtain ⟨e, he⟩ : ∃ v, x.es[i]? = some v := ⟨_, List.getElem?_eq_getElem h⟩
    obtain ⟨bk, off, ec, hp', hec, hed⟩ := hes1.get he
    obtain ⟨q, qcap, rfl, -, -, -, -, -⟩ := hed.cells
    subst hp'
    (repeat (first | (refine cL ?_; first | (refine cL_guard ?_; refine L_unwanted rfl rfl rfl ?_) | (refine cL_load ?_; refine L_val (R_loadA rfl rfl fun j v hj => hAr.hcell (hec j v hj)) rfl rfl rfl ?_) | (refine cL_lss ?_; refine L_valB (R_ltI rfl rfl) hb rfl rfl rfl ?_) | (refine cL_indexAddr ?_; refine L_valE (R_ia rfl rfl (by omega) (by omega)) (ia6 _ _ _) rfl rfl rfl ?_)) | refine r23 ?_))
    refine L_allocS rfl rfl fun b12 w7 hn7 => ?_
    (refine r21 ?_)
    refine L_storeA rfl hn7.here rfl rfl rfl rfl rfl rfl fun w8 h8 e8' s8 => ?_
    obtain ⟨H8, g8, hb12⟩ := Grow.ofNew hAr (hn7.store h8 e8' s8)
    have hb5' := g8.le _ _ hb5
    have hA8 := g8.ag
    have hih := ih e (List.mem_of_getElem? he) _ ds p dcap params own H8 w8 hA8 (DTy.mono g8.le _ _ hed) (hd1.mono g8.le) hdl
    have hsh : shAt ds params own x.es i = shapedB ds params own e := by unfold shAt; rw [he]
    have hex8 := hexr.trans g8.ext
    (repeat (first | (refine cL ?_; first | (refine cL_guard ?_; refine L_unwanted rfl rfl rfl ?_) | (refine cL_load ?_; refine L_val (R_loadAB rfl rfl (hA8 _ _ hb12)) rfl rfl rfl ?_)) | refine r23 ?_))
    cases hs : shapedB ds params own e with
    | false =>
      rw [hs] at hih
      refine L_callQ hih rfl rfl fun w9 hw9 => ?_
      (refine r21 ?_)
      (refine G_retF rfl ?_)
      exact ⟨_, rfl, congrArg Value.bool (allR_false h (by simp only [partB, hsh, hs]; rfl)).symm, hex8.trans hw9⟩
    | true =>
      rw [hs] at hih
      refine L_callQ hih rfl rfl fun w9 hw9 => ?_
      have hA9 := hA8.ext0 hw9
      cases c9 : (x.k == 9) with
      | false =>
        have hpart : partB ds params own x.k x.es i = true := by simp only [partB, hsh, hs, c9]; rfl
        (repeat (first | (refine cL ?_; first | (refine cL_guard ?_; refine L_unwanted rfl rfl rfl ?_) | (refine cL_eql ?_; refine L_valB (R_eqI rfl rfl) c9 rfl rfl rfl ?_) | (refine cL_add ?_; refine L_valE (R_addI rfl rfl) (succ_i64 h (by omega)) rfl rfl rfl ?_)) | refine r23 ?_))
        refine G_inv ⟨⟨rfl, hext.trans (g8.ext.trans hw9), _, i + 1, with_self ⟨rfl, rfl, rfl, rfl, rfl, rfl, rfl, trivial⟩, h, fun j hj => ?_⟩, ?_⟩
        · rcases Nat.lt_succ_iff_lt_or_eq.1 hj with hj | rfl
          · exact hJ j hj
          · exact hpart
        · show ((x.es.length : Int) - ((i + 1 : Nat) : Int)).toNat < ((x.es.length : Int) - (i : Int)).toNat
          omega
      | true =>
        have hfn := fieldName_any (cap := cap) w9 hA9 (hes1.mono g8.le) h hbd.2 (by omega)
        (repeat (first | (refine cL ?_; first | (refine cL_guard ?_; refine L_unwanted rfl rfl rfl ?_) | (refine cL_eql ?_; refine L_valB (R_eqI rfl rfl) c9 rfl rfl rfl ?_)) | refine r23 ?_))
        cases hnb : nameB x.es i with
        | false =>
          rw [hnb] at hfn
          refine L_callQ hfn rfl rfl fun w10 hw10 => ?_
          (refine r21 ?_)
          (refine G_retF rfl ?_)
          exact ⟨_, rfl, congrArg Value.bool (allR_false h (by simp only [partB, hsh, hs, c9, hnb]; rfl)).symm, hex8.trans (hw9.trans hw10)⟩
        | true =>
          have hpart : partB ds params own x.k x.es i = true := by simp only [partB, hsh, hs, c9, hnb]; rfl
          rw [hnb] at hfn
          refine L_callQ hfn rfl rfl fun w10 hw10 => ?_
          (repeat (first | (refine cL ?_; first | (refine cL_guard ?_; refine L_unwanted rfl rfl rfl ?_) | (refine cL_add ?_; refine L_valE (R_addI rfl rfl) (succ_i64 h (by omega)) rfl rfl rfl ?_)) | refine r23 ?_))
          refine G_inv ⟨⟨rfl, hext.trans (g8.ext.trans (hw9.trans hw10)), _, i + 1, with_self ⟨rfl, rfl, rfl, rfl, rfl, rfl, rfl, trivial⟩, h, fun j hj => ?_⟩, ?_⟩
          · rcases Nat.lt_succ_iff_lt_or_eq.1 hj with hj | rfl
            · exact hJ j hj
            · exact hpart
          · show ((x.es.length : Int) - ((i + 1 : Nat) : Int)).toNat < ((x.es.length : Int) - (i : Int)).toNat
            omega
  · have hb : decide ((i : Int) < (x.es.length : Int)) = false := decide_eq_false (by omega)
    (repeat (first | (refine cL ?_; first | (refine cL_guard ?_; refine L_unwanted rfl rfl rfl ?_) | (refine cL_lss ?_; refine L_valB (R_ltI rfl rfl) hb rfl rfl rfl ?_)) | refine G_exit rfl ?_ | refine r23 ?_))
    (refine G_retF rfl ?_)
    exact ⟨_, rfl, congrArg Value.bool (allR_true fun j hj => hJ j (by omega)).symm, hexr⟩
end Go.Proofs.YtjilnjifegeceaaGreatDoor

/-
  The verifier's 'Size' on the input's types.
-/
namespace Go.Proofs.YtjilnjifegeceaaGreatDoor
set_option maxRecDepth 100000
set_option maxHeartbeats 4000000
attribute [local irreducible] Calls execOp

theorem r24 {G G' : Prop} (k : G') (h : Hid G' → G := by intro k_; (repeat (first | (refine cL ?_; first | (refine cL_move ?_; refine L_val R_move rfl rfl rfl ?_) | (refine cL_load ?_; first | refine L_val (R_loadB rfl (by assumption) (by rfl)) rfl rfl rfl ?_ | refine L_val (R_loadH (by assumption) rfl (by assumption) (by rfl)) rfl rfl rfl ?_) | (refine cL_fieldAddr ?_; refine L_val (R_fa rfl) rfl rfl rfl ?_) | (refine cL_assign ?_; refine L_val R_assign rfl rfl rfl ?_) | (refine cL_call ?_; refine L_val (R_len rfl) rfl rfl rfl ?_) | (refine cL_lss ?_; refine L_val (R_ltI rfl rfl) rfl rfl rfl ?_) | (refine cL_add ?_; refine L_val (R_addI rfl rfl) rfl rfl rfl ?_) | refine L_nil ?_) | refine G_seq ?_ | refine G_region ?_ | refine G_skip ?_ | refine G_block ?_ | refine G_end ?_ | refine G_true rfl ?_ | refine G_false rfl ?_)); exact k_.out) : G := h ⟨k⟩
theorem r25 {G G' : Prop} (k : G') (h : Hid G' → G := by intro k_; (first | (refine cL ?_; first | (refine cL_move ?_; refine L_val R_move rfl rfl rfl ?_) | (refine cL_load ?_; first | refine L_val (R_loadB rfl (by assumption) (by rfl)) rfl rfl rfl ?_ | refine L_val (R_loadH (by assumption) rfl (by assumption) (by rfl)) rfl rfl rfl ?_) | (refine cL_fieldAddr ?_; refine L_val (R_fa rfl) rfl rfl rfl ?_) | (refine cL_assign ?_; refine L_val R_assign rfl rfl rfl ?_) | (refine cL_call ?_; refine L_val (R_len rfl) rfl rfl rfl ?_) | (refine cL_lss ?_; refine L_val (R_ltI rfl rfl) rfl rfl rfl ?_) | (refine cL_add ?_; refine L_val (R_addI rfl rfl) rfl rfl rfl ?_) | refine L_nil ?_) | refine G_seq ?_ | refine G_region ?_ | refine G_skip ?_ | refine G_block ?_ | refine G_end ?_ | refine G_true rfl ?_ | refine G_false rfl ?_); exact k_.out) : G := h ⟨k⟩

theorem sizeW_eq (t : Ty) : sizeW t = sizeWL 1 t.es := by cases t; rfl

theorem size_any : ∀ (t : Ty) (cs : List Value) (H : Hp) (w : World), Agree H w → DTy H t cs → Calls Tryz.prog 17 #[.agg cs.toArray] w (Ret (Qt (.int .i64 (sizeW t)) w)) := by
  refine Ty.ind fun k0 n0 c0 b0 nm0 es0 ih => ?_
  generalize hxx : Ty.mk k0 n0 c0 b0 nm0 es0 = x
  have hese : x.es = es0 := by rw [← hxx]; rfl
  rw [← hese] at ih
  clear hese hxx
  intro cs H w hA hx
  obtain ⟨p', cap, rfl, -, -, -, hbd, hes⟩ := hx.cells
  rw [sizeW_eq]
  (refine calls_enter Tryz.func17 Tryz.ntmps17 rfl rfl ?_)
  (refine r24 ?_)
  refine L_box rfl rfl rfl fun b1 w1 hn1 => ?_
  obtain ⟨H1, g1, hb1⟩ := Grow.ofNew hA hn1
  have hA1 := g1.ag
  have hes1 := hes.mono g1.le
  have hex1 := g1.ext
  (refine r24 ?_)
  refine G_loop (fun f ds0 w0 => ∃ m, CountI 9 8 x.es.length [(3, .int .i64 m), (7, .slice p' x.es.length cap)] w1 (fun i => sizeWL m (x.es.drop i) = sizeWL 1 x.es) f ds0 w0) (fun f _ _ => countM 9 8 f)
    ⟨1, rfl, Ext.refl _ _, _, 0, with_self ⟨rfl, rfl, rfl, rfl, trivial⟩, Nat.zero_le _, rfl⟩ ?_
  rintro f ds0 wr ⟨m, rfl, hext, f0, i, rfl, hi, hJ⟩
  have hAr := hA1.ext0 hext
  by_cases h : i < x.es.length
  · have hb : decide ((i : Int) < (x.es.length : Int)) = true := decide_eq_true (by omega)
    obtain ⟨e, he⟩ : ∃ v, x.es[i]? = some v := ⟨_, List.getElem?_eq_getElem h⟩
    obtain ⟨bk, off, ec, rfl, hec, hed⟩ := hes1.get he
    obtain ⟨q, qcap, rfl, -, -, -, -, -⟩ := hed.cells
    have hdr : x.es.drop i = e :: x.es.drop (i + 1) := by rw [List.drop_eq_getElem_cons h]; rw [List.getElem?_eq_getElem h] at he; injection he with he; rw [he]
    rw [hdr, sizeWL] at hJ
    (repeat (first | (refine cL ?_; first | (refine cL_load ?_; refine L_val (R_loadA rfl rfl fun j v hj => hAr.hcell (hec j v hj)) rfl rfl rfl ?_) | (refine cL_lss ?_; refine L_valB (R_ltI rfl rfl) hb rfl rfl rfl ?_) | (refine cL_indexAddr ?_; refine L_valE (R_ia rfl rfl (by omega) (by omega)) (ia6 _ _ _) rfl rfl rfl ?_)) | refine r25 ?_))
    refine L_allocS rfl rfl fun b5 w3 hn3 => ?_
    refine L_storeA rfl hn3.here rfl rfl rfl rfl rfl rfl fun w4 h4 e4 s4 => ?_
    obtain ⟨H4, g4, hb5⟩ := Grow.ofNew hAr (hn3.store h4 e4 s4)
    have hih := ih e (List.mem_of_getElem? he) _ H4 w4 g4.ag (DTy.mono g4.le _ _ hed)
    (repeat (first | (refine cL ?_; first | (refine cL_load ?_; refine L_val (R_loadAB rfl rfl (g4.ag _ _ hb5)) rfl rfl rfl ?_)) | refine r25 ?_))
    refine L_callQ hih rfl rfl fun w5 hw5 => ?_
    (repeat (first | (refine cL ?_; first | (refine cL_add ?_; refine L_valE (R_addI rfl rfl) (succ_i64 h (by omega)) rfl rfl rfl ?_)) | refine r25 ?_))
    refine G_inv ⟨⟨_, rfl, hext.trans (g4.ext.trans hw5), _, i + 1, with_self ⟨rfl, rfl, rfl, rfl, trivial⟩, h, hJ⟩, ?_⟩
    show ((x.es.length : Int) - ((i + 1 : Nat) : Int)).toNat < ((x.es.length : Int) - (i : Int)).toNat
    omega
  · have hb : decide ((i : Int) < (x.es.length : Int)) = false := decide_eq_false (by omega)
    have hdr : x.es.drop i = [] := List.drop_eq_nil_of_le (by omega)
    rw [hdr, sizeWL] at hJ
    (repeat (first | (refine cL ?_; first | (refine cL_lss ?_; refine L_valB (R_ltI rfl rfl) hb rfl rfl rfl ?_)) | refine G_exit rfl ?_ | refine r25 ?_))
    (refine G_retF rfl ?_)
    exact ⟨_, rfl, congrArg (Value.int .i64) hJ, hex1.trans hext⟩
end Go.Proofs.YtjilnjifegeceaaGreatDoor

/-
  The walk's own rules, eighth part: regions that draw their order and write to memory. Kinds of operations: 0 yields one value in every later world; 1 makes memory, alone or among forked orders; 2 writes, and all that looks at memory is settled before it comes up or must wait for it; 3 has to do with no memory.
-/
namespace Go.Proofs.YtjilnjifegeceaaGreatDoor

inductive OT where
  | nil
  | op (i : Nat) (r : OT)
  | fork (x y : OT)

section
variable (P : Program) (M : Nat → Prop) (ops : Array Oper) (md : Nat → Nat)

def opX (i : Nat) (KK : Act → World → Prop) (a : Act) (wb : World) : Prop :=
  match ops[i]? with
  | none => KK a wb
  | some o =>
    if Region.wanted o (yielded ops a.tmps) then
      if md i = 1 then ∀ w, Ext No wb w → relUpon P (fun v w' => Ext M w w' ∧ KK (a.put o.dst v) w') ((execOp a.eval o).run P w)
      else if md i = 2 then ∀ w, Ext No wb w → relUpon P (fun v w' => KK (a.put o.dst v) w') ((execOp a.eval o).run P w)
      else ∃ c, (∀ w, (md i = 3 ∨ Ext M wb w) → funUpon P No w c ((execOp a.eval o).run P w)) ∧ KK (a.put o.dst c) wb
    else KK (a.put o.dst undef) wb

theorem opX_mono {i : Nat} {KK KK' : Act → World → Prop} {a : Act} {wb : World} (h : ∀ a w, KK a w → KK' a w) (hh : opX P M ops md i KK a wb) : opX P M ops md i KK' a wb := by
  unfold opX at *
  cases ho : ops[i]? with
  | none => simp only [ho] at hh ⊢; exact h _ _ hh
  | some o =>
    simp only [ho] at hh ⊢
    split
    · rename_i hw
      rw [if_pos hw] at hh
      split
      · rename_i hr
        rw [if_pos hr] at hh
        exact fun w he => relUpon_mono P (fun v w' hv => ⟨hv.1, h _ _ hv.2⟩) (hh w he)
      · rename_i hr
        rw [if_neg hr] at hh
        split
        · rename_i hr2
          rw [if_pos hr2] at hh
          exact fun w he => relUpon_mono P (fun v w' hv => h _ _ hv) (hh w he)
        · rename_i hr2
          rw [if_neg hr2] at hh
          obtain ⟨c, h1, h2⟩ := hh
          exact ⟨c, h1, h _ _ h2⟩
    · rename_i hw
      rw [if_neg hw] at hh
      exact h _ _ hh

def wpAnyX (K : Act → World → Prop) : Nat → Array Bool → Act → World → Prop
  | 0, listed, a, wb => Region.ready .any ops listed = [] ∧ ∀ w, Ext No wb w → K a w
  | fuel + 1, listed, a, wb => (Region.ready .any ops listed = [] → ∀ w, Ext No wb w → K a w) ∧
      ∀ i ∈ Region.ready .any ops listed, opX P M ops md i (wpAnyX K fuel (listed.setIfInBounds i true)) a wb

theorem wpAny_of_X {K : Act → World → Prop} {Q : Exit → Act → World → Prop} (hK : ∀ a w, K a w → Q .normal a w) : ∀ (fuel : Nat) (listed : Array Bool) (a : Act) (wb w : World), Ext No wb w →
    wpAnyX P M ops md K fuel listed a wb → wpAny P .any ops Q fuel listed a w
  | 0, _, _, _, _, he, h => ⟨h.1, hK _ _ (h.2 _ he)⟩
  | fuel + 1, listed, a, wb, w, he, h => by
    refine ⟨fun h0 => hK _ _ (h.1 h0 _ he), fun i hi => ?_⟩
    have h1 := h.2 i hi
    unfold opX at h1
    unfold wpOp
    cases ho : ops[i]? with
    | none => simp only [ho] at h1 ⊢; exact wpAny_of_X hK fuel _ _ _ _ he h1
    | some o =>
      simp only [ho] at h1 ⊢
      split
      · rename_i hw
        rw [if_pos hw] at h1
        left
        unfold Oper.wp
        split at h1
        · have h2 := h1 w he
          generalize (execOp a.eval o).run P w = r at *
          cases r with
          | ok x w' =>
            cases x <;> simp only [relUpon] at h2 <;> simp only [Oper.upon]
            · exact wpAny_of_X hK fuel _ _ _ _ (Ext.refl _ _) h2.2
            · exact wpAny_of_X hK fuel _ _ _ _ (Ext.refl _ _) h2.2
            · refine h2.mono fun e w'' hv => ?_
              obtain ⟨v, rfl, hv⟩ := hv
              exact wpAny_of_X hK fuel _ _ _ _ (Ext.refl _ _) hv.2
          | halt x w' => simp only [relUpon] at h2
        · split at h1
          · have h2 := h1 w he
            generalize (execOp a.eval o).run P w = r at *
            cases r with
            | ok x w' =>
              cases x <;> simp only [relUpon] at h2 <;> simp only [Oper.upon]
              · exact wpAny_of_X hK fuel _ _ _ _ (Ext.refl _ _) h2
              · exact wpAny_of_X hK fuel _ _ _ _ (Ext.refl _ _) h2
              · refine h2.mono fun e w'' hv => ?_
                obtain ⟨v, rfl, hv⟩ := hv
                exact wpAny_of_X hK fuel _ _ _ _ (Ext.refl _ _) hv
            | halt x w' => simp only [relUpon] at h2
          · obtain ⟨c, h2, h3⟩ := h1
            have h2 := h2 w (.inr he.of_no)
            generalize (execOp a.eval o).run P w = r at *
            cases r with
            | ok x w' =>
              cases x <;> simp only [funUpon] at h2 <;> simp only [Oper.upon]
              · obtain ⟨rfl, hx⟩ := h2; exact wpAny_of_X hK fuel _ _ _ _ (he.trans hx) h3
              · obtain ⟨rfl, hx⟩ := h2; exact wpAny_of_X hK fuel _ _ _ _ (he.trans hx) h3
              · obtain ⟨rfl, hc⟩ := h2
                refine hc.mono fun e w'' ⟨hv, hx⟩ => ?_
                subst hv
                exact wpAny_of_X hK fuel _ _ _ _ (he.trans hx) h3
            | halt x w' => simp only [funUpon] at h2
      · rename_i hw
        rw [if_neg hw] at h1
        exact wpAny_of_X hK fuel _ _ _ _ he h1

/-- operation i yields c, whenever it comes up from here on -/
def FX (i : Nat) (o : Oper) (c : Value) (a : Act) (wb : World) : Prop :=
  (Region.wanted o (yielded ops a.tmps) = true ∧ ∀ w, (md i = 3 ∨ Ext M wb w) → funUpon P No w c ((execOp a.eval o).run P w)) ∨
  (Region.wanted o (yielded ops a.tmps) = false ∧ c = undef)

theorem FX.later {i : Nat} {o : Oper} {c : Value} {a : Act} {wb w : World} (h : FX P M ops md i o c a wb) (he : md i = 3 ∨ Ext M wb w) : FX P M ops md i o c a w := by
  rcases h with ⟨h1, h2⟩ | h
  · refine .inl ⟨h1, fun w' hw' => h2 w' ?_⟩
    rcases he with he | he
    · exact .inl he
    · rcases hw' with hw' | hw'
      · exact .inl hw'
      · exact .inr (he.trans hw')
  · exact .inr h

theorem FX.opX {i : Nat} {o : Oper} {c : Value} {a : Act} {wb : World} (hi : ops[i]? = some o) (hr : md i ≠ 1 ∧ md i ≠ 2) (h : FX P M ops md i o c a wb) {KK : Act → World → Prop} (hk : KK (a.put o.dst c) wb) :
    opX P M ops md i KK a wb := by
  unfold Go.Proofs.YtjilnjifegeceaaGreatDoor.opX
  simp only [hi]
  rcases h with ⟨h1, h2⟩ | ⟨h1, rfl⟩
  · rw [if_pos h1, if_neg hr.1, if_neg hr.2]
    exact ⟨c, h2, hk⟩
  · rw [h1]
    simp only [Bool.false_eq_true, if_false]
    exact hk

theorem FX.of_same {i : Nat} {o : Oper} {c : Value} {a a' : Act} {wb : World} (h : FX P M ops md i o c a wb) (he : execOp a'.eval o = execOp a.eval o)
    (hw : Region.wanted o (yielded ops a'.tmps) = Region.wanted o (yielded ops a.tmps)) : FX P M ops md i o c a' wb := by
  unfold FX at *
  rw [he, hw]
  exact h

theorem opX_put {i j : Nat} {oi oj : Oper} {v : Value} (hj : ops[j]? = some oj) (hap : oi.apart ops oj = true) (hwild : md j = 2 → md i = 3)
    (hsi : ∀ cs b, oi.op ≠ .select cs b) (hsj : ∀ cs b, oj.op ≠ .select cs b) {KK : Act → World → Prop} {a : Act} {wb : World}
    (hy : FX P M ops md i oi v a wb) (h : opX P M ops md j KK (a.put oi.dst v) wb) :
    opX P M ops md j (fun a' w' => FX P M ops md i oi v a' w' ∧ KK (a'.put oi.dst v) w') a wb := by
  obtain ⟨h1, h2, h3⟩ := Oper.apart_spec hap
  have keep : ∀ (a : Act) (wb : World), FX P M ops md i oi v a wb → ∀ u, FX P M ops md i oi v (a.put oj.dst u) wb := fun a wb hy u =>
    hy.of_same (he := execOp_put oi hsi a oj.dst u h3) (hw := wanted_put oi a oj.dst u h3)
  unfold opX at *
  simp only [hj] at *
  rw [wanted_put oj a oi.dst v h1, execOp_put oj hsj a oi.dst v h1] at h
  split
  · rename_i hw
    rw [if_pos hw] at h
    split
    · rename_i hr
      rw [if_pos hr] at h
      refine fun w he => relUpon_mono P (fun u w' hu => ⟨hu.1, keep a _ (hy.later (he := .inr (he.of_no.trans hu.1))) u, ?_⟩) (h w he)
      rw [← Act.put_comm a v u h2]
      exact hu.2
    · rename_i hr
      rw [if_neg hr] at h
      split
      · rename_i hr2
        rw [if_pos hr2] at h
        refine fun w he => relUpon_mono P (fun u w' hu => ⟨keep a _ (hy.later (he := .inl (hwild hr2))) u, ?_⟩) (h w he)
        rw [← Act.put_comm a v u h2]
        exact hu
      · rename_i hr2
        rw [if_neg hr2] at h
        obtain ⟨u, hu, hn⟩ := h
        exact ⟨u, hu, keep a _ hy u, by rw [← Act.put_comm a v u h2]; exact hn⟩
  · rename_i hw
    rw [if_neg hw] at h
    exact ⟨keep a _ hy _, by rw [← Act.put_comm a v undef h2]; exact h⟩

/-- what must wait for i: each waits for i, or for another that must -/
def Waits (i : Nat) (S : List Nat) : Prop := ∀ k ∈ S, ∃ o, ops[k]? = some o ∧ ∃ e ∈ o.after, Region.binds .any e = true ∧ (e.on = i ∨ e.on ∈ S)

theorem wpAnyX_first {K : Act → World → Prop} {i : Nat} {oi : Oper} {v : Value} (hi : ops[i]? = some oi) (hri : md i ≠ 1 ∧ md i ≠ 2) (hsel : ∀ (j : Nat) (o : Oper) cs b, ops[j]? = some o → o.op ≠ .select cs b)
    (S : List Nat) (hS : Waits ops i S) :
    ∀ (fuel : Nat) (listed : Array Bool) (a : Act) (wb : World),
      (∀ j oj, ops[j]? = some oj → j ≠ i → listed.getD j true = false → (∀ e ∈ oj.after, Region.binds .any e = true → e.on ≠ i) → oi.apart ops oj = true) →
      (∀ k ∈ S, listed.getD k true = false) → (md i ≠ 3 → ∀ j, md j = 2 → listed.getD j true = false → j ∈ S) →
      i ∈ Region.ready .any ops listed → FX P M ops md i oi v a wb →
      wpAnyX P M ops md K fuel (listed.setIfInBounds i true) (a.put oi.dst v) wb → wpAnyX P M ops md K (fuel + 1) listed a wb := by
  intro fuel
  induction fuel with
  | zero =>
    intro listed a wb _ _ _ hr hy HH
    refine ⟨fun h => (by rw [h] at hr; cases hr), fun j hj => ?_⟩
    by_cases hji : j = i
    · subst hji; exact hy.opX (hi := hi) (hr := hri) (hk := HH)
    · have := ready_mono hj hji
      rw [HH.1] at this
      cases this
  | succ fuel ih =>
    intro listed a wb hfree hun hwd hr hy HH
    refine ⟨fun h => (by rw [h] at hr; cases hr), fun j hj => ?_⟩
    by_cases hji : j = i
    · subst hji; exact hy.opX (hi := hi) (hr := hri) (hk := HH)
    · have h1 := HH.2 j (ready_mono hj hji)
      obtain ⟨hjun, oj, hoj, hall⟩ := mem_ready.1 hj
      have hiun : listed.getD i true = false := (mem_ready.1 hr).1
      have hlisted : ∀ e ∈ oj.after, Region.binds .any e = true → listed.getD e.on true = true := fun e he hb => by
        have h1 := hall e he hb
        rcases Nat.lt_or_ge e.on listed.size with h' | h'
        · simp [h'] at h1 ⊢; exact h1
        · simp [Array.getElem?_eq_none h']
      have hnot : ∀ e ∈ oj.after, Region.binds .any e = true → e.on ≠ i := fun e he hb heq => by
        have h1 := hlisted e he hb
        rw [heq, hiun] at h1
        cases h1
      have hjS : j ∉ S := fun hm => by
        obtain ⟨o', ho', e, he, hb, hc⟩ := hS j hm
        rw [hoj] at ho'
        injection ho' with ho'
        subst ho'
        rcases hc with hc | hc
        · exact hnot e he hb hc
        · have h1 := hlisted e he hb
          rw [hun _ hc] at h1
          cases h1
      have h2 := opX_put P M ops md hoj (hfree j oj hoj hji hjun hnot) (fun h2 => by
        by_cases h3 : md i = 3
        · exact h3
        · exact absurd (hwd h3 j h2 hjun) hjS) (fun cs b => hsel i oi cs b hi) (fun cs b => hsel j oj cs b hoj) hy h1
      have hback : ∀ k, (listed.setIfInBounds j true).getD k true = false → listed.getD k true = false := fun k hk => by
        by_cases hjk : j = k
        · subst hjk; exact hjun
        · rw [getD_set_ne true hjk] at hk; exact hk
      have hfree' : ∀ k ok, ops[k]? = some ok → k ≠ i → (listed.setIfInBounds j true).getD k true = false →
          (∀ e ∈ ok.after, Region.binds .any e = true → e.on ≠ i) → oi.apart ops ok = true := fun k ok hk hki hu hno => hfree k ok hk hki (hback k hu) hno
      refine opX_mono P M ops md (fun a' w' h3 => ih (listed.setIfInBounds j true) a' w' hfree' (fun k hk => ?_) (fun h3 k hk hu => hwd h3 k hk (hback k hu)) (ready_mono hr (Ne.symm hji)) h3.1 ?_) h2
      · have hjk : j ≠ k := fun h => hjS (h ▸ hk)
        rw [getD_set_ne true hjk]
        exact hun k hk
      · rw [Array.setIfInBounds_comm _ _ hji]
        exact h3.2

/-- the walk in the orders given -/
def wpTree (K : Act → World → Prop) : OT → Act → World → Prop
  | .nil, a, wb => ∀ w, Ext No wb w → K a w
  | .op i r, a, wb => opX P M ops md i (wpTree K r) a wb
  | .fork x y, a, wb => wpTree K x a wb ∧ wpTree K y a wb
end

def OT.heads : OT → List Nat
  | .nil => []
  | .op i _ => [i]
  | .fork x y => x.heads ++ y.heads

def natIn (l : List Nat) (i : Nat) : Bool := l.any (Nat.beq i)
theorem natIn_iff {l : List Nat} {i : Nat} (h : natIn l i = true) : i ∈ l := by
  obtain ⟨j, hj, he⟩ := List.any_eq_true.1 h
  have := Nat.eq_of_beq_eq_true he
  subst this
  exact hj

/-- those that must wait for i, found in one pass -/
def waitGo (ops : Array Oper) (i : Nat) : List Nat → List Nat → List Nat
  | [], S => S
  | k :: ks, S => match ops[k]? with
    | some o => bif o.after.any (fun e => Region.binds .any e && (Nat.beq e.on i || natIn S e.on)) then waitGo ops i ks (k :: S) else waitGo ops i ks S
    | none => waitGo ops i ks S
def waitSet (ops : Array Oper) (i n : Nat) : List Nat := waitGo ops i (List.range n) []
def waitsB (ops : Array Oper) (i : Nat) (S : List Nat) : Bool := S.all fun k => match ops[k]? with
  | some o => o.after.any fun e => Region.binds .any e && (Nat.beq e.on i || natIn S e.on)
  | none => false
theorem waitsB_spec {ops : Array Oper} {i : Nat} {S : List Nat} (h : waitsB ops i S = true) : Waits ops i S := by
  intro k hk
  have h1 := List.all_eq_true.1 h k hk
  cases ho : ops[k]? with
  | none => rw [ho] at h1; cases h1
  | some o =>
    rw [ho] at h1
    simp only [Array.any_eq_true'] at h1
    obtain ⟨e, he, hb⟩ := h1
    simp only [Bool.and_eq_true, Bool.or_eq_true] at hb
    refine ⟨o, rfl, e, he, hb.1, ?_⟩
    rcases hb.2 with hb | hb
    · exact .inl (Nat.eq_of_beq_eq_true hb)
    · exact .inr (natIn_iff hb)

/-- may i be taken first, whatever else is open? -/
def mayB (ops : Array Oper) (md : Nat → Nat) (wl : List Nat) (listed : Array Bool) (i : Nat) : Bool :=
  Nat.beq (md i) 3 || (let S := waitSet ops i ops.size; waitsB ops i S && (S.all fun k => !listed.getD k true) && wl.all fun j => listed.getD j true || natIn S j)

def treeB (ops : Array Oper) (md : Nat → Nat) (wl : List Nat) : Bool → OT → Array Bool → Nat → Bool
  | _, .nil, listed, n => (Region.ready .any ops listed).isEmpty && Nat.beq n 0
  | _, .op _ _, _, 0 => false
  | alone, .op i r, listed, n + 1 => (Region.ready .any ops listed).contains i &&
      (bif (Nat.beq (md i) 1 || Nat.beq (md i) 2) then (!alone || (Region.ready .any ops listed) == [i]) else (Region.free .any ops listed i && mayB ops md wl listed i)) && treeB ops md wl true r (listed.setIfInBounds i true) n
  | _, .fork _ _, _, 0 => false
  | alone, .fork x y, listed, n + 1 => (!alone || ((Region.ready .any ops listed).all (natIn (x.heads ++ y.heads)))) && treeB ops md wl false x listed (n + 1) && treeB ops md wl false y listed (n + 1)

/-- each choice of a fork -/
theorem opX_heads {P : Program} {M : Nat → Prop} {ops : Array Oper} {md : Nat → Nat} {wl : List Nat} {K : Act → World → Prop} (n : Nat)
    (hb : ∀ (t : OT) (listed : Array Bool) (a : Act) (wb : World), treeB ops md wl true t listed n = true → wpTree P M ops md K t a wb → wpAnyX P M ops md K n listed a wb) :
    ∀ (t : OT) (listed : Array Bool) (a : Act) (wb : World), treeB ops md wl false t listed (n + 1) = true → wpTree P M ops md K t a wb → ∀ i ∈ t.heads, opX P M ops md i (wpAnyX P M ops md K n (listed.setIfInBounds i true)) a wb
  | .nil, listed, a, wb, _, _, i, hi => by simp [OT.heads] at hi
  | .op j r, listed, a, wb, hB, h, i, hi => by
    simp only [OT.heads, List.mem_singleton] at hi
    subst hi
    simp only [treeB, Bool.and_eq_true] at hB
    exact opX_mono P M ops md (fun a w h => hb r _ a w hB.2 h) h
  | .fork x y, listed, a, wb, hB, h, i, hi => by
    simp only [treeB, Bool.and_eq_true] at hB
    simp only [OT.heads, List.mem_append] at hi
    rcases hi with hi | hi
    · exact opX_heads n hb x listed a wb hB.1.2 h.1 i hi
    · exact opX_heads n hb y listed a wb hB.2 h.2 i hi

theorem treeB_ready {ops : Array Oper} {md : Nat → Nat} {wl : List Nat} {n : Nat} {listed : Array Bool} : ∀ (t : OT) (al : Bool), treeB ops md wl al t listed (n + 1) = true → Region.ready .any ops listed ≠ []
  | .nil, _, h => by simp [treeB] at h
  | .op i r, al, h => by
    simp only [treeB, Bool.and_eq_true] at h
    intro h0
    rw [h0] at h
    simp at h
  | .fork x y, al, h => by
    simp only [treeB, Bool.and_eq_true] at h
    exact treeB_ready x false h.1.2

theorem wpAnyX_tree {P : Program} {M : Nat → Prop} {ops : Array Oper} {md : Nat → Nat} {wl : List Nat} {K : Act → World → Prop} (hs : Region.noSelect ops = true) (hwl : ∀ j, md j = 2 → j ∈ wl) : ∀ (n : Nat) (t : OT) (listed : Array Bool) (a : Act) (wb : World),
    treeB ops md wl true t listed n = true → wpTree P M ops md K t a wb → wpAnyX P M ops md K n listed a wb := by
  intro n
  induction n with
  | zero =>
    intro t listed a wb hB h
    cases t with
    | nil =>
      simp only [treeB, Bool.and_eq_true] at hB
      exact ⟨by simpa using hB.1, h⟩
    | op i r => simp [treeB] at hB
    | fork x y => simp [treeB] at hB
  | succ n ih =>
    intro t listed a wb hB h
    have hne := treeB_ready t true hB
    cases t with
    | nil => simp [treeB] at hB
    | fork x y =>
      refine ⟨fun h0 => absurd h0 hne, fun i hi => ?_⟩
      simp only [treeB, Bool.and_eq_true, Bool.not_true, Bool.false_or] at hB
      have hin := natIn_iff (List.all_eq_true.1 hB.1.1 i hi)
      rcases List.mem_append.1 hin with hin | hin
      · exact opX_heads n ih x listed a wb hB.1.2 h.1 i hin
      · exact opX_heads n ih y listed a wb hB.2 h.2 i hin
    | op i r =>
      simp only [treeB, Bool.and_eq_true] at hB
      obtain ⟨⟨hr, hf⟩, hB'⟩ := hB
      have hr' : i ∈ Region.ready .any ops listed := by simpa using hr
      have hm : opX P M ops md i (wpAnyX P M ops md K n (listed.setIfInBounds i true)) a wb := opX_mono P M ops md (fun a w h => ih r _ a w hB' h) h
      cases hk : (Nat.beq (md i) 1 || Nat.beq (md i) 2) with
      | true =>
        rw [hk] at hf
        simp only [Bool.not_true, Bool.false_or, cond_true] at hf
        have hf' : Region.ready .any ops listed = [i] := by simpa using hf
        refine ⟨fun h0 => absurd h0 hne, fun j hj => ?_⟩
        rw [hf'] at hj
        have : j = i := by simpa using hj
        subst this
        exact hm
      | false =>
        rw [hk] at hf
        simp only [cond_false, Bool.and_eq_true] at hf
        have hri : md i ≠ 1 ∧ md i ≠ 2 := by
          simp only [Bool.or_eq_false_iff] at hk
          constructor
          · intro h1; rw [h1] at hk; exact absurd hk.1 (by decide)
          · intro h1; rw [h1] at hk; exact absurd hk.2 (by decide)
        obtain ⟨_, o, ho, _⟩ := mem_ready.1 hr'
        have hy : ∃ c, FX P M ops md i o c a wb ∧ wpAnyX P M ops md K n (listed.setIfInBounds i true) (a.put o.dst c) wb := by
          unfold opX at hm
          simp only [ho] at hm
          split at hm
          · rename_i hw
            rw [if_neg hri.1, if_neg hri.2] at hm
            obtain ⟨c, h1, h2⟩ := hm
            exact ⟨c, .inl ⟨hw, h1⟩, h2⟩
          · rename_i hw
            exact ⟨undef, .inr ⟨by simpa using hw, rfl⟩, hm⟩
        obtain ⟨c, hc1, hc2⟩ := hy
        by_cases h3 : md i = 3
        · exact wpAnyX_first P M ops md ho hri (Region.noSelect_spec hs) [] (fun k hk => by cases hk) n listed a wb (Region.free_spec ho hf.1) (fun k hk => by cases hk) (fun hn => absurd h3 hn) hr' hc1 hc2
        · have hmay := hf.2
          unfold mayB at hmay
          simp only [Bool.or_eq_true, Bool.and_eq_true] at hmay
          rcases hmay with hmay | ⟨⟨hw1, hw2⟩, hw3⟩
          · exact absurd (Nat.eq_of_beq_eq_true hmay) h3
          · refine wpAnyX_first P M ops md ho hri (Region.noSelect_spec hs) _ (waitsB_spec hw1) n listed a wb (Region.free_spec ho hf.1) (fun k hk => ?_) (fun _ j hj hu => ?_) hr' hc1 hc2
            · simpa using List.all_eq_true.1 hw2 k hk
            · have h4 := List.all_eq_true.1 hw3 j (hwl j hj)
              rw [hu, Bool.false_or] at h4
              exact natIn_iff h4

/-! ### the same over frames as functions -/

def lookN : List (Nat × Nat) → Nat → Nat
  | [], _ => 0
  | (j, m) :: l, i => bif Nat.beq i j then m else lookN l i

inductive DT where
  | nil
  | op (o : Oper) (m : Nat) (r : DT)
  | fork (x y : DT)

def pickT (ops : List Oper) (ml : List (Nat × Nat)) : OT → DT
  | .nil => .nil
  | .op i r => .op (nth ops i) (lookN ml i) (pickT ops ml r)
  | .fork x y => .fork (pickT ops ml x) (pickT ops ml y)

def X (P : Program) (M : Nat → Prop) (ops : List Oper) (K : DK) : DT → Fm → World → Prop
  | .nil, f, wb => ∀ w, Ext No wb w → K f w
  | .op o m l, f, wb =>
    if wantd ops f o = true then
      if m = 1 then ∀ w, Ext No wb w → relUpon P (fun v w' => Ext M w w' ∧ X P M ops K l (updO f o.dst v) w') ((execOp (ev f) o).run P w)
      else if m = 2 then ∀ w, Ext No wb w → relUpon P (fun v w' => X P M ops K l (updO f o.dst v) w') ((execOp (ev f) o).run P w)
      else ∃ c, (∀ w, (m = 3 ∨ Ext M wb w) → funUpon P No w c ((execOp (ev f) o).run P w)) ∧ X P M ops K l (updO f o.dst c) wb
    else X P M ops K l (updO f o.dst undef) wb
  | .fork x y, f, wb => X P M ops K x f wb ∧ X P M ops K y f wb

def OT.ltB (m : Nat) : OT → Bool
  | .nil => true
  | .op i r => Nat.blt i m && r.ltB m
  | .fork x y => x.ltB m && y.ltB m

theorem wpTree_of_X {P : Program} {n : Nat} {M : Nat → Prop} {ops : List Oper} {ml : List (Nat × Nat)} {K : DK} {ds : List Deferred}
    (hd : (ops.toArray.all fun o => match o.dst with | some d => Nat.blt d n | none => true) = true) :
    ∀ (t : OT), t.ltB ops.length = true → ∀ (f : Fm) (a : Act) (wb : World), Rp n f ds a → X P M ops K (pickT ops ml t) f wb →
      wpTree P M ops.toArray (lookN ml) (fun a w => ∃ f, Rp n f ds a ∧ K f w) t a wb
  | .nil, _, f, a, wb, hr, h => fun w he => ⟨f, hr, h w he⟩
  | .fork x y, hl, f, a, wb, hr, h => by
    simp only [OT.ltB, Bool.and_eq_true] at hl
    exact ⟨wpTree_of_X hd x hl.1 f a wb hr h.1, wpTree_of_X hd y hl.2 f a wb hr h.2⟩
  | .op i l, hl, f, a, wb, hr, h => by
    simp only [OT.ltB, Bool.and_eq_true] at hl
    have hil : i < ops.length := by
      have h1 : i + 1 ≤ ops.length := by simpa [Nat.blt] using hl.1
      omega
    have hi : ops.toArray[i]? = some (nth ops i) := by
      have := nth_get ops i hil
      simpa using this
    have hput : ∀ v, Rp n (updO f (nth ops i).dst v) ds (a.put (nth ops i).dst v) := by
      intro v
      have hm := Array.all_eq_true_iff_forall_mem.1 hd (nth ops i) (Array.mem_of_getElem? hi)
      cases hdst : (nth ops i).dst with
      | none => exact hr
      | some d =>
        rw [hdst] at hm
        exact hr.put hm v
    show opX P M ops.toArray (lookN ml) i _ a wb
    unfold opX
    simp only [hi]
    simp only [pickT, X] at h
    rw [hr.wanted]
    split
    · rename_i hw
      rw [if_pos hw] at h
      split
      · rename_i hrel
        rw [if_pos hrel] at h
        intro w he
        rw [hr.eval]
        exact relUpon_mono P (fun v w' hv => ⟨hv.1, wpTree_of_X hd l hl.2 _ _ _ (hput v) hv.2⟩) (h w he)
      · rename_i hrel
        rw [if_neg hrel] at h
        split
        · rename_i hrel2
          rw [if_pos hrel2] at h
          intro w he
          rw [hr.eval]
          exact relUpon_mono P (fun v w' hv => wpTree_of_X hd l hl.2 _ _ _ (hput v) hv) (h w he)
        · rename_i hrel2
          rw [if_neg hrel2] at h
          obtain ⟨c, h1, h2⟩ := h
          rw [hr.eval]
          exact ⟨c, h1, wpTree_of_X hd l hl.2 _ _ _ (hput c) h2⟩
    · rename_i hw
      rw [if_neg hw] at h
      exact wpTree_of_X hd l hl.2 _ _ _ (hput undef) h

def wildsOf : List (Nat × Nat) → List Nat
  | [] => []
  | (j, m) :: l => bif Nat.beq m 2 then j :: wildsOf l else wildsOf l
theorem wildsOf_spec : ∀ {ml : List (Nat × Nat)} {j : Nat}, lookN ml j = 2 → j ∈ wildsOf ml
  | [], j, h => by simp [lookN] at h
  | (i, m) :: l, j, h => by
    unfold lookN at h
    unfold wildsOf
    cases hb : Nat.beq j i with
    | true =>
      have := Nat.eq_of_beq_eq_true hb
      subst this
      rw [hb] at h
      simp only [cond_true] at h
      subst h
      exact List.mem_cons_self
    | false =>
      rw [hb] at h
      simp only [cond_false] at h
      have ih := wildsOf_spec h
      cases hm : Nat.beq m 2 with
      | true => exact List.mem_cons_of_mem _ ih
      | false => exact ih

def treeOK (n : Nat) (ops : Array Oper) (ml : List (Nat × Nat)) (t : OT) : Bool :=
  Region.noSelect ops && (ops.all fun o => match o.dst with | some d => Nat.blt d n | none => true) && treeB ops (lookN ml) (wildsOf ml) true t (Array.replicate ops.size false) ops.size && t.ltB ops.size

/-- a region that draws its order: walked in the orders of 't'; 'ml': the kinds of its operations, where not 0 -/
theorem G_drawX {P : Program} {n : Nat} {id : Nat} {ops : List Oper} {k : List It} {Q : Post} {f : Fm} {ds : List Deferred} {w : World} (M : Nat → Prop) (t : OT) (ml : List (Nat × Nat))
    (hm : P.follows .mixedOrders = true) (hB : treeOK n ops.toArray ml t = true)
    (h : X P M ops (fun f w => G P n k Q f ds w) (pickT ops ml t) f w) : G P n (.code (.region id ops.toArray true) :: k) Q f ds w := by
  refine G_code fun a ha => ?_
  simp only [treeOK, Bool.and_eq_true] at hB
  obtain ⟨⟨⟨h1, h3⟩, h4⟩, h5⟩ := hB
  refine wp_region_any hm ?_
  have hlt : t.ltB ops.length = true := by simpa using h5
  have htree := wpTree_of_X (n := n) (ds := ds) h3 t hlt f a w ha h
  have hR := wpAnyX_tree h1 (fun j hj => wildsOf_spec hj) ops.toArray.size t (Array.replicate ops.toArray.size false) a w h4 htree
  exact wpAny_of_X P M ops.toArray (lookN ml) (Q := lift n (H P n k Q)) (fun a w ⟨f, hr, hg⟩ => ⟨f, ds, hr, by rw [← G_def]; exact hg⟩) _ _ _ _ _ (Ext.drew w) hR

section
variable {P : Program} {M : Nat → Prop} {ops : List Oper} {K : DK} {rest : DT} {f : Fm} {wb : World}
variable {dst : Option Nat} {ty : TypeId} {pos : String} {aft : Array Edge} {g : Option (Nat × Bool)}

theorem X_nil (h : ∀ w, Ext No wb w → K f w) : X P M ops K .nil f wb := h
theorem X_fork {x y : DT} (hx : X P M ops K x f wb) (hy : X P M ops K y f wb) : X P M ops K (.fork x y) f wb := ⟨hx, hy⟩

/-- one value in every later world -/
theorem X_val0 {o : Oper} {d : Nat} {v : Value} (hr : ∀ w, Ext M wb w → (execOp (ev f) o).run P w = .ok (.value v) w) (hw : wantd ops f o = true) (hd : o.dst = some d)
    (h : X P M ops K rest (upd f d v) wb) : X P M ops K (.op o 0 rest) f wb := by
  unfold X
  rw [if_pos hw, if_neg (by decide), if_neg (by decide), hd]
  refine ⟨v, fun w he => ?_, h⟩
  rw [hr w (he.resolve_left (by decide))]
  exact ⟨rfl, Ext.refl _ _⟩
theorem X_valE {o : Oper} {d : Nat} {v v' : Value} (hr : ∀ w, Ext M wb w → (execOp (ev f) o).run P w = .ok (.value v) w) (hb : v = v') (hw : wantd ops f o = true) (hd : o.dst = some d)
    (h : X P M ops K rest (upd f d v') wb) : X P M ops K (.op o 0 rest) f wb := X_val0 hr hw hd (by rw [hb]; exact h)
/-- one value in every world -/
theorem X_pure {o : Oper} {d : Nat} {v : Value} (hr : ∀ w, (execOp (ev f) o).run P w = .ok (.value v) w) (hw : wantd ops f o = true) (hd : o.dst = some d)
    (h : X P M ops K rest (upd f d v) wb) : X P M ops K (.op o 3 rest) f wb := by
  unfold X
  rw [if_pos hw, if_neg (by decide), if_neg (by decide), hd]
  refine ⟨v, fun w he => ?_, h⟩
  rw [hr w]
  exact ⟨rfl, Ext.refl _ _⟩
theorem X_unwanted {o : Oper} {d m : Nat} (hw : wantd ops f o = false) (hd : o.dst = some d)
    (h : X P M ops K rest (upd f d undef) wb) : X P M ops K (.op o m rest) f wb := by
  unfold X
  rw [hw, if_neg (by simp), hd]
  exact h
/-- a call that makes memory -/
theorem X_call {d : Nat} {fn : FuncId} {xs : List Operand} {ts : Array TypeId} [CallT P fn] {Φ : World → Value → World → Prop}
    (hc : ∀ w, Ext No wb w → Calls P fn (xs.map (ev f)).toArray w (Ret (Φ w))) (hw : wantd ops f ⟨some d, .call ⟨.value (.func fn), xs.toArray, ts⟩, ty, pos, aft, g⟩ = true)
    (h : ∀ w v w', Ext No wb w → Φ w v w' → Ext M w w' ∧ X P M ops K rest (upd f d v) w') : X P M ops K (.op ⟨some d, .call ⟨.value (.func fn), xs.toArray, ts⟩, ty, pos, aft, g⟩ 1 rest) f wb := by
  unfold X
  rw [if_pos hw, if_pos rfl]
  intro w he
  rw [R_call]
  exact (hc w he).mono fun e w' ⟨v, h1, h2⟩ => ⟨v, h1, h w v w' he h2⟩
/-- an operation that makes memory -/
theorem X_make {o : Oper} {d : Nat} (hw : wantd ops f o = true) (hd : o.dst = some d)
    (h : ∀ w, Ext No wb w → ∃ v w', (execOp (ev f) o).run P w = .ok (.value v) w' ∧ Ext M w w' ∧ X P M ops K rest (upd f d v) w') : X P M ops K (.op o 1 rest) f wb := by
  unfold X
  rw [if_pos hw, if_pos rfl, hd]
  intro w he
  obtain ⟨v, w', h1, h2, h3⟩ := h w he
  rw [h1]
  exact ⟨h2, h3⟩
/-- an operation that writes -/
theorem X_wild {o : Oper} {d : Nat} (hw : wantd ops f o = true) (hd : o.dst = some d)
    (h : ∀ w, Ext No wb w → ∃ v w', (execOp (ev f) o).run P w = .ok (.value v) w' ∧ X P M ops K rest (upd f d v) w') : X P M ops K (.op o 2 rest) f wb := by
  unfold X
  rw [if_pos hw, if_neg (by decide), if_pos rfl, hd]
  intro w he
  obtain ⟨v, w', h1, h3⟩ := h w he
  rw [h1]
  exact h3
/-- a call that writes -/
theorem X_callW {d : Nat} {fn : FuncId} {xs : List Operand} {ts : Array TypeId} [CallT P fn] {Φ : World → Value → World → Prop}
    (hc : ∀ w, Ext No wb w → Calls P fn (xs.map (ev f)).toArray w (Ret (Φ w))) (hw : wantd ops f ⟨some d, .call ⟨.value (.func fn), xs.toArray, ts⟩, ty, pos, aft, g⟩ = true)
    (h : ∀ w v w', Ext No wb w → Φ w v w' → X P M ops K rest (upd f d v) w') : X P M ops K (.op ⟨some d, .call ⟨.value (.func fn), xs.toArray, ts⟩, ty, pos, aft, g⟩ 2 rest) f wb := by
  unfold X
  rw [if_pos hw, if_neg (by decide), if_pos rfl]
  intro w he
  rw [R_call]
  exact (hc w he).mono fun e w' ⟨v, h1, h2⟩ => ⟨v, h1, h w v w' he h2⟩
theorem X_wildN {o : Oper} (hw : wantd ops f o = true) (hd : o.dst = none)
    (h : ∀ w, Ext No wb w → ∃ w', (execOp (ev f) o).run P w = .ok .skip w' ∧ X P M ops K rest f w') : X P M ops K (.op o 2 rest) f wb := by
  unfold X
  rw [if_pos hw, if_neg (by decide), if_pos rfl, hd]
  intro w he
  obtain ⟨w', h1, h3⟩ := h w he
  rw [h1]
  exact h3
/-- a store -/
theorem X_store {t : Nat} {x y : Operand} {b i : Nat} {cs : List Value} {T : TypeId} {u : Value} [PlainT P t] (hx : ev f x = .pointer (some ⟨b, i, none⟩)) (hb : ∀ w, Ext No wb w → w.heap[b]? = some (Ob cs T)) (hv : lget cs i = some u) (h1 : (ev f y).oneCell' = true)
    (hw : wantd ops f ⟨none, .store t x y, ty, pos, aft, g⟩ = true)
    (h : ∀ w w', Ext No wb w → w'.heap[b]? = some (Ob (lset cs i (ev f y)) T) → Ext (fun k => k = b) w w' → w'.heap.size = w.heap.size → X P M ops K rest f w') : X P M ops K (.op ⟨none, .store t x y, ty, pos, aft, g⟩ 2 rest) f wb :=
  X_wildN hw rfl fun w he => ⟨_, R_storeB hx (hb w he) hv h1, h w _ he (heap_setCell (hb w he)) (Ext.setCell w ⟨b, i, none⟩ (ev f y) rfl) (by simp)⟩
end
attribute [irreducible] X
end Go.Proofs.YtjilnjifegeceaaGreatDoor

/-
  Which kind of operation comes next, in a region that draws and writes. Each says the same twice.
-/
namespace Go.Proofs.YtjilnjifegeceaaGreatDoor
section
variable {P : Program} {M : Nat → Prop} {ops : List Oper} {K : DK} {rest : DT} {f : Fm} {wb : World} {dst : Option Nat} {ty : TypeId} {pos : String} {aft : Array Edge} {g : Option (Nat × Bool)} {mm : Nat}
theorem cX_guard {op : Go.Op} {gg : Nat × Bool} (h : X P M ops K (.op ⟨dst, op, ty, pos, aft, some gg⟩ mm rest) f wb) : X P M ops K (.op ⟨dst, op, ty, pos, aft, some gg⟩ mm rest) f wb := h
theorem cX_move {x : Operand} (h : X P M ops K (.op ⟨dst, .move x, ty, pos, aft, g⟩ mm rest) f wb) : X P M ops K (.op ⟨dst, .move x, ty, pos, aft, g⟩ mm rest) f wb := h
theorem cX_assign {x : Operand} (h : X P M ops K (.op ⟨dst, .assign x, ty, pos, aft, g⟩ mm rest) f wb) : X P M ops K (.op ⟨dst, .assign x, ty, pos, aft, g⟩ mm rest) f wb := h
theorem cX_load {t : TypeId} {x : Operand} (h : X P M ops K (.op ⟨dst, .load t x, ty, pos, aft, g⟩ mm rest) f wb) : X P M ops K (.op ⟨dst, .load t x, ty, pos, aft, g⟩ mm rest) f wb := h
theorem cX_fieldAddr {t : TypeId} {x : Operand} {i : Nat} (h : X P M ops K (.op ⟨dst, .fieldAddr t x i, ty, pos, aft, g⟩ mm rest) f wb) : X P M ops K (.op ⟨dst, .fieldAddr t x i, ty, pos, aft, g⟩ mm rest) f wb := h
theorem cX_nilCheck {x : Operand} (h : X P M ops K (.op ⟨dst, .nilCheck x, ty, pos, aft, g⟩ mm rest) f wb) : X P M ops K (.op ⟨dst, .nilCheck x, ty, pos, aft, g⟩ mm rest) f wb := h
theorem cX_extract {x : Operand} {i : Nat} (h : X P M ops K (.op ⟨dst, .extract x i, ty, pos, aft, g⟩ mm rest) f wb) : X P M ops K (.op ⟨dst, .extract x i, ty, pos, aft, g⟩ mm rest) f wb := h
theorem cX_typeAssert {x : Operand} {t u : TypeId} {b : Bool} (h : X P M ops K (.op ⟨dst, .typeAssert x t u b, ty, pos, aft, g⟩ mm rest) f wb) : X P M ops K (.op ⟨dst, .typeAssert x t u b, ty, pos, aft, g⟩ mm rest) f wb := h
theorem cX_call {c : Call} (h : X P M ops K (.op ⟨dst, .call c, ty, pos, aft, g⟩ mm rest) f wb) : X P M ops K (.op ⟨dst, .call c, ty, pos, aft, g⟩ mm rest) f wb := h
theorem cX_pick {x y z : Operand} (h : X P M ops K (.op ⟨dst, .pick x y z, ty, pos, aft, g⟩ mm rest) f wb) : X P M ops K (.op ⟨dst, .pick x y z, ty, pos, aft, g⟩ mm rest) f wb := h
theorem cX_indexAddr {t : TypeId} {x y : Operand} (h : X P M ops K (.op ⟨dst, .indexAddr t x y, ty, pos, aft, g⟩ mm rest) f wb) : X P M ops K (.op ⟨dst, .indexAddr t x y, ty, pos, aft, g⟩ mm rest) f wb := h
theorem cX_store {t : TypeId} {x y : Operand} (h : X P M ops K (.op ⟨dst, .store t x y, ty, pos, aft, g⟩ mm rest) f wb) : X P M ops K (.op ⟨dst, .store t x y, ty, pos, aft, g⟩ mm rest) f wb := h
theorem cX_eql {t u : TypeId} {x y : Operand} (h : X P M ops K (.op ⟨dst, .binOp .eql t x y u, ty, pos, aft, g⟩ mm rest) f wb) : X P M ops K (.op ⟨dst, .binOp .eql t x y u, ty, pos, aft, g⟩ mm rest) f wb := h
theorem cX_neq {t u : TypeId} {x y : Operand} (h : X P M ops K (.op ⟨dst, .binOp .neq t x y u, ty, pos, aft, g⟩ mm rest) f wb) : X P M ops K (.op ⟨dst, .binOp .neq t x y u, ty, pos, aft, g⟩ mm rest) f wb := h
theorem cX_lss {t u : TypeId} {x y : Operand} (h : X P M ops K (.op ⟨dst, .binOp .lss t x y u, ty, pos, aft, g⟩ mm rest) f wb) : X P M ops K (.op ⟨dst, .binOp .lss t x y u, ty, pos, aft, g⟩ mm rest) f wb := h
theorem cX_leq {t u : TypeId} {x y : Operand} (h : X P M ops K (.op ⟨dst, .binOp .leq t x y u, ty, pos, aft, g⟩ mm rest) f wb) : X P M ops K (.op ⟨dst, .binOp .leq t x y u, ty, pos, aft, g⟩ mm rest) f wb := h
theorem cX_gtr {t u : TypeId} {x y : Operand} (h : X P M ops K (.op ⟨dst, .binOp .gtr t x y u, ty, pos, aft, g⟩ mm rest) f wb) : X P M ops K (.op ⟨dst, .binOp .gtr t x y u, ty, pos, aft, g⟩ mm rest) f wb := h
theorem cX_geq {t u : TypeId} {x y : Operand} (h : X P M ops K (.op ⟨dst, .binOp .geq t x y u, ty, pos, aft, g⟩ mm rest) f wb) : X P M ops K (.op ⟨dst, .binOp .geq t x y u, ty, pos, aft, g⟩ mm rest) f wb := h
theorem cX_add {t u : TypeId} {x y : Operand} (h : X P M ops K (.op ⟨dst, .binOp .add t x y u, ty, pos, aft, g⟩ mm rest) f wb) : X P M ops K (.op ⟨dst, .binOp .add t x y u, ty, pos, aft, g⟩ mm rest) f wb := h
theorem cX_sub {t u : TypeId} {x y : Operand} (h : X P M ops K (.op ⟨dst, .binOp .sub t x y u, ty, pos, aft, g⟩ mm rest) f wb) : X P M ops K (.op ⟨dst, .binOp .sub t x y u, ty, pos, aft, g⟩ mm rest) f wb := h
theorem cX_and {t u : TypeId} {x y : Operand} (h : X P M ops K (.op ⟨dst, .binOp .and t x y u, ty, pos, aft, g⟩ mm rest) f wb) : X P M ops K (.op ⟨dst, .binOp .and t x y u, ty, pos, aft, g⟩ mm rest) f wb := h
theorem cX_or {t u : TypeId} {x y : Operand} (h : X P M ops K (.op ⟨dst, .binOp .or t x y u, ty, pos, aft, g⟩ mm rest) f wb) : X P M ops K (.op ⟨dst, .binOp .or t x y u, ty, pos, aft, g⟩ mm rest) f wb := h
theorem cX_rem {t u : TypeId} {x y : Operand} (h : X P M ops K (.op ⟨dst, .binOp .rem t x y u, ty, pos, aft, g⟩ mm rest) f wb) : X P M ops K (.op ⟨dst, .binOp .rem t x y u, ty, pos, aft, g⟩ mm rest) f wb := h
theorem cX_not {t : TypeId} {x : Operand} (h : X P M ops K (.op ⟨dst, .unOp .not t x, ty, pos, aft, g⟩ mm rest) f wb) : X P M ops K (.op ⟨dst, .unOp .not t x, ty, pos, aft, g⟩ mm rest) f wb := h
theorem cX_makeInterface {t : TypeId} {x : Operand} (h : X P M ops K (.op ⟨dst, .makeInterface t x, ty, pos, aft, g⟩ mm rest) f wb) : X P M ops K (.op ⟨dst, .makeInterface t x, ty, pos, aft, g⟩ mm rest) f wb := h
theorem cX_convert {t u : TypeId} {x : Operand} (h : X P M ops K (.op ⟨dst, .convert t u x, ty, pos, aft, g⟩ mm rest) f wb) : X P M ops K (.op ⟨dst, .convert t u x, ty, pos, aft, g⟩ mm rest) f wb := h
theorem cX_box {t : TypeId} {x : Operand} (h : X P M ops K (.op ⟨dst, .box t x, ty, pos, aft, g⟩ mm rest) f wb) : X P M ops K (.op ⟨dst, .box t x, ty, pos, aft, g⟩ mm rest) f wb := h
theorem cX_alloc {t : TypeId} (h : X P M ops K (.op ⟨dst, .alloc t, ty, pos, aft, g⟩ mm rest) f wb) : X P M ops K (.op ⟨dst, .alloc t, ty, pos, aft, g⟩ mm rest) f wb := h
theorem cX_build {t : TypeId} {ps : Array (Nat × Operand)} (h : X P M ops K (.op ⟨dst, .build t ps, ty, pos, aft, g⟩ mm rest) f wb) : X P M ops K (.op ⟨dst, .build t ps, ty, pos, aft, g⟩ mm rest) f wb := h
theorem cX_buildSlice {t : TypeId} {i : Nat} {ps : Array (Nat × Operand)} (h : X P M ops K (.op ⟨dst, .buildSlice t i ps, ty, pos, aft, g⟩ mm rest) f wb) : X P M ops K (.op ⟨dst, .buildSlice t i ps, ty, pos, aft, g⟩ mm rest) f wb := h
theorem cX_slice {t : TypeId} {x : Operand} {l hi m : Option Operand} (h : X P M ops K (.op ⟨dst, .slice t x l hi m, ty, pos, aft, g⟩ mm rest) f wb) : X P M ops K (.op ⟨dst, .slice t x l hi m, ty, pos, aft, g⟩ mm rest) f wb := h
theorem cX_index {t : TypeId} {x y : Operand} (h : X P M ops K (.op ⟨dst, .index t x y, ty, pos, aft, g⟩ mm rest) f wb) : X P M ops K (.op ⟨dst, .index t x y, ty, pos, aft, g⟩ mm rest) f wb := h
theorem cX_lookup {t : TypeId} {x y : Operand} {b : Bool} (h : X P M ops K (.op ⟨dst, .lookup t x y b, ty, pos, aft, g⟩ mm rest) f wb) : X P M ops K (.op ⟨dst, .lookup t x y b, ty, pos, aft, g⟩ mm rest) f wb := h
theorem cX_mapUpdate {t : TypeId} {x y z : Operand} (h : X P M ops K (.op ⟨dst, .mapUpdate t x y z, ty, pos, aft, g⟩ mm rest) f wb) : X P M ops K (.op ⟨dst, .mapUpdate t x y z, ty, pos, aft, g⟩ mm rest) f wb := h
theorem cX_makeMap {t : TypeId} {r : Option Operand} (h : X P M ops K (.op ⟨dst, .makeMap t r, ty, pos, aft, g⟩ mm rest) f wb) : X P M ops K (.op ⟨dst, .makeMap t r, ty, pos, aft, g⟩ mm rest) f wb := h
theorem cX_makeSlice {t : TypeId} {x y : Operand} (h : X P M ops K (.op ⟨dst, .makeSlice t x y, ty, pos, aft, g⟩ mm rest) f wb) : X P M ops K (.op ⟨dst, .makeSlice t x y, ty, pos, aft, g⟩ mm rest) f wb := h
theorem cX_defer {c : Call} (h : X P M ops K (.op ⟨dst, .defer c, ty, pos, aft, g⟩ mm rest) f wb) : X P M ops K (.op ⟨dst, .defer c, ty, pos, aft, g⟩ mm rest) f wb := h
theorem cX_makeFunc {fn : Fn} {a b : Array Operand} (h : X P M ops K (.op ⟨dst, .makeFunc fn a b, ty, pos, aft, g⟩ mm rest) f wb) : X P M ops K (.op ⟨dst, .makeFunc fn a b, ty, pos, aft, g⟩ mm rest) f wb := h
end
end Go.Proofs.YtjilnjifegeceaaGreatDoor

/-
  The walk's own rules, ninth part: calls through an interface.
-/
namespace Go.Proofs.YtjilnjifegeceaaGreatDoor

class InvT (P : Program) (t : Nat) (name : String) (f : outParam Nat) : Prop where
  h : ∀ (a : Addr) (w : World), (method (P.types.size + Made.depth) t (.pointer (some a)) name).run P w = .ok (f, .pointer (some a)) w

section
variable {P : Program} {n : Nat} {ops rest : List Oper} {K : LK} {f : Fm} {ds : List Deferred} {w w' : World}
variable {dst : Option Nat} {ty : TypeId} {pos : String} {aft : Array Edge} {g : Option (Nat × Bool)}

theorem R_invoke {t : Nat} {name : String} {fn : Nat} [hi : InvT P t name fn] [hc : CallT P fn] {x : Operand} {a : Addr} {ts : Array TypeId} (hx : ev f x = .iface t (.pointer (some a))) :
    (execOp (ev f) ⟨dst, .call ⟨.invoke x name, #[], ts⟩, ty, pos, aft, g⟩).run P w = .ok (.enter fn #[.pointer (some a)]) w := by
  simp only [execOp, resolve, Sem.run_bind, Sem.run_pure, Result.andThen_ok, invoke]
  simp [hx, callMethod, hi.h a w, hc.h]

theorem L_invokeR {d : Nat} {t : Nat} {name : String} {fn : Nat} [hi : InvT P t name fn] [hc : CallT P fn] {x : Operand} {a : Addr} {ts : Array TypeId} {Φ : Value → World → Prop} (hx : ev f x = .iface t (.pointer (some a)))
    (hcl : Calls P fn #[.pointer (some a)] w (Ret Φ)) (hw : wantd ops f ⟨some d, .call ⟨.invoke x name, #[], ts⟩, ty, pos, aft, g⟩ = true) (hn : Nat.blt d n = true)
    (h : ∀ v w', Φ v w' → L P n ops K rest (upd f d v) ds w') : L P n ops K (⟨some d, .call ⟨.invoke x name, #[], ts⟩, ty, pos, aft, g⟩ :: rest) f ds w :=
  L_enter (R_invoke hx) hw rfl hn hcl fun _ w' ⟨v, he, hv⟩ => ⟨v, he, h v w' hv⟩
theorem L_invokeI {d : Nat} {t : Nat} {name : String} {fn : Nat} [hi : InvT P t name fn] [hc : CallT P fn] {x : Operand} {a : Addr} {ts : Array TypeId} {c : Value} (hx : ev f x = .iface t (.pointer (some a)))
    (hcl : Calls P fn #[.pointer (some a)] w (Ret (Is c w))) (hw : wantd ops f ⟨some d, .call ⟨.invoke x name, #[], ts⟩, ty, pos, aft, g⟩ = true) (hn : Nat.blt d n = true)
    (h : L P n ops K rest (upd f d c) ds w) : L P n ops K (⟨some d, .call ⟨.invoke x name, #[], ts⟩, ty, pos, aft, g⟩ :: rest) f ds w :=
  L_invokeR hx hcl hw hn fun v w' ⟨hv, hw'⟩ => by subst hv; subst hw'; exact h

theorem R_defer {fn : FuncId} {xs : List Operand} {ts : Array TypeId} :
    (execOp (ev f) ⟨dst, .defer ⟨.value (.func fn), xs.toArray, ts⟩, ty, pos, aft, g⟩).run P w = .ok (.defer { target := .fn (.func fn) #[], args := (xs.map (ev f)).toArray }) w := by
  simp only [execOp, resolve, ev, Deferred.ofValue, Sem.run_bind, Sem.run_pure, Result.andThen_ok]
  simp
end
end Go.Proofs.YtjilnjifegeceaaGreatDoor

/-
  The walk's own rules, tenth part: maps keyed by strings that grow by new keys alone; nil slices, nil maps.
-/
namespace Go.Proofs.YtjilnjifegeceaaGreatDoor

class MapT (P : Program) (t : Nat) (kt et : outParam Nat) (z : outParam Value) : Prop where
  h : P.underlying t = some (.map kt et)
  hk : P.underlying kt = some .string
  hz : (P.info? et).map (·.zero) = some (some z)
class SliceE (P : Program) (t : Nat) : Prop where
  h : (match P.underlying t with | some (.slice _) => true | _ => false) = true
class MapE (P : Program) (t : Nat) : Prop where
  h : (match P.underlying t with | some (.map _ _) => true | _ => false) = true

/-- a map with these keys -/
def MapIs (w : World) (r : Nat) (ks : List ByteArray) : Prop := ∃ (es : Array MapEntry) (clock : Nat), w.heap[r]? = some (.map es clock) ∧ es.toList.map (·.key) = ks.map Value.string

theorem findNow_none {s : ByteArray} : ∀ {es : List MapEntry} {ks : List ByteArray} {i : Nat}, es.map (·.key) = ks.map Value.string → (∀ k ∈ ks, (s == k) = false) → Instr.findNow .string (.string s) es i = some none
  | [], ks, i, _, _ => rfl
  | e :: es, [], i, h, _ => by simp at h
  | e :: es, k :: ks, i, h, hs => by
    simp only [List.map_cons, List.cons.injEq] at h
    unfold Instr.findNow
    rw [h.1]
    simp only [Instr.sameNow, hs k List.mem_cons_self]
    exact findNow_none h.2 fun k hk => hs k (List.mem_cons_of_mem _ hk)

theorem run_getObjM {P : Program} {w : World} {r : Nat} {es : Array MapEntry} {c : Nat} (h : w.heap[r]? = some (.map es c)) : (getObj r).run P w = .ok (.map es c) w := by
  simp [getObj, Sem.run, h]
theorem run_setObjM {P : Program} {w : World} {r : Nat} {es : Array MapEntry} {c : Nat} (h : w.heap[r]? = some (.map es c)) (o : Obj) : (setObj r o).run P w = .ok () (World.setBlk w r o) := by
  simp [setObj, Sem.run, h, World.setBlk]
theorem run_checkKey {P : Program} {b : Bool} {n kt : Nat} {s : ByteArray} {w : World} (h : P.underlying kt = some .string) : (Instr.checkKey b (n + 1) kt (.string s)).run P w = .ok () w := by
  simp [Instr.checkKey, run_underlying h]
theorem run_findKeyS {P : Program} {kt : Nat} {s : ByteArray} {es : List MapEntry} {w : World} (h : P.underlying kt = some .string) (hf : Instr.findNow .string (.string s) es 0 = some none) : (Instr.findKey kt (.string s) es).run P w = .ok none w := by
  simp [Instr.findKey, run_underlying h, hf]

section
variable {P : Program} {f : Fm} {w : World}
variable {dst : Option Nat} {ty : TypeId} {pos : String} {aft : Array Edge} {g : Option (Nat × Bool)}

theorem R_lookupN {t kt et : Nat} {z : Value} [hm : MapT P t kt et z] {x y : Operand} {s : ByteArray} (hx : ev f x = .map none) (hy : ev f y = .string s) :
    (execOp (ev f) ⟨dst, .lookup t x y false, ty, pos, aft, g⟩).run P w = .ok (.value z) w := by
  have hz := run_zero (w := w) hm.hz
  simp only [execOp, hx, hy]
  have hck := fun b => run_checkKey (P := P) (b := b) (n := 9999) (s := s) (w := w) hm.hk
  have hfk := run_findKeyS (P := P) (w := w) (s := s) (es := []) hm.hk rfl
  simp only [Nat.reduceAdd] at hck
  simp [Instr.lookup, run_underlying hm.h, hck, hfk, hz]

theorem R_lookupA {t kt et : Nat} {z : Value} [hm : MapT P t kt et z] {x y : Operand} {s : ByteArray} {r : Nat} {ks : List ByteArray} (hx : ev f x = .map (some r)) (hy : ev f y = .string s) (hr : MapIs w r ks) (hs : ∀ k ∈ ks, (s == k) = false) :
    (execOp (ev f) ⟨dst, .lookup t x y false, ty, pos, aft, g⟩).run P w = .ok (.value z) w := by
  obtain ⟨es, clock, h1, h2⟩ := hr
  have hz := run_zero (w := w) hm.hz
  have hf := findNow_none (i := 0) h2 hs
  have hfk := run_findKeyS (P := P) (w := w) hm.hk hf
  have hck := fun b => run_checkKey (P := P) (b := b) (n := 9999) (s := s) (w := w) hm.hk
  simp only [Nat.reduceAdd] at hck
  simp only [execOp, hx, hy]
  simp [Instr.lookup, run_underlying hm.h, hck, hfk, hz, run_getObjM h1]

theorem R_makeMap {t : Nat} : (execOp (ev f) ⟨dst, .makeMap t none, ty, pos, aft, g⟩).run P w = .ok (.value (.map (some w.heap.size))) (w.alloc (.map #[] 0)) := by
  simp only [execOp]
  rfl

theorem R_mapUpdate {t kt et : Nat} {z : Value} [hm : MapT P t kt et z] {x y v : Operand} {s : ByteArray} {r : Nat} {ks : List ByteArray} (hx : ev f x = .map (some r)) (hy : ev f y = .string s) (hr : MapIs w r ks) (hs : ∀ k ∈ ks, (s == k) = false) :
    ∃ w', (execOp (ev f) ⟨dst, .mapUpdate t x y v, ty, pos, aft, g⟩).run P w = .ok .skip w' ∧ MapIs w' r (ks ++ [s]) ∧ Ext (fun b => b = r) w w' ∧ w'.heap.size = w.heap.size := by
  obtain ⟨es, clock, h1, h2⟩ := hr
  have hf := findNow_none (i := 0) h2 hs
  have hfk := run_findKeyS (P := P) (w := w) hm.hk hf
  have hck := fun b => run_checkKey (P := P) (b := b) (n := 9999) (s := s) (w := w) hm.hk
  simp only [Nat.reduceAdd] at hck
  have hlt := lt_of_heap h1
  refine ⟨World.setBlk w r (.map (es.push { key := .string s, val := ev f v, born := clock }) (clock + 1)), ?_, ⟨_, _, heap_setBlk hlt, ?_⟩, Ext.setBlk w r _ rfl, by simp [World.setBlk]⟩
  · simp only [execOp, hx, hy]
    simp [Instr.mapUpdate, run_underlying hm.h, hck, hfk, run_getObjM h1, run_setObjM h1]
  · simp [h2]

theorem L_mapUpdate {n : Nat} {ops rest : List Oper} {K : LK} {ds : List Deferred} {t kt et : Nat} {z : Value} [hm : MapT P t kt et z] {x y v : Operand} {s : ByteArray} {r : Nat} {ks : List ByteArray} (hx : ev f x = .map (some r)) (hy : ev f y = .string s) (hr : MapIs w r ks) (hs : ∀ k ∈ ks, (s == k) = false)
    (hw : wantd ops f ⟨none, .mapUpdate t x y v, ty, pos, aft, g⟩ = true) (h : ∀ w', MapIs w' r (ks ++ [s]) → Ext (fun b => b = r) w w' → w'.heap.size = w.heap.size → L P n ops K rest f ds w') : L P n ops K (⟨none, .mapUpdate t x y v, ty, pos, aft, g⟩ :: rest) f ds w := by
  obtain ⟨w', h1, h2, h3, h4⟩ := R_mapUpdate (P := P) (dst := none) (ty := ty) (pos := pos) (aft := aft) (g := g) (t := t) (v := v) hx hy hr hs
  exact L_skip h1 hw rfl (h w' h2 h3 h4)

theorem R_eqSlN {xt yt : TypeId} {x y : Operand} {p : Option Addr} {n c : Nat} [hs : SliceE P xt] (hx : ev f x = .slice p n c) (hy : ev f y = .slice none 0 0) :
    (execOp (ev f) ⟨dst, .binOp .eql xt x y yt, ty, pos, aft, g⟩).run P w = .ok (.value (.bool p.isNone)) w := by
  have h := hs.h
  cases hu : P.underlying xt with
  | none => rw [hu] at h; cases h
  | some d =>
    rw [hu] at h
    cases d <;> simp at h
    exact R_eqG hx hy (eqGuard_at_slice ..) rfl fun d => by cases p <;> simp [Op.equalIn, run_underlying hu]
theorem R_eqMpN {xt yt : TypeId} {x y : Operand} {p : Option Nat} [hs : MapE P xt] (hx : ev f x = .map p) (hy : ev f y = .map none) :
    (execOp (ev f) ⟨dst, .binOp .eql xt x y yt, ty, pos, aft, g⟩).run P w = .ok (.value (.bool p.isNone)) w := by
  have h := hs.h
  cases hu : P.underlying xt with
  | none => rw [hu] at h; cases h
  | some d =>
    rw [hu] at h
    cases d <;> simp at h
    exact R_eqG hx hy (eqGuard_at_map ..) rfl fun d => by cases p <;> simp [Op.equalIn, run_underlying hu]
end
end Go.Proofs.YtjilnjifegeceaaGreatDoor

/-
  The walk's own rules for a range over a function: the statement, the call of yield, and the code of a round in its own frame.
-/
namespace Go.Proofs.YtjilnjifegeceaaGreatDoor

/-! ### code in a round's frame -/

abbrev FR (l : Nat) : Fence := Fence.wide.inRound l

def WCR (P : Program) (l n : Nat) (c : Code) (Q : Post) (f : Fm) (ds : List Deferred) (w : World) : Prop :=
  ∀ a, Rp n f ds a → c.wpIn (FR l) 0 P (lift n Q) a w

def HR (P : Program) (l n : Nat) : List It → Post → Post
  | [], Q, e => Q e
  | .code c :: k, Q, .normal => WCR P l n c (HR P l n k Q)
  | .code _ :: k, Q, e => HR P l n k Q e
  | .blk id :: k, Q, .exit id' => if id' = id then HR P l n k Q .normal else HR P l n k Q (.exit id')
  | .blk _ :: k, Q, e => HR P l n k Q e
  | .inv J :: _, _, .normal => J
  | .inv _ :: k, Q, e => HR P l n k Q e

def GR (P : Program) (l n : Nat) (k : List It) (Q : Post) (f : Fm) (ds : List Deferred) (w : World) : Prop := HR P l n k Q .normal f ds w

section
variable {P : Program} {l n : Nat} {k : List It} {Q : Post} {f : Fm} {ds : List Deferred} {w : World}

theorem HR_ret : ∀ (k : List It), HR P l n k Q .ret = Q .ret
  | [] => rfl
  | .code _ :: k => HR_ret k
  | .blk _ :: k => HR_ret k
  | .inv _ :: k => HR_ret k

theorem GR_nil (h : Q .normal f ds w) : GR P l n [] Q f ds w := h

theorem GR_seq {x y : Code} (h : GR P l n (.code x :: .code y :: k) Q f ds w) : GR P l n (.code (.seq x y) :: k) Q f ds w := by
  intro a ha
  refine wpIn_seq (Go.wpIn_mono (h a ha) ?_)
  rintro e a w ⟨f', ds', hr, hq⟩
  cases e with
  | normal => exact hq a hr
  | exit id => exact ⟨f', ds', hr, hq⟩
  | goto l => exact ⟨f', ds', hr, hq⟩
  | ret => exact ⟨f', ds', hr, hq⟩
  | panic ch => exact ⟨f', ds', hr, hq⟩
  | outgrown => exact ⟨f', ds', hr, hq⟩

theorem GR_block {id : Nat} {c : Code} (h : GR P l n (.code c :: .blk id :: k) Q f ds w) : GR P l n (.code (.block id c) :: k) Q f ds w := by
  intro a ha
  refine wpIn_block (Go.wpIn_mono (h a ha) ?_)
  rintro e a w ⟨f', ds', hr, hq⟩
  cases e with
  | normal => exact ⟨f', ds', hr, hq⟩
  | exit id' =>
    simp only [Exit.inBlock]
    simp only [HR] at hq
    split
    · rename_i he; rw [if_pos he] at hq; exact ⟨f', ds', hr, hq⟩
    · rename_i he; rw [if_neg he] at hq; exact ⟨f', ds', hr, hq⟩
  | goto l => exact ⟨f', ds', hr, hq⟩
  | ret => exact ⟨f', ds', hr, hq⟩
  | panic ch => exact ⟨f', ds', hr, hq⟩
  | outgrown => exact ⟨f', ds', hr, hq⟩

theorem GR_end {id : Nat} (h : GR P l n k Q f ds w) : GR P l n (.blk id :: k) Q f ds w := h

theorem GR_skip (h : GR P l n k Q f ds w) : GR P l n (.code .skip :: k) Q f ds w :=
  fun _ ha => wpIn_skip ⟨f, ds, ha, h⟩

theorem HR_exit {id : Nat} {k' : List It} : ∀ {k : List It}, popTo id k = some k' → HR P l n k Q (.exit id) f ds w = GR P l n k' Q f ds w
  | [], h => by simp [popTo] at h
  | .code _ :: k, h => HR_exit (k := k) h
  | .inv _ :: k, h => HR_exit (k := k) h
  | .blk id' :: k, h => by
    unfold popTo at h
    simp only [HR]
    by_cases hid : id = id'
    · subst hid
      simp at h
      subst h
      rw [if_pos rfl]; rfl
    · have hb : Nat.beq id id' = false := by
        cases hb : Nat.beq id id' with
        | false => rfl
        | true => exact absurd (Nat.eq_of_beq_eq_true hb) hid
      rw [hb] at h
      rw [if_neg hid]
      exact HR_exit (k := k) h

theorem GR_exit {id : Nat} {k' : List It} (hk : popTo id k = some k') (h : GR P l n k' Q f ds w) : GR P l n (.code (.exit id) :: k) Q f ds w :=
  fun _ ha => wpIn_exit ⟨f, ds, ha, by rw [HR_exit hk]; exact h⟩

theorem GR_true {c : Operand} {x y : Code} (hc : ev f c = .bool true) (h : GR P l n (.code x :: k) Q f ds w) : GR P l n (.code (.cond c x y) :: k) Q f ds w :=
  fun a ha => wpIn_cond_true (by rw [ha.eval]; exact hc) (h a ha)
theorem GR_false {c : Operand} {x y : Code} (hc : ev f c = .bool false) (h : GR P l n (.code y :: k) Q f ds w) : GR P l n (.code (.cond c x y) :: k) Q f ds w :=
  fun a ha => wpIn_cond_false (by rw [ha.eval]; exact hc) (h a ha)

theorem GR_region {id : Nat} {ops : List Oper} (hd : ops.all notDefer = true) (h : L P n ops (GR P l n k Q) ops f ds w) : GR P l n (.code (.region id ops.toArray false) :: k) Q f ds w := by
  intro a ha
  refine wpIn_region_lit ?_
  unfold L at h
  exact listIn_mono (ro := some l) (fun a w ⟨_, f, ds, hr, hq⟩ => ⟨f, ds, hr, hq⟩) ops a w (.inr hd) (h a ha)
end
attribute [irreducible] GR

/-! ### the call of yield -/

/-- the frame of a round: the loop's temporaries, yield's arguments in the parameters -/
def roundFm (f : Fm) : List Nat → List Value → Fm
  | p :: ps, v :: vs => roundFm (upd f p v) ps vs
  | _, _ => f

theorem rp_round {n : Nat} {ds : List Deferred} : ∀ (ps : List Nat) (vs : List Value) (f : Fm) (t : Array Value), (ps.all fun p => Nat.blt p n) = true → Rp n f ds { tmps := t, defers := ds } →
    Rp n (roundFm f ps vs) ds { tmps := (ps.zip vs).foldl (fun t (p, a) => t.setIfInBounds p a) t, defers := ds }
  | [], vs, f, t, _, h => by simpa [roundFm] using h
  | p :: ps, [], f, t, _, h => by simpa [roundFm] using h
  | p :: ps, v :: vs, f, t, hp, h => by
    simp only [List.all_cons, Bool.and_eq_true] at hp
    have h1 := h.put hp.1 v
    exact rp_round ps vs (upd f p v) _ hp.2 h1

/-- the record of a loop, entered -/
def loopRec (fn : FuncId) (tm : Array Value) (ps : List Nat) (asg body : Code) (D : Nat) (st : LoopState) (pend : Option Code) : Loop :=
  { state := st, pending := pend, fn := fn, tmps := tm, params := ps.toArray, assign := asg, body := body, defers := D }

theorem Ext.putObj {w : World} {b : Nat} (o : Obj) : Ext (fun k => k = b) w (w.putObj b o) :=
  ⟨rfl, rfl, rfl, by simp, fun k _ hn => World.putObj_heap_other hn⟩

/-- one call of yield: the round's code goes through and ends behind its last statement; what is asked of the world there -/
theorem round_of {P : Program} {l n : Nat} {fn : FuncId} {tm : Array Value} {ps : List Nat} {asg body : Code} {D : Nat} {f : Fm} {vs : List Value} {w : World} {R : World → Prop}
    (hp : (ps.all fun p => Nat.blt p n) = true) (hr : Rp n f [] { tmps := tm, defers := [] })
    (h : GR P l n [.code asg] (fun e f1 ds1 w1 => e = .normal ∧ w1.heap[l]? = some (.loop (loopRec fn tm ps asg body D .ready none)) ∧
      ∀ w2 o, w2.heap[l]? = some o → Ext (fun k => k = l) w1 w2 →
        GR P l n [.code body] (fun e2 _ _ w3 => e2 = .normal ∧ w3.heap[l]? = some o ∧ ∀ w4, w4.heap[l]? = w1.heap[l]? → Ext (fun k => k = l) w3 w4 → R w4) f1 ds1 w2) (roundFm f ps vs) [] w) :
    RoundIn Fence.wide 0 P l fn ((ps.zip vs).foldl (fun t (p, a) => t.setIfInBounds p a) tm) asg body w (fun e w' => e = .returned (.bool true) ∧ R w') := by
  refine roundIn_of_wpIn (F := Fence.wide) trivial ?_
  unfold GR at h
  have h1 := h _ (rp_round (ds := []) ps vs f tm hp hr)
  refine Go.wpIn_mono h1 ?_
  rintro e a1 w1 ⟨f1, ds1, hr1, hh⟩
  simp only [HR] at hh
  obtain ⟨rfl, hl1, h2⟩ := hh
  refine ⟨_, run_beginRound hl1 rfl, ?_⟩
  have hput := World.putObj_heap_same (o := .loop (loopRec fn tm ps asg body D .busy none)) (lt_of_heap hl1)
  have h3 := h2 (w1.putObj l (.loop (loopRec fn tm ps asg body D .busy none))) _ hput (Ext.putObj _)
  unfold GR at h3
  refine Go.wpIn_mono (h3 a1 hr1) ?_
  rintro e a2 w3 ⟨f2, ds2, hr2, hh⟩
  obtain ⟨rfl, hl3, h4⟩ := hh
  refine ⟨_, _, run_endRound none hl3, rfl, h4 _ ?_ (Ext.putObj _)⟩
  rw [hl1]
  exact World.putObj_heap_same (lt_of_heap hl3)

section
variable {P : Program} {n : Nat} {ops rest : List Oper} {K : LK} {f : Fm} {ds : List Deferred} {w w' : World}
variable {dst : Option Nat} {ty : TypeId} {pos : String} {aft : Array Edge} {g : Option (Nat × Bool)}

theorem R_yield {x : Operand} {xs : List Operand} {ts : Array TypeId} {l : Nat} {fn : FuncId} {tm : Array Value} {ps : List Nat} {asg body : Code} {D : Nat} (hx : ev f x = .func (.yield l) #[] #[]) (hl : w.heap[l]? = some (.loop (loopRec fn tm ps asg body D .ready none))) (hs : xs.length = ps.length) :
    (execOp (ev f) ⟨dst, .call ⟨.value x, xs.toArray, ts⟩, ty, pos, aft, g⟩).run P w = .ok (.round l fn ((ps.zip (xs.map (ev f))).foldl (fun t (p, a) => t.setIfInBounds p a) tm) asg body) w := by
  have hy := run_yield (P := P) (args := (xs.map (ev f)).toArray) hl (by simpa [loopRec] using hs)
  simp only [execOp, resolve, hx, Deferred.ofValue, Sem.run_bind, Sem.run_pure, Result.andThen_ok, invoke]
  simp [loopRec] at hy
  simpa using hy

theorem L_yield {d : Nat} {x : Operand} {xs : List Operand} {ts : Array TypeId} {l : Nat} {fn : FuncId} {tm : Array Value} {ps : List Nat} {asg body : Code} {D : Nat} {R : World → Prop} (hx : ev f x = .func (.yield l) #[] #[]) (hl : w.heap[l]? = some (.loop (loopRec fn tm ps asg body D .ready none))) (hs : xs.length = ps.length)
    (hc : RoundIn Fence.wide 0 P l fn ((ps.zip (xs.map (ev f))).foldl (fun t (p, a) => t.setIfInBounds p a) tm) asg body w (fun e w' => e = .returned (.bool true) ∧ R w'))
    (hw : wantd ops f ⟨some d, .call ⟨.value x, xs.toArray, ts⟩, ty, pos, aft, g⟩ = true) (hn : Nat.blt d n = true)
    (h : ∀ w', R w' → L P n ops K rest (upd f d (.bool true)) ds w') : L P n ops K (⟨some d, .call ⟨.value x, xs.toArray, ts⟩, ty, pos, aft, g⟩ :: rest) f ds w :=
  L_stepI hw fun a ha => by
    refine ⟨fun _ _ => trivial, ?_⟩
    have e : (Oper.semAt (Fence.wide).round a.eval ⟨some d, .call ⟨.value x, xs.toArray, ts⟩, ty, pos, aft, g⟩) = execOp (ev f) ⟨some d, .call ⟨.value x, xs.toArray, ts⟩, ty, pos, aft, g⟩ := by rw [ha.eval]; rfl
    rw [e, R_yield hx hl hs, Oper.uponIn_round]
    refine ⟨fun hh => by simp [Fence.wide] at hh, hc.mono fun e w1 ⟨he, hR⟩ => ?_⟩
    subst he
    have := h w1 hR
    unfold L at this
    exact this _ (ha.put hn _)

/-- a function value with what it has captured -/
theorem R_makeFunc {gf : Nat} {xs : List Operand} : (execOp (ev f) ⟨dst, .makeFunc (.func gf) #[] xs.toArray, ty, pos, aft, g⟩).run P w = .ok (.value (.func (.func gf) #[] (xs.map (ev f)).toArray)) w := by
  simp [execOp, Instr.makeFunc]
end

/-! ### the statement -/
section
variable {P : Program} {n : Nat} {k : List It} {Q : Post} {f : Fm} {ds : List Deferred} {w : World}

theorem G_range {x : Operand} {ps : List Nat} {asg body : Code} {gf : Nat} {lb : List Value} [hct : CallT P gf] (hg : ev f x = .func (.func gf) #[] lb.toArray)
    (h : ∀ fn tm, Rp n f [] { tmps := tm, defers := [] } → ∀ w1, w1 = (w.alloc (.deferred (some []))).alloc (.loop (loopRec fn tm ps asg body w.heap.size .ready none)) →
      Calls P gf (.func (.yield (w.heap.size + 1)) #[] #[] :: lb).toArray w1 (fun e w3 => (∃ v, e = .returned v) ∧ w3.heap[w.heap.size + 1]? = some (.loop (loopRec fn tm ps asg body w.heap.size .ready none)) ∧
        ∀ w4, Ext (fun k => k = w.heap.size + 1) w3 w4 → G P n k Q f ({ target := .collected w.heap.size, args := #[] } :: ds) w4)) :
    G P n (.code (.rangeFunc x ps.toArray asg body) :: k) Q f ds w := by
  refine G_code fun a ha => ?_
  refine (wpIn_wide (n := 0)).1 (wpIn_rangeFunc fun fn _ => ?_)
  have hrp : Rp n f [] { tmps := a.tmps, defers := [] } := ⟨ha.size, ha.get, rfl⟩
  obtain ⟨W, hW⟩ : ∃ W, (w.alloc (.deferred (some []))).alloc (.loop (loopRec fn a.tmps ps asg body w.heap.size .ready none)) = W := ⟨_, rfl⟩
  have henter := run_enterLoop_outer (P := P) (w := w) fn a.tmps ps.toArray asg body
  have hc := h fn a.tmps hrp _ hW.symm
  refine ⟨w.heap.size + 1, [{ target := .collected w.heap.size, args := #[] }], W, { target := .fn (.func gf) lb.toArray, args := #[.func (.yield (w.heap.size + 1)) #[] #[]] }, W, gf, (.func (.yield (w.heap.size + 1)) #[] #[] :: lb).toArray, W,
    henter.trans (by rw [← hW]; rfl), ?_, fun _ _ => trivial, ?_, (fun hh => absurd hh (by simp [Fence.wide])), (callsIn_wide.2 hc).mono ?_⟩
  · simp only [resolve, ha.eval, hg, Deferred.ofValue]
    simp [ev]
  · simp only [invoke]
    have := hct.h (#[.func (.yield (w.heap.size + 1)) #[] #[]] ++ lb.toArray)
    simp at this
    simp [this]
  · rintro e w3 ⟨⟨v, rfl⟩, hl, hG⟩
    refine ⟨none, _, run_endLoop hl (by simp [loopRec]), ?_⟩
    refine ⟨f, _, ⟨ha.size, ha.get, ?_⟩, by rw [← G_def]; exact hG _ (Ext.putObj _)⟩
    simp [ha.defers]

/-- a function that leaves with marks of such loops among its deferred calls -/
def QM (P : Program) (fn : Func) (R : Ending → World → Prop) : Post
  | .normal, f, ds, w | .ret, f, ds, w => ∀ tmps : Array Value, (∀ t, tmps.getD t undef = f t) → LeavesInM Fence.wide 0 P fn tmps R ds .returning w
  | _, _, _, _ => False

theorem calls_enter_m {g : FuncId} {fn : Func} {c : Code} {args : List Value} {R : Ending → World → Prop}
    (hf : P.funcs[g]? = some fn) (hn : fn.ntmps = n) (hb : fn.body = some c) (hs : Nat.ble args.length n = true)
    (h : G P n [.code c] (QM P fn R) (argF args) [] w) : Calls P g args.toArray w R := by
  refine (callsIn_wide (n := 0)).1 (callsIn_of_wp_marks hf hb trivial ?_)
  rw [hn]
  rw [G_def] at h
  simp only [H] at h
  unfold WC at h
  refine (wpIn_wide (n := 0)).2 (wp_mono (h _ (rp_enter args n hs)) ?_)
  rintro e a w' ⟨f, ds, hr, hq⟩
  cases e <;> simp only [QM] at hq
  · show LeavesInM _ _ _ _ _ _ _ _ _
    rw [hr.defers]; exact hq _ hr.get
  · show LeavesInM _ _ _ _ _ _ _ _ _
    rw [hr.defers]; exact hq _ hr.get

theorem G_retM {fn : Func} {R : Ending → World → Prop} {t : Tmp} (hr : fn.results = #[.tmp t]) (h : R (.returned (f t)) w) : G P n (.code .ret :: k) (QM P fn R) f [] w :=
  G_ret fun tmps ht => ⟨_, ResV.tmp hr f w tmps ht, h⟩
theorem G_retM1 {fn : Func} {R : Ending → World → Prop} {t D : Nat} (hr : fn.results = #[.tmp t]) (hK : w.heap[D]? = some (.deferred (some []))) (h : R (.returned (f t)) (w.putObj D (.deferred none))) :
    G P n (.code .ret :: k) (QM P fn R) f [{ target := .collected D, args := #[] }] w :=
  G_ret fun tmps ht => ⟨by simp, .inl ⟨D, _, rfl, run_takeDeferred hK, _, ResV.tmp hr f _ tmps ht, h⟩⟩
end

/-- an append onto a slice of one's own, where the order is drawn -/
theorem X_push {P : Program} {M : Nat → Prop} {ops : List Oper} {K : DK} {rest : DT} {f : Fm} {wb : World} {ty : TypeId} {pos : String} {aft : Array Edge} {g : Option (Nat × Bool)} {d t e by_ : Nat} {x y : Operand} [ha : AppT P t e by_] {v : Value} {xs : List Value} {b c : Nat} {u : Value} {T : TypeId}
    (hv : ev f x = v) (hown : ∀ w, Ext No wb w → OwnS w e v xs) (hy : ev f y = .slice (some ⟨b, 0, none⟩) 1 c) (hb : ∀ w, Ext No wb w → w.heap[b]? = some (Ob [u] T)) (h1 : u.oneCell' = true)
    (hbd : (xs.length + 1) * by_ ≤ 140737488355328) (hl : xs.length + 1 ≤ maxLen) (hw : wantd ops f ⟨some d, .call ⟨.builtin .append, #[x, y], #[t, t]⟩, ty, pos, aft, g⟩ = true)
    (h : ∀ w v' w', Ext No wb w → Pushed w w' e v v' (xs ++ [u]) → X P M ops K rest (upd f d v') w') : X P M ops K (.op ⟨some d, .call ⟨.builtin .append, #[x, y], #[t, t]⟩, ty, pos, aft, g⟩ 2 rest) f wb :=
  X_wild hw rfl fun w he => by
    obtain ⟨v', w', h2, h3⟩ := R_push (P := P) (dst := some d) (ty := ty) (pos := pos) (aft := aft) (g := g) (t := t) hv (hown w he) hy (hb w he) h1 hbd hl
    exact ⟨v', w', h2, h w v' w' he h3⟩
end Go.Proofs.YtjilnjifegeceaaGreatDoor

/-
  The walk's own rules, eleventh part: maps with pointers as keys; rows of several cells an element.
-/
namespace Go.Proofs.YtjilnjifegeceaaGreatDoor

class MapP (P : Program) (t : Nat) (kt et : outParam Nat) (z : outParam Value) : Prop where
  h : P.underlying t = some (.map kt et)
  hk : ∃ e, P.underlying kt = some (.pointer e)
  hz : (P.info? et).map (·.zero) = some (some z)

/-- no stamp twice, none of the future -/
def Stamps (es : Array MapEntry) (clock : Nat) : Prop := (∀ e ∈ es.toList, e.born < clock) ∧ (es.toList.map (·.born)).Nodup

/-- a map with these keys (blocks' first cells) and values -/
def MapPt (w : World) (r : Nat) (kvs : List (Nat × Value)) : Prop := ∃ (es : Array MapEntry) (clock : Nat), w.heap[r]? = some (.map es clock) ∧ es.toList.map (fun e => (e.key, e.val)) = kvs.map (fun kv => (ptr kv.1, kv.2)) ∧ Stamps es clock

def lookI : List (Nat × Value) → Nat → Nat → Option (Nat × Value)
  | [], _, _ => none
  | (k', v) :: r, k, i => if k = k' then some (i, v) else lookI r k (i + 1)

theorem lookI_none {kvs : List (Nat × Value)} {k i : Nat} (h : ∀ kv ∈ kvs, kv.1 ≠ k) : lookI kvs k i = none := by
  induction kvs generalizing i with
  | nil => rfl
  | cons a l ih =>
    unfold lookI
    rw [if_neg (fun e => h a List.mem_cons_self e.symm)]
    exact ih fun kv hkv => h kv (List.mem_cons_of_mem _ hkv)
theorem lookI_some {kvs : List (Nat × Value)} : ∀ {k i j : Nat} {v : Value}, (kvs.map (·.1)).Nodup → kvs[j]? = some (k, v) → lookI kvs k i = some (i + j, v) := by
  induction kvs with
  | nil => intro k i j v _ h; simp at h
  | cons a l ih =>
    intro k i j v hn h
    unfold lookI
    cases j with
    | zero =>
      simp only [List.getElem?_cons_zero, Option.some.injEq] at h
      subst h
      simp
    | succ j =>
      have h' : l[j]? = some (k, v) := by simpa using h
      have hn' : a.1 ∉ l.map (·.1) ∧ (l.map (·.1)).Nodup := by simpa using hn
      have hne : k ≠ a.1 := fun e => hn'.1 (List.mem_map.2 ⟨(k, v), List.mem_of_getElem? h', e⟩)
      rw [if_neg hne, ih hn'.2 h']
      congr 2
      omega

theorem run_findAsking {P : Program} {kt : Nat} [PtrEq P kt] {w : World} {k : Nat} (hk : PLive w (some ⟨k, 0, none⟩)) : ∀ {es : List MapEntry} {kvs : List (Nat × Value)} {i : Nat}, es.map (fun e => (e.key, e.val)) = kvs.map (fun kv => (ptr kv.1, kv.2)) → (∀ kv ∈ kvs, PLive w (some ⟨kv.1, 0, none⟩)) →
    (Instr.findAsking kt (ptr k) es i).run P w = .ok (lookI kvs k i) w
  | [], [], i, _, _ => by simp [Instr.findAsking, lookI]
  | [], _ :: _, i, h, _ => by simp at h
  | _ :: _, [], i, h, _ => by simp at h
  | e :: es, (k', v') :: kvs, i, h, hl => by
    simp only [List.map_cons, List.cons.injEq, Prod.mk.injEq] at h
    obtain ⟨⟨h1, h2⟩, h3⟩ := h
    have heq : (Op.equal kt (ptr k) e.key).run P w = .ok (peq (some ⟨k, 0, none⟩) (some ⟨k', 0, none⟩)) w := by
      rw [h1]
      exact run_equalIn_ptr (d := 9999) hk (hl _ List.mem_cons_self)
    unfold Instr.findAsking
    simp only [Sem.run_bind, heq, Result.andThen_ok]
    by_cases hkk : k = k'
    · subst hkk
      have e1 : peq (some ⟨k, 0, none⟩) (some ⟨k, 0, none⟩) = true := by simp [peq]
      rw [e1]
      simp [lookI, h2]
    · have e1 : peq (some ⟨k, 0, none⟩) (some ⟨k', 0, none⟩) = false := by
        simp only [peq, decide_eq_false_iff_not, Addr.mk.injEq, and_true]
        exact hkk
      rw [e1]
      unfold lookI
      rw [if_neg hkk]
      simp only [Bool.false_eq_true, if_false]
      exact run_findAsking hk h3 fun kv hkv => hl kv (List.mem_cons_of_mem _ hkv)

theorem run_findKeyP {P : Program} {kt : Nat} [PtrEq P kt] (hp : ∃ e, P.underlying kt = some (.pointer e)) {w : World} {k : Nat} (hk : PLive w (some ⟨k, 0, none⟩)) {es : List MapEntry} {kvs : List (Nat × Value)} (h : es.map (fun e => (e.key, e.val)) = kvs.map (fun kv => (ptr kv.1, kv.2))) (hl : ∀ kv ∈ kvs, PLive w (some ⟨kv.1, 0, none⟩)) :
    (Instr.findKey kt (ptr k) es).run P w = .ok (lookI kvs k 0) w := by
  obtain ⟨e, he⟩ := hp
  have hf := run_findAsking (P := P) (kt := kt) (i := 0) hk h hl
  unfold Instr.findKey
  simp only [Sem.run_bind, run_underlying he, Result.andThen_ok]
  cases es with
  | nil =>
    cases kvs with
    | nil => simp [Instr.findNow, lookI]
    | cons a l => simp at h
  | cons a l =>
    simp only [Instr.findNow, Instr.sameNow]
    exact hf

theorem run_checkKeyP {P : Program} {b : Bool} {n kt : Nat} {a : Option Addr} {w : World} (hp : ∃ e, P.underlying kt = some (.pointer e)) : (Instr.checkKey b (n + 1) kt (.pointer a)).run P w = .ok () w := by
  obtain ⟨e, he⟩ := hp
  simp [Instr.checkKey, run_underlying he]

section
variable {P : Program} {f : Fm} {w : World}
variable {dst : Option Nat} {ty : TypeId} {pos : String} {aft : Array Edge} {g : Option (Nat × Bool)}

theorem R_lookupP {t kt et : Nat} {z : Value} [hm : MapP P t kt et z] [PtrEq P kt] {x y : Operand} {k r : Nat} {kvs : List (Nat × Value)} (hx : ev f x = .map (some r)) (hy : ev f y = ptr k) (hr : MapPt w r kvs) (hk : PLive w (some ⟨k, 0, none⟩)) (hl : ∀ kv ∈ kvs, PLive w (some ⟨kv.1, 0, none⟩)) :
    (execOp (ev f) ⟨dst, .lookup t x y false, ty, pos, aft, g⟩).run P w = .ok (.value (match lookI kvs k 0 with | some (_, v) => v | none => z)) w := by
  obtain ⟨es, clock, h1, h2, -⟩ := hr
  have hz := run_zero (w := w) hm.hz
  have hfk := run_findKeyP (P := P) (kt := kt) hm.hk hk h2 hl
  have hck := fun b => run_checkKeyP (P := P) (b := b) (n := 9999) (a := some ⟨k, 0, none⟩) (w := w) hm.hk
  simp only [Nat.reduceAdd] at hck
  simp only [execOp, hx, hy]
  cases hL : lookI kvs k 0 with
  | none => rw [hL] at hfk; simp [Instr.lookup, run_underlying hm.h, hck, hfk, hz, run_getObjM h1]
  | some iv => rw [hL] at hfk; obtain ⟨i, v⟩ := iv; simp [Instr.lookup, run_underlying hm.h, hck, hfk, run_getObjM h1]

theorem R_lookupPok {t kt et : Nat} {z : Value} [hm : MapP P t kt et z] [PtrEq P kt] {x y : Operand} {k r : Nat} {kvs : List (Nat × Value)} (hx : ev f x = .map (some r)) (hy : ev f y = ptr k) (hr : MapPt w r kvs) (hk : PLive w (some ⟨k, 0, none⟩)) (hl : ∀ kv ∈ kvs, PLive w (some ⟨kv.1, 0, none⟩)) :
    (execOp (ev f) ⟨dst, .lookup t x y true, ty, pos, aft, g⟩).run P w = .ok (.value (match lookI kvs k 0 with | some (_, v) => .tuple #[v, .bool true] | none => .tuple #[z, .bool false])) w := by
  obtain ⟨es, clock, h1, h2, -⟩ := hr
  have hz := run_zero (w := w) hm.hz
  have hfk := run_findKeyP (P := P) (kt := kt) hm.hk hk h2 hl
  have hck := fun b => run_checkKeyP (P := P) (b := b) (n := 9999) (a := some ⟨k, 0, none⟩) (w := w) hm.hk
  simp only [Nat.reduceAdd] at hck
  simp only [execOp, hx, hy]
  cases hL : lookI kvs k 0 with
  | none => rw [hL] at hfk; simp [Instr.lookup, run_underlying hm.h, hck, hfk, hz, run_getObjM h1]
  | some iv => rw [hL] at hfk; obtain ⟨i, v⟩ := iv; simp [Instr.lookup, run_underlying hm.h, hck, hfk, run_getObjM h1]

theorem R_mapUpdateP {t kt et : Nat} {z : Value} [hm : MapP P t kt et z] [PtrEq P kt] {x y v : Operand} {k r : Nat} {kvs : List (Nat × Value)} (hx : ev f x = .map (some r)) (hy : ev f y = ptr k) (hr : MapPt w r kvs) (hk : PLive w (some ⟨k, 0, none⟩)) (hl : ∀ kv ∈ kvs, PLive w (some ⟨kv.1, 0, none⟩)) (hn : ∀ kv ∈ kvs, kv.1 ≠ k) :
    ∃ w', (execOp (ev f) ⟨dst, .mapUpdate t x y v, ty, pos, aft, g⟩).run P w = .ok .skip w' ∧ MapPt w' r (kvs ++ [(k, ev f v)]) ∧ Ext (fun b => b = r) w w' ∧ w'.heap.size = w.heap.size := by
  obtain ⟨es, clock, h1, h2, h3, h4⟩ := hr
  have hfk := run_findKeyP (P := P) (kt := kt) hm.hk hk h2 hl
  rw [lookI_none hn] at hfk
  have hck := fun b => run_checkKeyP (P := P) (b := b) (n := 9999) (a := some ⟨k, 0, none⟩) (w := w) hm.hk
  simp only [Nat.reduceAdd] at hck
  have hlt := lt_of_heap h1
  refine ⟨World.setBlk w r (.map (es.push { key := ptr k, val := ev f v, born := clock }) (clock + 1)), ?_, ⟨_, _, heap_setBlk hlt, ?_, ?_, ?_⟩, Ext.setBlk w r _ rfl, by simp [World.setBlk]⟩
  · simp only [execOp, hx, hy]
    simp [Instr.mapUpdate, run_underlying hm.h, hck, hfk, run_getObjM h1, run_setObjM h1]
  · simp [h2]
  · intro e he
    simp only [Array.toList_push, List.mem_append, List.mem_singleton] at he
    rcases he with he | rfl
    · have := h3 e he; omega
    · exact Nat.lt_succ_self _
  · simp only [Array.toList_push, List.map_append, List.map_cons, List.map_nil]
    refine List.nodup_append.2 ⟨h4, by simp, ?_⟩
    rintro x hx1 y hy1 rfl
    simp only [List.mem_singleton] at hy1
    obtain ⟨e, he, hb⟩ := List.mem_map.1 hx1
    have := h3 e he
    omega

theorem R_makeMapH {t : Nat} {x : Operand} {kt et : Nat} (hu : P.underlying t = some (.map kt et)) {kd : IntKind} {n : Int} (hx : ev f x = .int kd n) : (execOp (ev f) ⟨dst, .makeMap t (some x), ty, pos, aft, g⟩).run P w = .ok (.value (.map (some w.heap.size))) (w.alloc (.map #[] 0)) := by
  simp only [execOp, Option.map_some, Instr.makeMap, hx]
  simp [run_underlying hu, asInt, asIntOf, Result.andThen]
end

theorem MapPt.ext {M : Nat → Prop} {w w' : World} {r : Nat} {kvs : List (Nat × Value)} (h : MapPt w r kvs) (he : Ext M w w') (hm : ¬ M r) : MapPt w' r kvs :=
  let ⟨es, c, h1, h2⟩ := h
  ⟨es, c, he.heap hm h1, h2⟩

/-! ### rows of one's own, several cells an element -/

class AppN (P : Program) (t : Nat) (e sz by_ : outParam Nat) : Prop where
  h : P.underlying t = some (.slice e)
  hi : (P.info? e).map (fun i => (i.zero.map (·.cells.size), i.size, i.bytes)) = some (some sz, sz, by_)

def OwnN (w : World) (e : TypeId) (sz : Nat) (v : Value) (n : Nat) (cs : List Value) : Prop :=
  (v = .slice none 0 0 ∧ n = 0 ∧ cs = []) ∨ ∃ g cap r, v = .slice (some ⟨g, 0, none⟩) n cap ∧ w.heap[g]? = some (Ob (cs ++ r) e) ∧ cs.length = n * sz ∧ (cs ++ r).length = cap * sz

theorem OwnN.ext {M : Nat → Prop} {w w' : World} {e : TypeId} {sz : Nat} {v : Value} {n : Nat} {cs : List Value} (h : OwnN w e sz v n cs) (he : Ext M w w') (hm : ∀ g, v.ownBlock = some g → ¬ M g) : OwnN w' e sz v n cs := by
  rcases h with ⟨rfl, h1, h2⟩ | ⟨g, cap, r, rfl, h2, h3, h4⟩
  · exact .inl ⟨rfl, h1, h2⟩
  · exact .inr ⟨g, cap, r, rfl, he.heap (hm g rfl) h2, h3, h4⟩
theorem OwnN.lt {w : World} {e : TypeId} {sz : Nat} {v : Value} {n : Nat} {cs : List Value} (h : OwnN w e sz v n cs) : ∀ g, v.ownBlock = some g → g < w.heap.size := by
  intro g hg
  rcases h with ⟨rfl, -, -⟩ | ⟨g', cap, r, rfl, h2, -, -⟩
  · cases hg
  · simp only [Value.ownBlock, Option.some.injEq] at hg
    subst hg
    exact lt_of_heap h2

structure PushedN (w w' : World) (e : TypeId) (sz : Nat) (v v' : Value) (n : Nat) (cs : List Value) : Prop where
  own : OwnN w' e sz v' n cs
  ext : Ext (fun k => some k = v.ownBlock) w w'
  blk : (v'.ownBlock = v.ownBlock) ∨ v'.ownBlock = some w.heap.size
  some_ : ∃ g len cap, v' = .slice (some ⟨g, 0, none⟩) len cap

theorem run_pushN {P : Program} {w : World} {ty : TypeId} {t e sz by_ : Nat} [ha : AppN P t e sz by_] {v : Value} {n : Nat} {xs : List Value} (hown : OwnN w e sz v n xs) {b c : Nat} {us : List Value} {T : TypeId} (hb : w.heap[b]? = some (Ob us T)) (hus : us.length = sz) (_ : 0 < sz) (h1 : us.all (·.oneCell') = true)
    (hbd : (n + 1) * by_ ≤ 140737488355328) (hl : n + 1 ≤ maxLen) :
    ∃ v' w', (Builtin.append_ #[t, t] ty #[v, .slice (some ⟨b, 0, none⟩) 1 c]).run P w = .ok v' w' ∧ PushedN w w' e sz v v' (n + 1) (xs ++ us) := by
  obtain ⟨i, hi, hh⟩ := Option.map_eq_some_iff.1 ha.hi
  simp only [Prod.mk.injEq] at hh
  obtain ⟨hz, hsz, hby⟩ := hh
  obtain ⟨z, hz, hzs⟩ := Option.map_eq_some_iff.1 hz
  have hl' : n + 1 ≤ 9223372036854775807 := by simp only [maxLen] at hl; omega
  have hnews : ∀ j x, us[j]? = some x → w.cell? ((⟨b, 0, none⟩ : Addr).add j) = some x := by
    intro j x hj
    rw [Addr.add_lit, Nat.zero_add]
    simp [World.cell?, hb, Ob, hj]
  have hnl : us.length = 1 * i.size := by rw [hsz, hus, Nat.one_mul]
  have hcapE : ∀ need old, need ≤ grownCap w need old e → need * sz + (grownCap w need old e - need) * sz = grownCap w need old e * sz := fun need old h => by
    rw [← Nat.add_mul]
    congr 1
    omega
  rcases hown with ⟨rfl, rfl, rfl⟩ | ⟨g', cap, r, rfl, hg, hxl, hcap⟩
  · have hr := run_append_nil (P := P) w t ty e i z ha.h hi hz ⟨b, 0, none⟩ 1 c us hnl hnews (by omega) (by omega) (by rw [hby]; simp at hbd; omega)
    refine ⟨_, _, hr, ⟨?_, ?_, .inr rfl, _, _, _, rfl⟩⟩
    · refine .inr ⟨_, _, (Builtin.zeroCells z.cells (grownCap w 1 0 e - 1)).toList, rfl, ?_, by simp [hus], ?_⟩
      · show (w.drew.alloc _).heap[w.drew.heap.size]? = _
        rw [heap_alloc_new w.drew _]
        simp [Ob]
      · have h2 := hcapE 1 0 (grownCap_ge w 1 0 e)
        rw [Nat.one_mul] at h2
        simp only [List.nil_append, List.length_append, hus, Array.length_toList, size_zeroCells, hzs]
        exact h2
    · exact ⟨rfl, rfl, rfl, by simp, fun k hk _ => heap_alloc_old w.drew _ k hk⟩
  · by_cases hroom : n + 1 ≤ cap
    · have hsum : n * sz + sz = (n + 1) * sz := by rw [Nat.add_mul, Nat.one_mul]
      have hle : (n + 1) * sz ≤ cap * sz := Nat.mul_le_mul_right _ hroom
      have hfit : n * i.size + us.length ≤ (xs ++ r).toArray.size := by
        rw [hsz, hus, List.size_toArray, hcap, hsum]
        exact hle
      have hr := run_append_room (P := P) w t ty e i ha.h hi g' n cap (xs ++ r).toArray hg ⟨b, 0, none⟩ 1 c us hnl hnews (fun u hu => List.all_eq_true.1 h1 u hu) hroom hfit
      have hlr : (xs ++ r).length = xs.length + r.length := List.length_append
      refine ⟨_, _, hr, ⟨?_, ?_, .inl rfl, _, _, _, rfl⟩⟩
      · refine .inr ⟨g', cap, r.drop us.length, rfl, ?_, ?_, ?_⟩
        · rw [setRow_heap w g' (xs ++ r).toArray _ e _ hg]
          have e1 : List.take (n * i.size) (xs ++ r) = xs := by rw [hsz, ← hxl]; simp
          have e2 : List.drop (n * i.size + us.length) (xs ++ r) = r.drop us.length := by rw [hsz, ← hxl]; simp [List.drop_append]
          simp only [e1, e2]
          rfl
        · rw [List.length_append, hxl, hus, hsum]
        · rw [List.length_append, List.length_append, List.length_drop, hxl, hus]
          omega
      · exact ⟨rfl, rfl, rfl, by simp, fun k _ hk => setRow_other w g' k _ (fun e => hk (by simp [Value.ownBlock, e]))⟩
    · have holds : ∀ j x, xs[j]? = some x → w.cell? ((⟨g', 0, none⟩ : Addr).add j) = some x := by
        intro j x hj
        rw [Addr.add_lit, Nat.zero_add]
        have hj2 : (xs ++ r)[j]? = some x := by rw [List.getElem?_append_left (List.getElem?_eq_some_iff.1 hj).1]; exact hj
        simp only [World.cell?, hg, Ob]
        simpa using hj2
      have hr := run_append_grow (P := P) w t ty e i z ha.h hi hz ⟨g', 0, none⟩ n cap xs (by rw [hsz]; exact hxl) holds ⟨b, 0, none⟩ 1 c us hnl hnews (by omega) (by omega) (growslice_fits (by omega) (by rw [hby]; exact hbd))
      refine ⟨_, _, hr, ⟨?_, ?_, .inr rfl, _, _, _, rfl⟩⟩
      · refine .inr ⟨w.heap.size, grownCap w (n + 1) cap e, (Builtin.zeroCells z.cells (grownCap w (n + 1) cap e - (n + 1))).toList, rfl, ?_, ?_, ?_⟩
        · show (w.drew.alloc _).heap[w.drew.heap.size]? = _
          rw [heap_alloc_new w.drew _]
          simp [Ob]
        · rw [List.length_append, hxl, hus, Nat.add_mul, Nat.one_mul]
        · have h2 := hcapE (n + 1) cap (grownCap_ge w (n + 1) cap e)
          rw [List.length_append, List.length_append, hxl, hus, Array.length_toList, size_zeroCells, hzs]
          rw [Nat.add_mul, Nat.one_mul] at h2
          omega
      · exact ⟨rfl, rfl, rfl, by simp, fun k hk _ => heap_alloc_old w.drew _ k hk⟩

section
variable {P : Program} {f : Fm} {w : World} {dst : Option Nat} {ty : TypeId} {pos : String} {aft : Array Edge} {g : Option (Nat × Bool)}

theorem R_pushN {t e sz by_ : Nat} {x y : Operand} [ha : AppN P t e sz by_] {v : Value} {n : Nat} {xs : List Value} (hv : ev f x = v) (hown : OwnN w e sz v n xs) {b c : Nat} {us : List Value} {T : TypeId} (hy : ev f y = .slice (some ⟨b, 0, none⟩) 1 c) (hb : w.heap[b]? = some (Ob us T)) (hus : us.length = sz) (h0 : 0 < sz) (h1 : us.all (·.oneCell') = true)
    (hbd : (n + 1) * by_ ≤ 140737488355328) (hl : n + 1 ≤ maxLen) :
    ∃ v' w', (execOp (ev f) ⟨dst, .call ⟨.builtin .append, #[x, y], #[t, t]⟩, ty, pos, aft, g⟩).run P w = .ok (.value v') w' ∧ PushedN w w' e sz v v' (n + 1) (xs ++ us) := by
  obtain ⟨v', w', h2, h3⟩ := run_pushN (P := P) (ty := ty) (t := t) (c := c) hown hb hus h0 h1 hbd hl
  refine ⟨v', w', ?_, h3⟩
  simp only [execOp, resolve, Array.map, invoke]
  simp [hv, hy, builtin, h2]

theorem L_pushN {n : Nat} {ops rest : List Oper} {K : LK} {ds : List Deferred} {d : Nat} {t e sz by_ : Nat} {x y : Operand} [ha : AppN P t e sz by_] {v : Value} {m : Nat} {xs : List Value} (hv : ev f x = v) (hown : OwnN w e sz v m xs) {b c : Nat} {us : List Value} {T : TypeId} (hy : ev f y = .slice (some ⟨b, 0, none⟩) 1 c) (hb : w.heap[b]? = some (Ob us T)) (hus : us.length = sz) (h0 : 0 < sz) (h1 : us.all (·.oneCell') = true)
    (hbd : (m + 1) * by_ ≤ 140737488355328) (hl : m + 1 ≤ maxLen) (hw : wantd ops f ⟨some d, .call ⟨.builtin .append, #[x, y], #[t, t]⟩, ty, pos, aft, g⟩ = true) (hn : Nat.blt d n = true)
    (h : ∀ v' w', PushedN w w' e sz v v' (m + 1) (xs ++ us) → L P n ops K rest (upd f d v') ds w') : L P n ops K (⟨some d, .call ⟨.builtin .append, #[x, y], #[t, t]⟩, ty, pos, aft, g⟩ :: rest) f ds w := by
  obtain ⟨v', w', h2, h3⟩ := R_pushN (P := P) (dst := some d) (ty := ty) (pos := pos) (aft := aft) (g := g) (t := t) hv hown hy hb hus h0 h1 hbd hl
  exact L_val h2 hw rfl hn (h v' w' h3)
end
end Go.Proofs.YtjilnjifegeceaaGreatDoor

/-
  The verifier's counting 'build' on the input's types: it comes back, and its fuel pays for each part.
-/
namespace Go.Proofs.YtjilnjifegeceaaGreatDoor
set_option maxRecDepth 100000
set_option maxHeartbeats 4000000
attribute [local irreducible] Calls execOp

instance app_ints : AppT Tryz.prog 65 3 8 := ⟨by kernel_rfl, by kernel_rfl⟩

/-- from F to F' over a type of so many parts -/
structure Spent (F F' : Int) (sz : Nat) : Prop where
  le : F' ≤ F - 1
  pos : 0 < F' → F' ≤ F - sz
  dead : F ≤ 0 → F' = F - 1
  low : 0 < F → -(F * 4398046511104) ≤ F'

def Built (bB : Nat) (dv : Value) (F : Int) (sz : Nat) (w : World) (v : Value) (w' : World) : Prop :=
  ∃ k F', v = .int .i64 k ∧ 0 ≤ k ∧ k ≤ 1000000 ∧ Spent F F' sz ∧ w'.heap[bB]? = some (Ob [dv, .int .i64 F'] 50) ∧ Ext (fun b => b = bB) w w'

structure OwnI (w : World) (bB : Nat) (vo : Value) (ks : List Int) : Prop where
  own : OwnS w 3 vo (ks.map (Value.int .i64))
  bd : ∀ k ∈ ks, 0 ≤ k ∧ k ≤ 1000000
  ne : vo.ownBlock ≠ some bB
theorem OwnI.ext {M : Nat → Prop} {w w' : World} {bB : Nat} {vo : Value} {ks : List Int} (h : OwnI w bB vo ks) (he : Ext M w w') (hm : ∀ g, M g → g = bB) : OwnI w' bB vo ks :=
  ⟨h.own.ext he fun g hg hM => h.ne (by rw [hg, hm g hM]), h.bd, h.ne⟩
theorem OwnI.nil (w : World) (bB : Nat) : OwnI w bB (.slice none 0 0) [] := ⟨.inl ⟨rfl, rfl⟩, (fun k hk => by cases hk), by simp [Value.ownBlock]⟩

theorem OwnI.look {w : World} {bB : Nat} {vo : Value} {ks : List Int} (h : OwnI w bB vo ks) : ∃ q c, vo = .slice q ks.length c ∧
    ∀ (i : Nat) (k : Int), ks[i]? = some k → ∃ g cs, q = some ⟨g, 0, none⟩ ∧ g ≠ bB ∧ w.heap[g]? = some (Ob cs 3) ∧ lget cs i = some (.int .i64 k) := by
  rcases h.own with ⟨h1, h2⟩ | ⟨g, c, r, h1, h2, h3⟩
  · have hk : ks = [] := by simpa using h2
    subst hk
    exact ⟨none, 0, h1, fun i k hk => by simp at hk⟩
  · refine ⟨some ⟨g, 0, none⟩, c, by rw [h1]; simp, fun i k hk => ⟨g, _, rfl, fun hb => h.ne (by rw [h1, ← hb]; rfl), h2, ?_⟩⟩
    rw [lget_eq, List.getElem?_append_left (by simpa using (List.getElem?_eq_some_iff.1 hk).1)]
    simp [hk]

theorem Ty.size_eq (t : Ty) : Ty.size t = 1 + Ty.sizeL t.es := by cases t; rfl
theorem Ty.sizeL_app : ∀ (a b : List Ty), Ty.sizeL (a ++ b) = Ty.sizeL a + Ty.sizeL b
  | [], b => by simp [Ty.sizeL]
  | x :: a, b => by simp only [List.cons_append, Ty.sizeL, Ty.sizeL_app a b]; omega
theorem Ty.sizeL_succ {es : List Ty} {i : Nat} {e : Ty} (h : es[i]? = some e) : Ty.sizeL (es.take (i + 1)) = Ty.sizeL (es.take i) + Ty.size e := by
  rw [List.take_add_one, h]
  simp [Ty.sizeL_app, Ty.sizeL]

/-- each declaration names earlier ones -/
def DeclsOK (ds : List (Int × Ty)) : Prop := ∀ (n : Nat) (d : Int × Ty), ds[n]? = some d → 0 ≤ d.1 ∧ shapedB (ds.take n) 0 d.1 d.2 = true

theorem headB_named {ds : List (Int × Ty)} {k n c : Int} {b : Bool} {es : List Ty} {params own : Int} (h : headB ds k n c b es params own = true) (hk : k = 1) : 0 ≤ n ∧ n < ds.length := by
  subst hk
  simp only [headB, Bool.and_eq_true, Bool.not_eq_true'] at h
  have h4 := h.2.1
  have hl : limitL ds.length 1 params own = ds.length := by simp [limitL]
  rw [hl] at h4
  simp [head4] at h4
  omega
theorem headB_own {ds : List (Int × Ty)} {k n c : Int} {b : Bool} {es : List Ty} {params own : Int} (h : headB ds k n c b es params own = true) (hk : k = 3) (h0 : 0 ≤ own) : 0 ≤ n := by
  subst hk
  simp only [headB, Bool.and_eq_true, Bool.not_eq_true'] at h
  have h4 := h.2.1
  have hl : limitL ds.length 3 params own = own := by simp [limitL]
  rw [hl] at h4
  simp [head4] at h4
  omega
theorem shaped_head {ds : List (Int × Ty)} {params own : Int} {t : Ty} (h : shapedB ds params own t = true) : headB ds t.k t.n t.c t.b t.es params own = true := by
  rw [shapedB_eq, Bool.and_eq_true] at h; exact h.1
theorem shaped_part {ds : List (Int × Ty)} {params own : Int} {t e : Ty} (h : shapedB ds params own t = true) (he : e ∈ t.es) : shapedB ds params own e = true := by
  rw [shapedB_eq, Bool.and_eq_true] at h
  obtain ⟨i, hi⟩ := List.mem_iff_getElem?.1 he
  have hlt := (List.getElem?_eq_some_iff.1 hi).1
  have := List.all_eq_true.1 h.2 i (List.mem_range.2 hlt)
  simp only [partB, shAt, hi, Bool.and_eq_true] at this
  exact this.1

theorem fuel_ok {F : Int} {x : Int} (h : F ≤ 100000) (h0 : -(100000 * 4398046511104) - 2199023255552 * 2 ≤ F) (hx : 0 ≤ x ∧ x ≤ 1000000) : Value.int .i64 (IntKind.i64.wrap (F - x)) = .int .i64 (F - x) := by rw [wrap_i64 (by omega) (by omega)]

def BuildOK (ds : List (Int × Ty)) (p : Option Addr) (dcap bB : Nat) (t : Ty) : Prop :=
  ∀ (cs : List Value) (H : Hp) (w : World) (F : Int) (vo : Value) (ks : List Int), Agree H w → DTy H t cs → DDl H ds p → H bB = none → w.heap[bB]? = some (Ob [.slice p ds.length dcap, .int .i64 F] 50) → OwnI w bB vo ks → F ≤ 100000 →
    -(100000 * 4398046511104) - 2199023255552 ≤ F →
    Calls Tryz.prog 18 #[ptr bB, .agg cs.toArray, vo] w (Ret (Built bB (.slice p ds.length dcap) F (Ty.size t) w))
end Go.Proofs.YtjilnjifegeceaaGreatDoor

/-
  The verifier's counting 'build', walked.
-/
namespace Go.Proofs.YtjilnjifegeceaaGreatDoor
set_option maxRecDepth 100000
set_option maxHeartbeats 4000000
attribute [local irreducible] Calls execOp

theorem r26 {G G' : Prop} (k : G') (h : Hid G' → G := by intro k_; (repeat (first | (refine cL ?_; first | (refine cL_guard ?_; refine L_unwanted rfl rfl rfl ?_) | (refine cL_move ?_; refine L_val R_move rfl rfl rfl ?_) | (refine cL_load ?_; first | refine L_val (R_loadB rfl (by assumption) (by rfl)) rfl rfl rfl ?_ | refine L_val (R_loadH (by assumption) rfl (by assumption) (by rfl)) rfl rfl rfl ?_) | (refine cL_fieldAddr ?_; refine L_val (R_fa rfl) rfl rfl rfl ?_) | (refine cL_nilCheck ?_; refine L_val (R_nil rfl) rfl rfl rfl ?_) | (refine cL_assign ?_; refine L_val R_assign rfl rfl rfl ?_) | (refine cL_call ?_; refine L_val (R_len rfl) rfl rfl rfl ?_) | (refine cL_pick ?_; first | refine L_val (R_pickT rfl) rfl rfl rfl ?_ | refine L_val (R_pickF rfl) rfl rfl rfl ?_) | (refine cL_eql ?_; first | refine L_val (R_eqPN rfl rfl) rfl rfl rfl ?_ | refine L_val (R_eqI rfl rfl) rfl rfl rfl ?_ | refine L_val (R_eqB rfl rfl) rfl rfl rfl ?_ | refine L_val (R_eqIfN rfl rfl) rfl rfl rfl ?_ | refine L_val (R_eqIfNN rfl) rfl rfl rfl ?_) | (refine cL_lss ?_; refine L_val (R_ltI rfl rfl) rfl rfl rfl ?_) | (refine cL_add ?_; refine L_val (R_addI rfl rfl) rfl rfl rfl ?_) | (refine cL_sub ?_; refine L_val (R_subI rfl rfl) rfl rfl rfl ?_) | (refine cL_leq ?_; refine L_val (R_leI rfl rfl) rfl rfl rfl ?_) | (refine cL_gtr ?_; refine L_val (R_gtI rfl rfl) rfl rfl rfl ?_) | refine L_nil ?_) | refine G_seq ?_ | refine G_region ?_ | refine G_skip ?_ | refine G_block ?_ | refine G_end ?_ | refine G_true rfl ?_ | refine G_false rfl ?_)); exact k_.out) : G := h ⟨k⟩
theorem r27 {G G' : Prop} (k : G') (h : Hid G' → G := by intro k_; (first | (refine cL ?_; first | (refine cL_guard ?_; refine L_unwanted rfl rfl rfl ?_) | (refine cL_move ?_; refine L_val R_move rfl rfl rfl ?_) | (refine cL_load ?_; first | refine L_val (R_loadB rfl (by assumption) (by rfl)) rfl rfl rfl ?_ | refine L_val (R_loadH (by assumption) rfl (by assumption) (by rfl)) rfl rfl rfl ?_) | (refine cL_fieldAddr ?_; refine L_val (R_fa rfl) rfl rfl rfl ?_) | (refine cL_nilCheck ?_; refine L_val (R_nil rfl) rfl rfl rfl ?_) | (refine cL_assign ?_; refine L_val R_assign rfl rfl rfl ?_) | (refine cL_call ?_; refine L_val (R_len rfl) rfl rfl rfl ?_) | (refine cL_pick ?_; first | refine L_val (R_pickT rfl) rfl rfl rfl ?_ | refine L_val (R_pickF rfl) rfl rfl rfl ?_) | (refine cL_eql ?_; first | refine L_val (R_eqPN rfl rfl) rfl rfl rfl ?_ | refine L_val (R_eqI rfl rfl) rfl rfl rfl ?_ | refine L_val (R_eqB rfl rfl) rfl rfl rfl ?_ | refine L_val (R_eqIfN rfl rfl) rfl rfl rfl ?_ | refine L_val (R_eqIfNN rfl) rfl rfl rfl ?_) | (refine cL_lss ?_; refine L_val (R_ltI rfl rfl) rfl rfl rfl ?_) | (refine cL_add ?_; refine L_val (R_addI rfl rfl) rfl rfl rfl ?_) | (refine cL_sub ?_; refine L_val (R_subI rfl rfl) rfl rfl rfl ?_) | (refine cL_leq ?_; refine L_val (R_leI rfl rfl) rfl rfl rfl ?_) | (refine cL_gtr ?_; refine L_val (R_gtI rfl rfl) rfl rfl rfl ?_) | refine L_nil ?_) | refine G_seq ?_ | refine G_region ?_ | refine G_skip ?_ | refine G_block ?_ | refine G_end ?_ | refine G_true rfl ?_ | refine G_false rfl ?_); exact k_.out) : G := h ⟨k⟩
theorem r28 {G G' A : Prop} (ag : A) (k : G') (h : Hid G' → A → G := by intro k_ ag_; (first | (refine cX_guard ?_; refine X_unwanted rfl rfl ?_) | (refine cX_move ?_; first | refine X_val0 (fun _ _ => R_move) rfl rfl ?_ | refine X_pure (fun _ => R_move) rfl rfl ?_) | (refine cX_load ?_; refine X_val0 (fun w he => R_loadH (ag_ w he) rfl (by assumption) (by rfl)) rfl rfl ?_) | (refine cX_fieldAddr ?_; first | refine X_val0 (fun _ _ => R_fa rfl) rfl rfl ?_ | refine X_pure (fun _ => R_fa rfl) rfl rfl ?_) | (refine cX_nilCheck ?_; first | refine X_val0 (fun _ _ => R_nil rfl) rfl rfl ?_ | refine X_pure (fun _ => R_nil rfl) rfl rfl ?_) | (refine cX_assign ?_; first | refine X_val0 (fun _ _ => R_assign) rfl rfl ?_ | refine X_pure (fun _ => R_assign) rfl rfl ?_) | (refine cX_call ?_; first | refine X_val0 (fun _ _ => R_len rfl) rfl rfl ?_ | refine X_pure (fun _ => R_len rfl) rfl rfl ?_) | (refine cX_pick ?_; first | refine X_val0 (fun _ _ => R_pickT rfl) rfl rfl ?_ | refine X_pure (fun _ => R_pickT rfl) rfl rfl ?_ | refine X_val0 (fun _ _ => R_pickF rfl) rfl rfl ?_ | refine X_pure (fun _ => R_pickF rfl) rfl rfl ?_) | (refine cX_eql ?_; first | refine X_val0 (fun _ _ => R_eqPN rfl rfl) rfl rfl ?_ | refine X_pure (fun _ => R_eqPN rfl rfl) rfl rfl ?_ | refine X_val0 (fun _ _ => R_eqI rfl rfl) rfl rfl ?_ | refine X_pure (fun _ => R_eqI rfl rfl) rfl rfl ?_ | refine X_val0 (fun _ _ => R_eqB rfl rfl) rfl rfl ?_ | refine X_pure (fun _ => R_eqB rfl rfl) rfl rfl ?_ | refine X_val0 (fun _ _ => R_eqIfN rfl rfl) rfl rfl ?_ | refine X_pure (fun _ => R_eqIfN rfl rfl) rfl rfl ?_ | refine X_val0 (fun _ _ => R_eqIfNN rfl) rfl rfl ?_ | refine X_pure (fun _ => R_eqIfNN rfl) rfl rfl ?_) | (refine cX_lss ?_; first | refine X_val0 (fun _ _ => R_ltI rfl rfl) rfl rfl ?_ | refine X_pure (fun _ => R_ltI rfl rfl) rfl rfl ?_) | (refine cX_add ?_; first | refine X_val0 (fun _ _ => R_addI rfl rfl) rfl rfl ?_ | refine X_pure (fun _ => R_addI rfl rfl) rfl rfl ?_) | (refine cX_sub ?_; first | refine X_val0 (fun _ _ => R_subI rfl rfl) rfl rfl ?_ | refine X_pure (fun _ => R_subI rfl rfl) rfl rfl ?_) | (refine cX_leq ?_; first | refine X_val0 (fun _ _ => R_leI rfl rfl) rfl rfl ?_ | refine X_pure (fun _ => R_leI rfl rfl) rfl rfl ?_) | (refine cX_gtr ?_; first | refine X_val0 (fun _ _ => R_gtI rfl rfl) rfl rfl ?_ | refine X_pure (fun _ => R_gtI rfl rfl) rfl rfl ?_)); exact k_.out) : G := h ⟨k⟩ ag

theorem build_any {ds : List (Int × Ty)} {p : Option Addr} {dcap bB : Nat} (hds : DeclsOK ds) (hdl : ds.length < 9223372036854775808) : ∀ (m : Nat), m ≤ ds.length → ∀ (t : Ty) (params own : Int), 0 ≤ own → shapedB (ds.take m) params own t = true → BuildOK ds p dcap bB t := by
  intro m
  induction m using Nat.strongRecOn with
  | ind m ihm =>
  intro hm
  refine Ty.ind fun k0 n0 c0 b0 nm0 es0 ih => ?_
  generalize hxx : Ty.mk k0 n0 c0 b0 nm0 es0 = x
  have hese : x.es = es0 := by rw [← hxx]; rfl
  rw [← hese] at ih
  clear hese hxx
  intro params own how hsh cs H w F vo ks hA hx hd hHB hB hvo hF hF0
  have hhead := shaped_head hsh
  obtain ⟨p', cap, rfl, -, -, -, hbd, hes⟩ := hx.cells
  have hw1 : Value.int .i64 (IntKind.i64.wrap (F - 1)) = .int .i64 (F - 1) := by rw [wrap_i64 (by omega) (by omega)]
  (refine calls_enter Tryz.func18 Tryz.ntmps18 rfl rfl ?_)
  (refine r26 ?_)
  refine L_box rfl rfl rfl fun b4 w1 hn1 => ?_
  obtain ⟨H1, g1, hb4⟩ := Grow.ofNew hA hn1
  have hlt := lt_of_heap hB
  have hHB1 : H1 bB = none := by
    cases hh : H1 bB with
    | none => rfl
    | some o =>
      rcases g1.new bB o hh with h | h
      · rw [hHB] at h; cases h
      · omega
  have hB1 := g1.ext.heap (fun h => h) hB
  have hes1 := hes.mono g1.le
  have hd1 := hd.mono g1.le
  (repeat (first | (refine cL ?_; first | (refine cL_guard ?_; refine L_unwanted rfl rfl rfl ?_) | (refine cL_sub ?_; refine L_valE (R_subI rfl rfl) hw1 rfl rfl rfl ?_)) | refine r27 ?_))
  refine L_store rfl hB1 rfl rfl rfl fun w2 hB2 hx2 hs2 => ?_
  have hB2 : w2.heap[bB]? = some (Ob [.slice p ds.length dcap, .int .i64 (F - 1)] 50) := hB2
  have hA2 : Agree H1 w2 := g1.ag.ext hx2 fun b o hb hbB => by rw [hbB, hHB1] at hb; cases hb
  have hex2 : Ext (fun b => b = bB) w w2 := g1.ext.of_no.trans hx2
  have hvo2 := hvo.ext hex2 fun g h => h
  cases c1 : decide (F - 1 ≤ 0) with
  | true =>
    have hle : F - 1 ≤ 0 := of_decide_eq_true c1
    (repeat (first | (refine cL ?_; first | (refine cL_guard ?_; refine L_unwanted rfl rfl rfl ?_) | (refine cL_leq ?_; refine L_valB (R_leI rfl rfl) c1 rfl rfl rfl ?_)) | refine r27 ?_))
    (refine G_retF rfl ?_)
    exact ⟨_, rfl, 0, F - 1, rfl, by omega, by omega, ⟨by omega, by omega, by omega, by omega⟩, hB2, hex2⟩
  | false =>
  have hpos : 0 < F - 1 := by have := of_decide_eq_false c1; omega
  cases c3 : (x.k == 3) with
  | true =>
    have hk3 : x.k = 3 := by simpa using c3
    have hn0 := headB_own hhead hk3 how
    have hes0 : x.es = [] := by
      simp only [headB, Bool.and_eq_true, Bool.not_eq_true'] at hhead
      have h2 := hhead.1
      rw [hk3] at h2
      simp [head2, elemsL] at h2
      exact h2
    have hsz : Ty.size x = 1 := by rw [Ty.size_eq, hes0]; rfl
    rw [hsz]
    obtain ⟨q, oc, rfl, hlook⟩ := hvo2.look
    cases c4 : decide (x.n < (ks.length : Int)) with
    | false =>
      (repeat (first | (refine cL ?_; first | (refine cL_guard ?_; refine L_unwanted rfl rfl rfl ?_) | (refine cL_eql ?_; refine L_valB (R_eqI rfl rfl) c3 rfl rfl rfl ?_) | (refine cL_lss ?_; refine L_valB (R_ltI rfl rfl) c4 rfl rfl rfl ?_) | (refine cL_leq ?_; refine L_valB (R_leI rfl rfl) c1 rfl rfl rfl ?_)) | refine r27 ?_))
      (refine G_retF rfl ?_)
      exact ⟨_, rfl, 1, F - 1, rfl, by omega, by omega, ⟨by omega, by omega, by omega, by omega⟩, hB2, hex2⟩
    | true =>
      have hlt4 := of_decide_eq_true c4
      obtain ⟨k, hk⟩ : ∃ k, ks[x.n.toNat]? = some k := ⟨_, List.getElem?_eq_getElem (by omega)⟩
      obtain ⟨g, gcs, rfl, hgb, hgh, hgv⟩ := hlook _ _ hk
      have hkb := hvo.bd k (List.mem_of_getElem? hk)
      have hgv' : lget gcs (0 + x.n.toNat * 1) = some (.int .i64 k) := by
        have : 0 + x.n.toNat * 1 = x.n.toNat := by omega
        rw [this]; exact hgv
      have hw3 : Value.int .i64 (IntKind.i64.wrap (F - 1 - k)) = .int .i64 (F - 1 - k) := by rw [wrap_i64 (by omega) (by omega)]
      have hAg : ∀ w', Ext No w2 w' → Agree H1 w' := fun _ he => hA2.ext0 he
      (repeat (first | (refine cL ?_; first | (refine cL_guard ?_; refine L_unwanted rfl rfl rfl ?_) | (refine cL_eql ?_; refine L_valB (R_eqI rfl rfl) c3 rfl rfl rfl ?_) | (refine cL_lss ?_; refine L_valB (R_ltI rfl rfl) c4 rfl rfl rfl ?_) | (refine cL_leq ?_; refine L_valB (R_leI rfl rfl) c1 rfl rfl rfl ?_)) | refine r27 ?_))
      (refine G_drawX No (.op 0 (.op 1 (.op 2 (.op 3 (.op 4 (.op 5 (.op 6 (.op 7 (.op 8 (.op 9 (.op 10 (.op 11 (.op 12 .nil))))))))))))) [(12, 2)] follows (by kernel_rfl) ?_)
      (repeat (first | (refine cX_guard ?_; refine X_unwanted rfl rfl ?_) | (refine cX_load ?_; first | refine X_val0 (fun w he => R_loadB rfl (he.heap (fun h => h) hB2) rfl) rfl rfl ?_ | refine X_val0 (fun w he => R_loadB rfl (he.heap (fun h => h) hgh) hgv') rfl rfl ?_) | (refine cX_indexAddr ?_; refine X_val0 (fun _ _ => R_ia rfl rfl hn0 hlt4) rfl rfl ?_) | (refine cX_sub ?_; refine X_valE (fun _ _ => R_subI rfl rfl) hw3 rfl rfl ?_) | refine r28 hAg ?_))
      refine X_store rfl (fun w he => he.heap (fun h => h) hB2) rfl rfl rfl fun w3 w4 he3 hB4 hx4 hs4 => ?_
      have hB4 : w4.heap[bB]? = some (Ob [.slice p ds.length dcap, .int .i64 (F - 1 - k)] 50) := hB4
      refine X_nil fun w5 he5 => ?_
      have hB5 := he5.heap (fun h => h) hB4
      have hg5 := he5.heap (fun h => h) (hx4.heap (fun h => hgb h) (he3.heap (fun h => h) hgh))
      have hA5 : Agree H1 w5 := ((hA2.ext0 he3).ext hx4 fun b o hb hbB => by rw [hbB, hHB1] at hb; cases hb).ext0 he5
      (repeat (first | (refine cL ?_; first | (refine cL_guard ?_; refine L_unwanted rfl rfl rfl ?_) | (refine cL_load ?_; refine L_val (R_loadB rfl hg5 hgv') rfl rfl rfl ?_) | (refine cL_indexAddr ?_; refine L_val (R_ia rfl rfl hn0 hlt4) rfl rfl rfl ?_)) | refine r27 ?_))
      (refine G_retF rfl ?_)
      exact ⟨_, rfl, k, F - 1 - k, rfl, hkb.1, hkb.2, ⟨by omega, by omega, by omega, by omega⟩, hB5, hex2.trans (he3.of_no.trans (hx4.trans he5.of_no))⟩
  | false =>
  (repeat (first | (refine cL ?_; first | (refine cL_guard ?_; refine L_unwanted rfl rfl rfl ?_) | (refine cL_eql ?_; refine L_valB (R_eqI rfl rfl) c3 rfl rfl rfl ?_) | (refine cL_leq ?_; refine L_valB (R_leI rfl rfl) c1 rfl rfl rfl ?_)) | refine r27 ?_))
  refine G_loop (fun f ds0 w0 => ds0 = [] ∧ ∃ (f0 : Fm) (i : Nat) (n : Int) (va : Value) (aks : List Int) (Fi : Int), f = with_ [(52, .int .i64 (i : Int)), (51, .int .i64 (x.es.length : Int)), (50, .slice p' x.es.length cap), (0, ptr bB), (2, vo), (4, ptr b4), (7, .int .i64 n), (8, va)] f0 ∧ i ≤ x.es.length ∧
      Ext (fun b => b = bB) w2 w0 ∧ w0.heap[bB]? = some (Ob [.slice p ds.length dcap, .int .i64 Fi] 50) ∧ OwnI w0 bB va aks ∧ (∀ g, va.ownBlock = some g → w2.heap.size ≤ g) ∧ aks.length = i ∧ (1 ≤ n ∧ n ≤ 1 + (i : Int) * 1000000) ∧
      Fi ≤ F - 1 ∧ (0 < Fi → Fi ≤ F - 1 - (Ty.sizeL (x.es.take i) : Int)) ∧ -((F - 1) * 4398046511104) - (i : Int) ≤ Fi) (fun f _ _ => countM 52 51 f)
    ⟨rfl, _, 0, 1, .slice none 0 0, [], F - 1, with_self ⟨rfl, rfl, rfl, rfl, rfl, rfl, rfl, rfl, trivial⟩, Nat.zero_le _, Ext.refl _ _, hB2, OwnI.nil _ _, (fun g hg => by cases hg), rfl, by omega, by omega, (fun _ => by simp [Ty.sizeL]), by omega⟩ ?_
  rintro f ds0 wr ⟨rfl, f0, i, n, va, aks, Fi, rfl, hi, hext, hBr, hva, hvb, hal, hn, hF1, hF2, hF3⟩
  have hAr : Agree H1 wr := hA2.ext hext fun b o hb hbB => by rw [hbB, hHB1] at hb; cases hb
  have hbl : x.es.length ≤ 1954687338211 := by omega
  by_cases h : i < x.es.length
  · have hb : decide ((i : Int) < (x.es.length : Int)) = true := decide_eq_true (by omega)
    obtain ⟨e, he⟩ : ∃ v, x.es[i]? = some v := ⟨_, List.getElem?_eq_getElem h⟩
    obtain ⟨bk, off, ec, hp', hec, hed⟩ := hes1.get he
    obtain ⟨q, qcap, rfl, -, -, -, -, -⟩ := hed.cells
    subst hp'
    (repeat (first | (refine cL ?_; first | (refine cL_guard ?_; refine L_unwanted rfl rfl rfl ?_) | (refine cL_load ?_; refine L_val (R_loadA rfl rfl fun j v hj => hAr.hcell (hec j v hj)) rfl rfl rfl ?_) | (refine cL_lss ?_; refine L_valB (R_ltI rfl rfl) hb rfl rfl rfl ?_) | (refine cL_indexAddr ?_; refine L_valE (R_ia rfl rfl (by omega) (by omega)) (ia6 _ _ _) rfl rfl rfl ?_)) | refine r27 ?_))
    refine L_allocS rfl rfl fun b10 w3 hn3 => ?_
    refine L_storeA rfl hn3.here rfl rfl rfl rfl rfl rfl fun w4 h4 e4 s4 => ?_
    have hn4 := hn3.store h4 e4 s4
    obtain ⟨H4, g4, hb10⟩ := Grow.ofNew hAr hn4
    have hB4 := hn4.ext.heap (fun h => h) hBr
    have hltr := lt_of_heap hBr
    have hHB4 : H4 bB = none := by
      cases hh : H4 bB with
      | none => rfl
      | some o =>
        rcases g4.new bB o hh with h | h
        · rw [hHB1] at h; cases h
        · omega
    have hvo4 : OwnI w4 bB vo ks := (hvo2.ext hext fun g h => h).ext hn4.ext fun g h => h.elim
    have hih := ih e (List.mem_of_getElem? he) params own how (shaped_part hsh (List.mem_of_getElem? he)) _ H4 w4 Fi vo ks g4.ag (DTy.mono g4.le _ _ hed) (hd1.mono g4.le) hHB4 hB4 hvo4 (by omega) (by omega)
    (repeat (first | (refine cL ?_; first | (refine cL_guard ?_; refine L_unwanted rfl rfl rfl ?_) | (refine cL_load ?_; refine L_val (R_loadAB rfl rfl (g4.ag _ _ hb10)) rfl rfl rfl ?_)) | refine r27 ?_))
    refine L_callR hih rfl rfl fun v5 w5 ⟨k, F', hv5, hk0, hk1, hsp, hB5, hx5⟩ => ?_
    subst hv5
    have hsp1 := hsp.le
    have hsp2 := hsp.pos
    have hsp3 := hsp.dead
    have hsp4 := hsp.low
    (refine r26 ?_)
    refine L_buildSlice (vs := [.int .i64 k]) rfl rfl rfl rfl rfl rfl fun b6 w6 hn6 => ?_
    have hva6 : OwnI w6 bB va aks := ((hva.ext hn4.ext fun g h => h.elim).ext hx5 fun g h => h).ext hn6.ext fun g h => h.elim
    refine L_push (v := va) (u := .int .i64 k) rfl hva6.own rfl hn6.here rfl (by simp; omega) (by simp [maxLen]; omega) rfl rfl fun va' w7 hpu => ?_
    have hB6 := hn6.ext.heap (fun h => h) hB5
    have hB7 := hpu.ext.heap (fun h => hva6.ne h.symm) hB6
    have hx26 : Ext (fun b => b = bB) w2 w6 := hext.trans (hn4.ext.of_no.trans (hx5.trans hn6.ext.of_no))
    have hx27 : Ext (fun b => b = bB) w2 w7 := hx26.trans_new hpu.ext fun j hj hm => absurd (hvb j hm.symm) (by omega)
    have hva7 : OwnI w7 bB va' (aks ++ [k]) := ⟨by rw [List.map_append]; exact hpu.own, fun y hy => by
        rcases List.mem_append.1 hy with hy | hy
        · exact hva.bd y hy
        · rw [List.mem_singleton] at hy; subst hy; exact ⟨hk0, hk1⟩, by
        rcases hpu.blk with hbk | hbk
        · rw [hbk]; exact hva.ne
        · rw [hbk]
          have := lt_of_heap hB6
          intro hcon
          injection hcon with hcon
          omega⟩
    have hvb7 : ∀ g, va'.ownBlock = some g → w2.heap.size ≤ g := fun g hg => by
      rcases hpu.blk with hbk | hbk
      · exact hvb g (by rw [← hbk]; exact hg)
      · rw [hbk] at hg
        injection hg with hg
        have := hx26.size
        omega
    have hsum : Value.int .i64 (IntKind.i64.wrap (n + k)) = .int .i64 (n + k) := by rw [wrap_i64 (by omega) (by omega)]
    have hszs := Ty.sizeL_succ he
    (repeat (first | (refine cL ?_; first | (refine cL_guard ?_; refine L_unwanted rfl rfl rfl ?_) | (refine cL_add ?_; first | refine L_valE (R_addI rfl rfl) hsum rfl rfl rfl ?_ | refine L_valE (R_addI rfl rfl) (succ_i64 h (by omega)) rfl rfl rfl ?_)) | refine r27 ?_))
    refine G_inv ⟨⟨rfl, _, i + 1, n + k, va', aks ++ [k], F', with_self ⟨rfl, rfl, rfl, rfl, rfl, rfl, rfl, rfl, trivial⟩, h, hx27, hB7, hva7, hvb7, by simp [hal], by omega, by omega, (fun hf => ?_), ?_⟩, ?_⟩
    · have := hsp2 hf
      have := hF2 (by omega)
      omega
    · by_cases hfi : 0 < Fi
      · have := hsp4 hfi
        omega
      · have := hsp3 (by omega)
        omega
    · show ((x.es.length : Int) - ((i + 1 : Nat) : Int)).toNat < ((x.es.length : Int) - (i : Int)).toNat
      omega
  · have hb : decide ((i : Int) < (x.es.length : Int)) = false := decide_eq_false (by omega)
    have hil : i = x.es.length := by omega
    have htk : x.es.take i = x.es := by rw [hil]; exact List.take_length
    rw [htk] at hF2
    have hszx := Ty.size_eq x
    have hexr : Ext (fun b => b = bB) w wr := hex2.trans hext
    have hspent : ∀ F', (F' = Fi ∨ (0 < Fi ∧ F' ≤ Fi - 1 ∧ -(Fi * 4398046511104) ≤ F')) → Spent F F' (Ty.size x) := fun F' hh => by
      rcases hh with rfl | ⟨h1, h2, h3⟩
      · exact ⟨by omega, fun hp => by have := hF2 hp; omega, by omega, by omega⟩
      · have := hF2 h1
        exact ⟨by omega, by omega, by omega, by omega⟩
    cases ck : (x.k == 1) with
    | false =>
      (repeat (first | (refine cL ?_; first | (refine cL_guard ?_; refine L_unwanted rfl rfl rfl ?_) | (refine cL_call ?_; refine L_val (R_minI rfl rfl) rfl rfl rfl ?_) | (refine cL_eql ?_; refine L_valB (R_eqI rfl rfl) ck rfl rfl rfl ?_) | (refine cL_lss ?_; refine L_valB (R_ltI rfl rfl) hb rfl rfl rfl ?_)) | refine G_exit rfl ?_ | refine r27 ?_))
      (refine G_retF rfl ?_)
      refine ⟨_, rfl, _, Fi, rfl, ?_, ?_, hspent Fi (.inl rfl), hBr, hexr⟩
      · show 0 ≤ (if (1000000 : Int) < n then (1000000 : Int) else n)
        split <;> omega
      · show (if (1000000 : Int) < n then (1000000 : Int) else n) ≤ 1000000
        split <;> omega
    | true =>
      have hk1 : x.k = 1 := by simpa using ck
      cases cf : decide (Fi > 0) with
      | false =>
        (repeat (first | (refine cL ?_; first | (refine cL_guard ?_; refine L_unwanted rfl rfl rfl ?_) | (refine cL_call ?_; refine L_val (R_minI rfl rfl) rfl rfl rfl ?_) | (refine cL_eql ?_; refine L_valB (R_eqI rfl rfl) ck rfl rfl rfl ?_) | (refine cL_lss ?_; refine L_valB (R_ltI rfl rfl) hb rfl rfl rfl ?_) | (refine cL_gtr ?_; refine L_valB (R_gtI rfl rfl) cf rfl rfl rfl ?_)) | refine G_exit rfl ?_ | refine r27 ?_))
        (refine G_retF rfl ?_)
        refine ⟨_, rfl, _, Fi, rfl, ?_, ?_, hspent Fi (.inl rfl), hBr, hexr⟩
        · show 0 ≤ (if (1000000 : Int) < n then (1000000 : Int) else n)
          split <;> omega
        · show (if (1000000 : Int) < n then (1000000 : Int) else n) ≤ 1000000
          split <;> omega
      | true =>
        have hfi : 0 < Fi := of_decide_eq_true cf
        obtain ⟨hn0, hnm⟩ := headB_named hhead hk1
        have hnm' : x.n.toNat < m := by rw [List.length_take] at hnm; omega
        have hnd : x.n < (ds.length : Int) := by omega
        obtain ⟨dd, hdd⟩ : ∃ dd, ds[x.n.toNat]? = some dd := ⟨_, List.getElem?_eq_getElem (by omega)⟩
        obtain ⟨hdp, hdsh⟩ := hds _ _ hdd
        obtain ⟨bk, off, tcs, rfl, hdc, hdt, -⟩ := hd1 _ _ hdd
        obtain ⟨q, qcap, rfl, -, -, -, -, -⟩ := hdt.cells
        have hAg : ∀ w', Ext No wr w' → Agree H1 w' := fun _ he => hAr.ext0 he
        have hcl : ∀ w', Ext No wr w' → ∀ j v, lget (tyCells dd.2.k dd.2.n dd.2.c dd.2.b (.slice q dd.2.es.length qcap) dd.2.nm) j = some v → w'.cell? ⟨bk, off + x.n.toNat * 7 + 1 + j, none⟩ = some v := fun w' he j v hj => by
          have h1 := (hAg w' he).hcell (hdc (j + 1) v hj)
          have h2 : off + x.n.toNat * 7 + 1 + j = off + x.n.toNat * 7 + (j + 1) := by omega
          rw [h2]
          exact h1
        have hcall : ∀ w', Ext No wr w' → Calls Tryz.prog 18 #[ptr bB, .agg (tyCells dd.2.k dd.2.n dd.2.c dd.2.b (.slice q dd.2.es.length qcap) dd.2.nm).toArray, va] w' (Ret (Built bB (.slice (some ⟨bk, off, none⟩) ds.length dcap) Fi (Ty.size dd.2) w')) := fun w' he =>
          ihm x.n.toNat hnm' (by omega) dd.2 0 dd.1 hdp hdsh _ H1 w' Fi va aks (hAg w' he) hdt hd1 hHB1 (he.heap (fun h => h) hBr) (hva.ext he fun g h => h.elim) (by omega) (by omega)
        (repeat (first | (refine cL ?_; first | (refine cL_guard ?_; refine L_unwanted rfl rfl rfl ?_) | (refine cL_eql ?_; refine L_valB (R_eqI rfl rfl) ck rfl rfl rfl ?_) | (refine cL_lss ?_; refine L_valB (R_ltI rfl rfl) hb rfl rfl rfl ?_) | (refine cL_gtr ?_; refine L_valB (R_gtI rfl rfl) cf rfl rfl rfl ?_)) | refine G_exit rfl ?_ | refine r27 ?_))
        (refine G_drawX No (.op 0 (.op 1 (.op 2 (.op 3 (.op 4 (.op 5 (.op 6 (.op 7 (.op 8 (.op 9 (.op 10 (.op 11 (.op 12 (.op 13 (.op 14 .nil))))))))))))))) [(0, 3), (12, 2)] follows (by kernel_rfl) ?_)
        (repeat (first | (refine cX_guard ?_; refine X_unwanted rfl rfl ?_) | (refine cX_load ?_; first | refine X_val0 (fun w he => R_loadB rfl (he.heap (fun h => h) hBr) rfl) rfl rfl ?_ | refine X_val0 (fun w he => R_loadA rfl rfl (hcl w he)) rfl rfl ?_) | (refine cX_indexAddr ?_; refine X_val0 (fun _ _ => R_ia rfl rfl hn0 hnd) rfl rfl ?_) | refine r28 hAg ?_))
        refine X_callW hcall rfl fun w5 v6 w6 he5 ⟨k, F', hv6, hk0, hk1', hsp, hB6, hx6⟩ => ?_
        subst hv6
        have hsum : Value.int .i64 (IntKind.i64.wrap (n + k)) = .int .i64 (n + k) := by rw [wrap_i64 (by omega) (by omega)]
        have hAg6 : ∀ w', Ext No w6 w' → Agree H1 w' := fun _ he => (((hAr.ext0 he5).ext hx6 fun b o hb hbB => by rw [hbB, hHB1] at hb; cases hb).ext0 he)
        (repeat (first | (refine cX_guard ?_; refine X_unwanted rfl rfl ?_) | (refine cX_add ?_; refine X_valE (fun _ _ => R_addI rfl rfl) hsum rfl rfl ?_) | refine r28 hAg6 ?_))
        refine X_nil fun w7 he7 => ?_
        (repeat (first | (refine cL ?_; first | (refine cL_guard ?_; refine L_unwanted rfl rfl rfl ?_) | (refine cL_call ?_; refine L_val (R_minI rfl rfl) rfl rfl rfl ?_)) | refine r27 ?_))
        (refine G_retF rfl ?_)
        refine ⟨_, rfl, _, F', rfl, ?_, ?_, hspent F' (.inr ⟨hfi, hsp.le, hsp.low hfi⟩), he7.heap (fun h => h) hB6, hexr.trans (he5.of_no.trans (hx6.trans he7.of_no))⟩
        · show 0 ≤ (if (1000000 : Int) < n + k then (1000000 : Int) else n + k)
          split <;> omega
        · show (if (1000000 : Int) < n + k then (1000000 : Int) else n + k) ≤ 1000000
          split <;> omega
end Go.Proofs.YtjilnjifegeceaaGreatDoor

/-
  The verifier's 'Valid': it says a bool; where it says true, what is built is in order.
-/
namespace Go.Proofs.YtjilnjifegeceaaGreatDoor
set_option maxRecDepth 100000
set_option maxHeartbeats 8000000
attribute [local irreducible] Calls execOp

theorem r29 {G G' : Prop} (k : G') (h : Hid G' → G := by intro k_; (first | (refine cL ?_; first | (refine cL_guard ?_; refine L_unwanted rfl rfl rfl ?_) | (refine cL_move ?_; refine L_val R_move rfl rfl rfl ?_) | (refine cL_load ?_; first | refine L_val (R_loadB rfl (by assumption) (by rfl)) rfl rfl rfl ?_ | refine L_val (R_loadH (by assumption) rfl (by assumption) (by rfl)) rfl rfl rfl ?_) | (refine cL_fieldAddr ?_; refine L_val (R_fa rfl) rfl rfl rfl ?_) | (refine cL_nilCheck ?_; refine L_val (R_nil rfl) rfl rfl rfl ?_) | (refine cL_assign ?_; refine L_val R_assign rfl rfl rfl ?_) | (refine cL_call ?_; refine L_val (R_len rfl) rfl rfl rfl ?_) | (refine cL_pick ?_; first | refine L_val (R_pickT rfl) rfl rfl rfl ?_ | refine L_val (R_pickF rfl) rfl rfl rfl ?_) | (refine cL_eql ?_; first | refine L_val (R_eqPN rfl rfl) rfl rfl rfl ?_ | refine L_val (R_eqI rfl rfl) rfl rfl rfl ?_ | refine L_val (R_eqB rfl rfl) rfl rfl rfl ?_ | refine L_val (R_eqIfN rfl rfl) rfl rfl rfl ?_ | refine L_val (R_eqIfNN rfl) rfl rfl rfl ?_) | (refine cL_lss ?_; refine L_val (R_ltI rfl rfl) rfl rfl rfl ?_) | (refine cL_not ?_; refine L_val (R_not rfl) rfl rfl rfl ?_) | (refine cL_add ?_; refine L_val (R_addI rfl rfl) rfl rfl rfl ?_) | (refine cL_gtr ?_; refine L_val (R_gtI rfl rfl) rfl rfl rfl ?_) | refine L_nil ?_) | refine G_seq ?_ | refine G_region ?_ | refine G_skip ?_ | refine G_block ?_ | refine G_end ?_ | refine G_true rfl ?_ | refine G_false rfl ?_); exact k_.out) : G := h ⟨k⟩
theorem r30 {G G' : Prop} (k : G') (h : Hid G' → G := by intro k_; (repeat (first | (refine cL ?_; first | (refine cL_guard ?_; refine L_unwanted rfl rfl rfl ?_) | (refine cL_move ?_; refine L_val R_move rfl rfl rfl ?_) | (refine cL_load ?_; first | refine L_val (R_loadB rfl (by assumption) (by rfl)) rfl rfl rfl ?_ | refine L_val (R_loadH (by assumption) rfl (by assumption) (by rfl)) rfl rfl rfl ?_) | (refine cL_fieldAddr ?_; refine L_val (R_fa rfl) rfl rfl rfl ?_) | (refine cL_nilCheck ?_; refine L_val (R_nil rfl) rfl rfl rfl ?_) | (refine cL_assign ?_; refine L_val R_assign rfl rfl rfl ?_) | (refine cL_call ?_; refine L_val (R_len rfl) rfl rfl rfl ?_) | (refine cL_pick ?_; first | refine L_val (R_pickT rfl) rfl rfl rfl ?_ | refine L_val (R_pickF rfl) rfl rfl rfl ?_) | (refine cL_eql ?_; first | refine L_val (R_eqPN rfl rfl) rfl rfl rfl ?_ | refine L_val (R_eqI rfl rfl) rfl rfl rfl ?_ | refine L_val (R_eqB rfl rfl) rfl rfl rfl ?_ | refine L_val (R_eqIfN rfl rfl) rfl rfl rfl ?_ | refine L_val (R_eqIfNN rfl) rfl rfl rfl ?_) | (refine cL_lss ?_; refine L_val (R_ltI rfl rfl) rfl rfl rfl ?_) | (refine cL_not ?_; refine L_val (R_not rfl) rfl rfl rfl ?_) | (refine cL_add ?_; refine L_val (R_addI rfl rfl) rfl rfl rfl ?_) | (refine cL_gtr ?_; refine L_val (R_gtI rfl rfl) rfl rfl rfl ?_) | refine L_nil ?_) | refine G_seq ?_ | refine G_region ?_ | refine G_skip ?_ | refine G_block ?_ | refine G_end ?_ | refine G_true rfl ?_ | refine G_false rfl ?_)); exact k_.out) : G := h ⟨k⟩
theorem r31 {G G' A : Prop} (ag : A) (k : G') (h : Hid G' → A → G := by intro k_ ag_; (first | (refine cD_guard ?_; refine D_unwanted rfl rfl ?_) | (refine cD_move ?_; refine D_val0 (fun _ _ => R_move) rfl rfl ?_) | (refine cD_load ?_; refine D_val0 (fun w he => R_loadH (ag_ w he) rfl (by assumption) (by rfl)) rfl rfl ?_) | (refine cD_fieldAddr ?_; refine D_val0 (fun _ _ => R_fa rfl) rfl rfl ?_) | (refine cD_nilCheck ?_; refine D_val0 (fun _ _ => R_nil rfl) rfl rfl ?_) | (refine cD_assign ?_; refine D_val0 (fun _ _ => R_assign) rfl rfl ?_) | (refine cD_call ?_; refine D_val0 (fun _ _ => R_len rfl) rfl rfl ?_) | (refine cD_pick ?_; first | refine D_val0 (fun _ _ => R_pickT rfl) rfl rfl ?_ | refine D_val0 (fun _ _ => R_pickF rfl) rfl rfl ?_) | (refine cD_eql ?_; first | refine D_val0 (fun _ _ => R_eqPN rfl rfl) rfl rfl ?_ | refine D_val0 (fun _ _ => R_eqI rfl rfl) rfl rfl ?_ | refine D_val0 (fun _ _ => R_eqB rfl rfl) rfl rfl ?_ | refine D_val0 (fun _ _ => R_eqIfN rfl rfl) rfl rfl ?_ | refine D_val0 (fun _ _ => R_eqIfNN rfl) rfl rfl ?_) | (refine cD_lss ?_; refine D_val0 (fun _ _ => R_ltI rfl rfl) rfl rfl ?_) | (refine cD_not ?_; refine D_val0 (fun _ _ => R_not rfl) rfl rfl ?_) | (refine cD_add ?_; refine D_val0 (fun _ _ => R_addI rfl rfl) rfl rfl ?_) | (refine cD_gtr ?_; refine D_val0 (fun _ _ => R_gtI rfl rfl) rfl rfl ?_)); exact k_.out) : G := h ⟨k⟩ ag

structure ValidD (ds : List (Int × Ty)) (params : Int) (ts : List Ty) : Prop where
  p0 : 0 ≤ params
  p8 : params ≤ 8
  d16 : ds.length ≤ 16
  dd : ∀ (i : Nat) (d : Int × Ty), ds[i]? = some d → 0 ≤ d.1 ∧ d.1 ≤ 8 ∧ d.2.k ≠ 1 ∧ d.2.k ≠ 3 ∧ shapedB (ds.take i) 0 d.1 d.2 = true
  tt : ∀ t ∈ ts, shapedB ds params 0 t = true ∧ Ty.size t ≤ 15

theorem sizeW_small : ∀ t : Ty, Ty.size t ≤ 4611686018427387904 → sizeW t = (Ty.size t : Int) := by
  refine Ty.ind fun k n c b nm es ih => ?_
  intro h
  have key : ∀ (es : List Ty) (m : Int), (∀ e ∈ es, Ty.size e ≤ 4611686018427387904 → sizeW e = (Ty.size e : Int)) → 0 ≤ m → m + (Ty.sizeL es : Int) ≤ 4611686018427387904 → sizeWL m es = m + (Ty.sizeL es : Int) := by
    intro es
    induction es with
    | nil => intro m _ _ _; simp [sizeWL, Ty.sizeL]
    | cons e es ihe =>
      intro m hm h0 hb
      simp only [Ty.sizeL] at hb
      rw [sizeWL, hm e List.mem_cons_self (by omega), wrap_i64 (by omega) (by omega), ihe _ (fun x hx => hm x (List.mem_cons_of_mem _ hx)) (by omega) (by omega)]
      simp only [Ty.sizeL]
      omega
  simp only [Ty.size] at h ⊢
  rw [sizeW_eq]
  show sizeWL 1 es = _
  rw [key es 1 ih (by omega) (by omega)]
  omega

theorem hcells_ob {H : Hp} {b : Nat} {cs : List Value} {T : Nat} (pre : List Value) (h : H b = some (Ob (pre ++ cs) T)) : HCells H b pre.length cs := by
  intro j v hj
  refine ⟨_, _, _, h, ?_⟩
  rw [lget_eq] at hj
  simp [List.getElem?_append_right, hj]

/-- one declaration is in order -/
def declB (ds : List (Int × Ty)) (i : Nat) (d : Int × Ty) : Bool :=
  !(decide (d.1 < 0)) && (!(decide (d.1 > 8)) && (!(d.2.k == 1) && (!(d.2.k == 3) && (shapedB (ds.take i) 0 d.1 d.2))))

def ValidPost (ds : List (Int × Ty)) (params : Int) (ts : List Ty) (w : World) (v : Value) (w' : World) : Prop :=
  ∃ b, v = .bool b ∧ Ext No w w' ∧ (b = true → ValidD ds params ts)

theorem ia7' (b off i : Nat) : (Value.pointer (some ⟨b, off + ((i : Nat) : Int).toNat * 7, none⟩)) = .pointer (some ⟨b, off + i * 7, none⟩) := by simp

theorem valid_any {ds : List (Int × Ty)} {p pl : Option Addr} {dcap lcap : Nat} {params : Int} {ts : List Ty} {H : Hp} (w : World) (hA : Agree H w) (hd : DDl H ds p) (ht : DSl H ts pl) (hdc : ds.length ≤ dcap) (hdl : ds.length < 9223372036854775808) (htl : ts.length ≤ 1000) :
    Calls Tryz.prog 8 #[.slice p ds.length dcap, .int .i64 params, .slice pl ts.length lcap] w (Ret (ValidPost ds params ts w)) := by
  cases c1 : decide (params < 0) with
  | true =>
    (refine calls_enter Tryz.func8 Tryz.ntmps8 rfl rfl ?_)
    (repeat (first | (refine cL ?_; first | (refine cL_guard ?_; refine L_unwanted rfl rfl rfl ?_) | (refine cL_lss ?_; refine L_valB (R_ltI rfl rfl) c1 rfl rfl rfl ?_)) | refine r29 ?_))
    (refine G_retF rfl ?_)
    exact ⟨_, rfl, false, rfl, Ext.refl _ _, fun h => by cases h⟩
  | false =>
  cases c2 : decide (params > 8) with
  | true =>
    (refine calls_enter Tryz.func8 Tryz.ntmps8 rfl rfl ?_)
    (repeat (first | (refine cL ?_; first | (refine cL_guard ?_; refine L_unwanted rfl rfl rfl ?_) | (refine cL_lss ?_; refine L_valB (R_ltI rfl rfl) c1 rfl rfl rfl ?_) | (refine cL_gtr ?_; refine L_valB (R_gtI rfl rfl) c2 rfl rfl rfl ?_)) | refine r29 ?_))
    (refine G_retF rfl ?_)
    exact ⟨_, rfl, false, rfl, Ext.refl _ _, fun h => by cases h⟩
  | false =>
  cases c3 : decide ((ds.length : Int) > 16) with
  | true =>
    (refine calls_enter Tryz.func8 Tryz.ntmps8 rfl rfl ?_)
    (repeat (first | (refine cL ?_; first | (refine cL_guard ?_; refine L_unwanted rfl rfl rfl ?_) | (refine cL_lss ?_; refine L_valB (R_ltI rfl rfl) c1 rfl rfl rfl ?_) | (refine cL_gtr ?_; first | refine L_valB (R_gtI rfl rfl) c2 rfl rfl rfl ?_ | refine L_valB (R_gtI rfl rfl) c3 rfl rfl rfl ?_)) | refine r29 ?_))
    (refine G_retF rfl ?_)
    exact ⟨_, rfl, false, rfl, Ext.refl _ _, fun h => by cases h⟩
  | false =>
  have hp0 : 0 ≤ params := by have := of_decide_eq_false c1; omega
  have hp8 : params ≤ 8 := by have := of_decide_eq_false c2; omega
  have hd16 : ds.length ≤ 16 := by have := of_decide_eq_false c3; omega
  (refine calls_enter Tryz.func8 Tryz.ntmps8 rfl rfl ?_)
  (repeat (first | (refine cL ?_; first | (refine cL_guard ?_; refine L_unwanted rfl rfl rfl ?_) | (refine cL_lss ?_; refine L_valB (R_ltI rfl rfl) c1 rfl rfl rfl ?_) | (refine cL_gtr ?_; first | refine L_valB (R_gtI rfl rfl) c2 rfl rfl rfl ?_ | refine L_valB (R_gtI rfl rfl) c3 rfl rfl rfl ?_)) | refine r29 ?_))
  refine G_loop (CountI 29 28 ds.length [(0, .slice p ds.length dcap), (1, .int .i64 params), (2, .slice pl ts.length lcap), (27, .slice p ds.length dcap)] w fun i => ∀ j d, j < i → ds[j]? = some d → declB ds j d = true) (fun f _ _ => countM 29 28 f)
    ⟨rfl, Ext.refl _ _, _, 0, with_self ⟨rfl, rfl, rfl, rfl, rfl, rfl, trivial⟩, Nat.zero_le _, fun j d hj => absurd hj (Nat.not_lt_zero j)⟩ ?_
  rintro f ds0 wr ⟨rfl, hext, f0, i, rfl, hi, hJ⟩
  have hAr := hA.ext0 hext
  by_cases h : i < ds.length
  · have hb : decide ((i : Int) < (ds.length : Int)) = true := decide_eq_true (by omega)
    obtain ⟨d, hdi⟩ : ∃ v, ds[i]? = some v := ⟨_, List.getElem?_eq_getElem h⟩
    obtain ⟨bk, off, tcs, rfl, hec, hdt, hdk⟩ := hd _ _ hdi
    obtain ⟨q, qcap, rfl, -, -, -, hqb, -⟩ := hdt.cells
    (repeat (first | (refine cL ?_; first | (refine cL_guard ?_; refine L_unwanted rfl rfl rfl ?_) | (refine cL_load ?_; refine L_val (R_loadA (vs := .int .i64 d.1 :: tyCells d.2.k d.2.n d.2.c d.2.b (.slice q d.2.es.length qcap) d.2.nm) rfl rfl fun j v hj => hAr.hcell (hec j v hj)) rfl rfl rfl ?_) | (refine cL_lss ?_; refine L_valB (R_ltI rfl rfl) hb rfl rfl rfl ?_) | (refine cL_indexAddr ?_; refine L_valE (R_ia rfl rfl (by omega) (by omega)) (ia7' _ _ _) rfl rfl rfl ?_)) | refine r29 ?_))
    refine L_allocS rfl rfl fun b8 w3 hn3 => ?_
    (refine r30 ?_)
    refine L_storeA (vs := .int .i64 d.1 :: tyCells d.2.k d.2.n d.2.c d.2.b (.slice q d.2.es.length qcap) d.2.nm) rfl hn3.here rfl rfl rfl rfl rfl rfl fun w4 h4 e4 s4 => ?_
    obtain ⟨H4, g4, hb8⟩ := Grow.ofNew hAr (hn3.store h4 e4 s4)
    have hAg : ∀ w', Ext No w4 w' → Agree H4 w' := fun _ he => g4.ag.ext0 he
    have hc8 := hcells_ob (cs := tyCells d.2.k d.2.n d.2.c d.2.b (.slice q d.2.es.length qcap) d.2.nm) [.int .i64 d.1] hb8
    have hsl : Value.slice (some ⟨bk, off, none⟩) ((i : Nat) : Int).toNat dcap = .slice (some ⟨bk, off, none⟩) (ds.take i).length dcap := by
      rw [List.length_take, Nat.min_eq_left (by omega)]; rfl
    have hsh := fun w' he => shaped_any d.2 _ (ds.take i) (some ⟨bk, off, none⟩) dcap 0 d.1 H4 w' (hAg w' he) (DTy.mono g4.le _ _ hdt) ((hd.mono g4.le).take i) (by rw [List.length_take]; omega)
    have hsz := fun w' he => size_any d.2 _ H4 w' (hAg w' he) (DTy.mono g4.le _ _ hdt)
    (refine r30 ?_)
    (refine G_draw No (0 :: 1 :: 2 :: 3 :: 4 :: 5 :: 6 :: 7 :: 8 :: 9 :: 10 :: 11 :: 12 :: 13 :: 14 :: 15 :: 16 :: 17 :: 18 :: 19 :: 20 :: 21 :: 22 :: 23 :: 24 :: 25 :: 26 :: 27 :: 28 :: 29 :: 30 :: 31 :: 32 :: 33 :: 34 :: 35 :: 36 :: []) [] follows (by kernel_rfl) rfl ?_)
    cases d1 : decide (d.1 < 0) with
    | true =>
      (repeat (first | (refine cD_guard ?_; refine D_unwanted rfl rfl ?_) | (refine cD_lss ?_; refine D_valB (fun _ _ => R_ltI rfl rfl) d1 rfl rfl ?_) | refine r31 hAg ?_))
      refine D_nil fun w5 hw5 => ?_
      (refine r30 ?_)
      (refine G_retF rfl ?_)
      exact ⟨_, rfl, false, rfl, hext.trans (g4.ext.trans hw5), fun h => by cases h⟩
    | false =>
    cases d2 : decide (d.1 > 8) with
    | true =>
      (repeat (first | (refine cD_guard ?_; refine D_unwanted rfl rfl ?_) | (refine cD_lss ?_; refine D_valB (fun _ _ => R_ltI rfl rfl) d1 rfl rfl ?_) | (refine cD_gtr ?_; refine D_valB (fun _ _ => R_gtI rfl rfl) d2 rfl rfl ?_) | refine r31 hAg ?_))
      refine D_nil fun w5 hw5 => ?_
      (refine r30 ?_)
      (refine G_retF rfl ?_)
      exact ⟨_, rfl, false, rfl, hext.trans (g4.ext.trans hw5), fun h => by cases h⟩
    | false =>
    cases d3 : (d.2.k == 1) with
    | true =>
      (repeat (first | (refine cD_guard ?_; refine D_unwanted rfl rfl ?_) | (refine cD_eql ?_; refine D_valB (fun _ _ => R_eqI rfl rfl) d3 rfl rfl ?_) | (refine cD_lss ?_; refine D_valB (fun _ _ => R_ltI rfl rfl) d1 rfl rfl ?_) | (refine cD_gtr ?_; refine D_valB (fun _ _ => R_gtI rfl rfl) d2 rfl rfl ?_) | refine r31 hAg ?_))
      refine D_nil fun w5 hw5 => ?_
      (refine r30 ?_)
      (refine G_retF rfl ?_)
      exact ⟨_, rfl, false, rfl, hext.trans (g4.ext.trans hw5), fun h => by cases h⟩
    | false =>
    cases d4 : (d.2.k == 3) with
    | true =>
      (repeat (first | (refine cD_guard ?_; refine D_unwanted rfl rfl ?_) | (refine cD_eql ?_; first | refine D_valB (fun _ _ => R_eqI rfl rfl) d3 rfl rfl ?_ | refine D_valB (fun _ _ => R_eqI rfl rfl) d4 rfl rfl ?_) | (refine cD_lss ?_; refine D_valB (fun _ _ => R_ltI rfl rfl) d1 rfl rfl ?_) | (refine cD_gtr ?_; refine D_valB (fun _ _ => R_gtI rfl rfl) d2 rfl rfl ?_) | refine r31 hAg ?_))
      refine D_nil fun w5 hw5 => ?_
      (refine r30 ?_)
      (refine G_retF rfl ?_)
      exact ⟨_, rfl, false, rfl, hext.trans (g4.ext.trans hw5), fun h => by cases h⟩
    | false =>
    cases d5 : shapedB (ds.take i) 0 d.1 d.2 with
    | false =>
      rw [d5] at hsh
      (repeat (first | (refine cD_guard ?_; refine D_unwanted rfl rfl ?_) | (refine cD_load ?_; refine D_val0 (fun w he => R_loadA (vs := tyCells d.2.k d.2.n d.2.c d.2.b (.slice q d.2.es.length qcap) d.2.nm) rfl rfl fun j v hj => (hAg w he).hcell (hc8 j v hj)) rfl rfl ?_) | (refine cD_call ?_; refine D_callQ (fun w he => hsh w he) rfl ?_) | (refine cD_eql ?_; first | refine D_valB (fun _ _ => R_eqI rfl rfl) d3 rfl rfl ?_ | refine D_valB (fun _ _ => R_eqI rfl rfl) d4 rfl rfl ?_) | (refine cD_lss ?_; refine D_valB (fun _ _ => R_ltI rfl rfl) d1 rfl rfl ?_) | (refine cD_gtr ?_; refine D_valB (fun _ _ => R_gtI rfl rfl) d2 rfl rfl ?_) | (refine cD_slice ?_; refine D_valE (fun _ _ => R_sliceH rfl rfl (by omega) (by omega)) hsl rfl rfl ?_) | refine r31 hAg ?_))
      refine D_nil fun w5 hw5 => ?_
      (refine r30 ?_)
      (refine G_retF rfl ?_)
      exact ⟨_, rfl, false, rfl, hext.trans (g4.ext.trans hw5), fun h => by cases h⟩
    | true =>
    have hdecl : declB ds i d = true := by simp only [declB, d1, d2, d3, d4, d5]; rfl
    rw [d5] at hsh
    cases d6 : decide (sizeW d.2 > 8) with
    | true =>
      (repeat (first | (refine cD_guard ?_; refine D_unwanted rfl rfl ?_) | (refine cD_load ?_; refine D_val0 (fun w he => R_loadA (vs := tyCells d.2.k d.2.n d.2.c d.2.b (.slice q d.2.es.length qcap) d.2.nm) rfl rfl fun j v hj => (hAg w he).hcell (hc8 j v hj)) rfl rfl ?_) | (refine cD_call ?_; first | refine D_callQ (fun w he => hsh w he) rfl ?_ | refine D_callQ (fun w he => hsz w he) rfl ?_) | (refine cD_eql ?_; first | refine D_valB (fun _ _ => R_eqI rfl rfl) d3 rfl rfl ?_ | refine D_valB (fun _ _ => R_eqI rfl rfl) d4 rfl rfl ?_) | (refine cD_lss ?_; refine D_valB (fun _ _ => R_ltI rfl rfl) d1 rfl rfl ?_) | (refine cD_gtr ?_; first | refine D_valB (fun _ _ => R_gtI rfl rfl) d2 rfl rfl ?_ | refine D_valB (fun _ _ => R_gtI rfl rfl) d6 rfl rfl ?_) | (refine cD_slice ?_; refine D_valE (fun _ _ => R_sliceH rfl rfl (by omega) (by omega)) hsl rfl rfl ?_) | refine r31 hAg ?_))
      refine D_nil fun w5 hw5 => ?_
      (refine r30 ?_)
      (refine G_retF rfl ?_)
      exact ⟨_, rfl, false, rfl, hext.trans (g4.ext.trans hw5), fun h => by cases h⟩
    | false =>
      (repeat (first | (refine cD_guard ?_; refine D_unwanted rfl rfl ?_) | (refine cD_load ?_; refine D_val0 (fun w he => R_loadA (vs := tyCells d.2.k d.2.n d.2.c d.2.b (.slice q d.2.es.length qcap) d.2.nm) rfl rfl fun j v hj => (hAg w he).hcell (hc8 j v hj)) rfl rfl ?_) | (refine cD_call ?_; first | refine D_callQ (fun w he => hsh w he) rfl ?_ | refine D_callQ (fun w he => hsz w he) rfl ?_) | (refine cD_eql ?_; first | refine D_valB (fun _ _ => R_eqI rfl rfl) d3 rfl rfl ?_ | refine D_valB (fun _ _ => R_eqI rfl rfl) d4 rfl rfl ?_) | (refine cD_lss ?_; refine D_valB (fun _ _ => R_ltI rfl rfl) d1 rfl rfl ?_) | (refine cD_gtr ?_; first | refine D_valB (fun _ _ => R_gtI rfl rfl) d2 rfl rfl ?_ | refine D_valB (fun _ _ => R_gtI rfl rfl) d6 rfl rfl ?_) | (refine cD_slice ?_; refine D_valE (fun _ _ => R_sliceH rfl rfl (by omega) (by omega)) hsl rfl rfl ?_) | refine r31 hAg ?_))
      refine D_nil fun w5 hw5 => ?_
      (repeat (first | (refine cL ?_; first | (refine cL_guard ?_; refine L_unwanted rfl rfl rfl ?_) | (refine cL_add ?_; refine L_valE (R_addI rfl rfl) (succ_i64 h (by omega)) rfl rfl rfl ?_)) | refine r29 ?_))
      refine G_inv ⟨⟨rfl, hext.trans (g4.ext.trans hw5), _, i + 1, with_self ⟨rfl, rfl, rfl, rfl, rfl, rfl, trivial⟩, h, fun j dj hj hdj => ?_⟩, ?_⟩
      · rcases Nat.lt_succ_iff_lt_or_eq.1 hj with hj | rfl
        · exact hJ j dj hj hdj
        · rw [hdi] at hdj
          injection hdj with hdj
          subst hdj
          exact hdecl
      · show ((ds.length : Int) - ((i + 1 : Nat) : Int)).toNat < ((ds.length : Int) - (i : Int)).toNat
        omega
  · have hb : decide ((i : Int) < (ds.length : Int)) = false := decide_eq_false (by omega)
    have hdd : ∀ (j : Nat) (d : Int × Ty), ds[j]? = some d → 0 ≤ d.1 ∧ d.1 ≤ 8 ∧ d.2.k ≠ 1 ∧ d.2.k ≠ 3 ∧ shapedB (ds.take j) 0 d.1 d.2 = true := fun j d hdj => by
      have h1 := hJ j d (by have := (List.getElem?_eq_some_iff.1 hdj).1; omega) hdj
      simp only [declB, Bool.and_eq_true, Bool.not_eq_true', decide_eq_false_iff_not, beq_eq_false_iff_ne] at h1
      exact ⟨by omega, by omega, h1.2.2.1, h1.2.2.2.1, h1.2.2.2.2⟩
    clear hJ hi
    (repeat (first | (refine cL ?_; first | (refine cL_guard ?_; refine L_unwanted rfl rfl rfl ?_) | (refine cL_lss ?_; refine L_valB (R_ltI rfl rfl) hb rfl rfl rfl ?_)) | refine G_exit rfl ?_ | refine r29 ?_))
    refine G_loop (CountI 74 73 ts.length [(0, .slice p ds.length dcap), (1, .int .i64 params), (2, .slice pl ts.length lcap), (72, .slice pl ts.length lcap)] w fun i => ∀ j t, j < i → ts[j]? = some t → shapedB ds params 0 t = true ∧ sizeW t ≤ 15) (fun f _ _ => countM 74 73 f)
      ⟨rfl, hext, _, 0, with_self ⟨rfl, rfl, rfl, rfl, rfl, rfl, trivial⟩, Nat.zero_le _, fun j d hj => absurd hj (Nat.not_lt_zero j)⟩ ?_
    clear hext hAr
    rintro f ds0 wr2 ⟨rfl, hext, f1, i2, rfl, hi2, hJ2⟩
    have hAr := hA.ext0 hext
    by_cases h2 : i2 < ts.length
    · have hb2 : decide ((i2 : Int) < (ts.length : Int)) = true := decide_eq_true (by omega)
      obtain ⟨t, hti⟩ : ∃ v, ts[i2]? = some v := ⟨_, List.getElem?_eq_getElem h2⟩
      obtain ⟨bk, off, tcs, rfl, hec, hdt⟩ := ht.get hti
      obtain ⟨q, qcap, rfl, -, -, -, hqb, -⟩ := hdt.cells
      (repeat (first | (refine cL ?_; first | (refine cL_guard ?_; refine L_unwanted rfl rfl rfl ?_) | (refine cL_load ?_; refine L_val (R_loadA rfl rfl fun j v hj => hAr.hcell (hec j v hj)) rfl rfl rfl ?_) | (refine cL_lss ?_; refine L_valB (R_ltI rfl rfl) hb2 rfl rfl rfl ?_) | (refine cL_indexAddr ?_; refine L_valE (R_ia rfl rfl (by omega) (by omega)) (ia6 _ _ _) rfl rfl rfl ?_)) | refine r29 ?_))
      refine L_allocS rfl rfl fun b10 w3 hn3 => ?_
      refine L_storeA rfl hn3.here rfl rfl rfl rfl rfl rfl fun w4 h4 e4 s4 => ?_
      obtain ⟨H4, g4, hb10⟩ := Grow.ofNew hAr (hn3.store h4 e4 s4)
      have hsh := shaped_any t _ ds p dcap params 0 H4 w4 g4.ag (DTy.mono g4.le _ _ hdt) (hd.mono g4.le) hdl
      (repeat (first | (refine cL ?_; first | (refine cL_guard ?_; refine L_unwanted rfl rfl rfl ?_) | (refine cL_load ?_; refine L_val (R_loadAB rfl rfl (g4.ag _ _ hb10)) rfl rfl rfl ?_)) | refine r29 ?_))
      cases d5 : shapedB ds params 0 t with
      | false =>
        rw [d5] at hsh
        refine L_callQ hsh rfl rfl fun w5 hw5 => ?_
        (refine r30 ?_)
        (refine G_retF rfl ?_)
        exact ⟨_, rfl, false, rfl, hext.trans (g4.ext.trans hw5), fun h => by cases h⟩
      | true =>
        rw [d5] at hsh
        refine L_callQ hsh rfl rfl fun w5 hw5 => ?_
        have hA5 := g4.ag.ext0 hw5
        have hsz := size_any t _ H4 w5 hA5 (DTy.mono g4.le _ _ hdt)
        (repeat (first | (refine cL ?_; first | (refine cL_guard ?_; refine L_unwanted rfl rfl rfl ?_) | (refine cL_load ?_; refine L_val (R_loadAB rfl rfl (hA5 _ _ hb10)) rfl rfl rfl ?_)) | refine r29 ?_))
        refine L_callQ hsz rfl rfl fun w6 hw6 => ?_
        cases d6 : decide (sizeW t > 15) with
        | true =>
          (repeat (first | (refine cL ?_; first | (refine cL_guard ?_; refine L_unwanted rfl rfl rfl ?_) | (refine cL_gtr ?_; refine L_valB (R_gtI rfl rfl) d6 rfl rfl rfl ?_)) | refine r29 ?_))
          (refine G_retF rfl ?_)
          exact ⟨_, rfl, false, rfl, hext.trans (g4.ext.trans (hw5.trans hw6)), fun h => by cases h⟩
        | false =>
          (repeat (first | (refine cL ?_; first | (refine cL_guard ?_; refine L_unwanted rfl rfl rfl ?_) | (refine cL_add ?_; refine L_valE (R_addI rfl rfl) (succ_i64 h2 (by omega)) rfl rfl rfl ?_) | (refine cL_gtr ?_; refine L_valB (R_gtI rfl rfl) d6 rfl rfl rfl ?_)) | refine r29 ?_))
          refine G_inv ⟨⟨rfl, hext.trans (g4.ext.trans (hw5.trans hw6)), _, i2 + 1, with_self ⟨rfl, rfl, rfl, rfl, rfl, rfl, trivial⟩, h2, fun j tj hj htj => ?_⟩, ?_⟩
          · rcases Nat.lt_succ_iff_lt_or_eq.1 hj with hj | rfl
            · exact hJ2 j tj hj htj
            · rw [hti] at htj
              injection htj with htj
              subst htj
              exact ⟨d5, by have := of_decide_eq_false d6; omega⟩
          · show ((ts.length : Int) - ((i2 + 1 : Nat) : Int)).toNat < ((ts.length : Int) - (i2 : Int)).toNat
            omega
    · have hb2 : decide ((i2 : Int) < (ts.length : Int)) = false := decide_eq_false (by omega)
      have htt : ∀ (j : Nat) (t : Ty), ts[j]? = some t → shapedB ds params 0 t = true ∧ sizeW t ≤ 15 := fun j t htj => hJ2 j t (by have := (List.getElem?_eq_some_iff.1 htj).1; omega) htj
      clear hJ2 hi2
      have hdecls : DeclsOK ds := fun n d hnd => let h := hdd n d hnd; ⟨h.1, h.2.2.2.2⟩
      (repeat (first | (refine cL ?_; first | (refine cL_guard ?_; refine L_unwanted rfl rfl rfl ?_) | (refine cL_lss ?_; refine L_valB (R_ltI rfl rfl) hb2 rfl rfl rfl ?_) | (refine cL_build ?_; refine L_val (R_build (cs := [.slice p ds.length dcap, .int .i64 100000]) rfl) rfl rfl rfl ?_)) | refine G_exit rfl ?_ | refine r29 ?_))
      refine L_box rfl rfl rfl fun bB w5 hn5 => ?_
      have hHB : H bB = none := by
        cases hh : H bB with
        | none => rfl
        | some o =>
          have := hAr.lt hh
          have := hn5.fresh
          omega
      have hxs : ∀ w0, Ext (fun b => b = bB) w5 w0 → Ext No w w0 := fun w0 he => (hext.trans hn5.ext).trans_new he fun j hj hm => by
        have := hn5.fresh
        have := hext.size
        omega
      have hAs : ∀ w0, Ext (fun b => b = bB) w5 w0 → Agree H w0 := fun w0 he => hA.ext0 (hxs w0 he)
      (refine r30 ?_)
      refine G_loop (fun f ds0 w0 => ds0 = [] ∧ ∃ (f0 : Fm) (i : Nat) (F : Int), f = with_ [(94, .int .i64 (i : Int)), (93, .int .i64 (ds.length : Int)), (2, .slice pl ts.length lcap), (11, ptr bB), (92, .slice p ds.length dcap)] f0 ∧ i ≤ ds.length ∧ Ext (fun b => b = bB) w5 w0 ∧
          w0.heap[bB]? = some (Ob [.slice p ds.length dcap, .int .i64 F] 50) ∧ F ≤ 100000 ∧ -(100000 * 4398046511104) - (i : Int) ≤ F) (fun f _ _ => countM 94 93 f)
        ⟨rfl, _, 0, 100000, with_self ⟨rfl, rfl, rfl, rfl, rfl, trivial⟩, Nat.zero_le _, Ext.refl _ _, hn5.here, by omega, by omega⟩ ?_
      rintro f ds0 wr3 ⟨rfl, f3, i3, F, rfl, hi3, hext3, hB3, hF1, hF2⟩
      have hAr3 := hAs wr3 hext3
      by_cases h3 : i3 < ds.length
      · have hb3 : decide ((i3 : Int) < (ds.length : Int)) = true := decide_eq_true (by omega)
        obtain ⟨d, hdi⟩ : ∃ v, ds[i3]? = some v := ⟨_, List.getElem?_eq_getElem h3⟩
        obtain ⟨bk, off, tcs, rfl, hec, hdt, hdk⟩ := hd _ _ hdi
        obtain ⟨q, qcap, rfl, -, -, -, hqb, -⟩ := hdt.cells
        obtain ⟨hd0, hdsh⟩ := hdecls _ _ hdi
        (repeat (first | (refine cL ?_; first | (refine cL_guard ?_; refine L_unwanted rfl rfl rfl ?_) | (refine cL_load ?_; refine L_val (R_loadA (vs := .int .i64 d.1 :: tyCells d.2.k d.2.n d.2.c d.2.b (.slice q d.2.es.length qcap) d.2.nm) rfl rfl fun j v hj => hAr3.hcell (hec j v hj)) rfl rfl rfl ?_) | (refine cL_lss ?_; refine L_valB (R_ltI rfl rfl) hb3 rfl rfl rfl ?_) | (refine cL_indexAddr ?_; refine L_valE (R_ia rfl rfl (by omega) (by omega)) (ia7' _ _ _) rfl rfl rfl ?_)) | refine r29 ?_))
        refine L_allocS rfl rfl fun b13 w6 hn6 => ?_
        refine L_storeA (vs := .int .i64 d.1 :: tyCells d.2.k d.2.n d.2.c d.2.b (.slice q d.2.es.length qcap) d.2.nm) rfl hn6.here rfl rfl rfl rfl rfl rfl fun w7 h7 e7 s7 => ?_
        have hn7 := hn6.store h7 e7 s7
        obtain ⟨H7, g7, hb13⟩ := Grow.ofNew hAr3 hn7
        have hB7 := hn7.ext.heap (fun h => h) hB3
        have hHB7 : H7 bB = none := by
          cases hh : H7 bB with
          | none => rfl
          | some o =>
            have hl := lt_of_heap hB3
            rcases g7.new bB o hh with h | h
            · rw [hHB] at h; cases h
            · omega
        have hc13 := hcells_ob (cs := tyCells d.2.k d.2.n d.2.c d.2.b (.slice q d.2.es.length qcap) d.2.nm) [.int .i64 d.1] hb13
        have hA7 := g7.ag
        cases d1 : (d.1 == 0) with
        | false =>
          (repeat (first | (refine cL ?_; first | (refine cL_guard ?_; refine L_unwanted rfl rfl rfl ?_) | (refine cL_eql ?_; refine L_valB (R_eqI rfl rfl) d1 rfl rfl rfl ?_) | (refine cL_add ?_; refine L_valE (R_addI rfl rfl) (succ_i64 h3 (by omega)) rfl rfl rfl ?_)) | refine r29 ?_))
          refine G_inv ⟨⟨rfl, _, i3 + 1, F, with_self ⟨rfl, rfl, rfl, rfl, rfl, trivial⟩, h3, hext3.trans hn7.ext.of_no, hB7, hF1, by omega⟩, ?_⟩
          show ((ds.length : Int) - ((i3 + 1 : Nat) : Int)).toNat < ((ds.length : Int) - (i3 : Int)).toNat
          omega
        | true =>
          have hbu := build_any (p := some ⟨bk, off, none⟩) (dcap := dcap) (bB := bB) hdecls hdl i3 (by omega) d.2 0 d.1 hd0 hdsh _ H7 w7 F (.slice none 0 0) [] hA7 (DTy.mono g7.le _ _ hdt) (hd.mono g7.le) hHB7 hB7 (OwnI.nil _ _) hF1 (by omega)
          (repeat (first | (refine cL ?_; first | (refine cL_guard ?_; refine L_unwanted rfl rfl rfl ?_) | (refine cL_load ?_; refine L_val (R_loadA (vs := tyCells d.2.k d.2.n d.2.c d.2.b (.slice q d.2.es.length qcap) d.2.nm) rfl rfl fun j v hj => hA7.hcell (hc13 j v hj)) rfl rfl rfl ?_) | (refine cL_eql ?_; refine L_valB (R_eqI rfl rfl) d1 rfl rfl rfl ?_)) | refine r29 ?_))
          refine L_callR hbu rfl rfl fun v8 w8 ⟨k, F', hv8, hk0, hk1, hsp, hB8, hx8⟩ => ?_
          subst hv8
          have hsp1 := hsp.le
          have hsp3 := hsp.dead
          have hsp4 := hsp.low
          (repeat (first | (refine cL ?_; first | (refine cL_guard ?_; refine L_unwanted rfl rfl rfl ?_) | (refine cL_add ?_; refine L_valE (R_addI rfl rfl) (succ_i64 h3 (by omega)) rfl rfl rfl ?_)) | refine r29 ?_))
          refine G_inv ⟨⟨rfl, _, i3 + 1, F', with_self ⟨rfl, rfl, rfl, rfl, rfl, trivial⟩, h3, (hext3.trans hn7.ext.of_no).trans hx8, hB8, by omega, by omega⟩, ?_⟩
          show ((ds.length : Int) - ((i3 + 1 : Nat) : Int)).toNat < ((ds.length : Int) - (i3 : Int)).toNat
          omega
      · have hb3 : decide ((i3 : Int) < (ds.length : Int)) = false := decide_eq_false (by omega)
        (repeat (first | (refine cL ?_; first | (refine cL_guard ?_; refine L_unwanted rfl rfl rfl ?_) | (refine cL_lss ?_; refine L_valB (R_ltI rfl rfl) hb3 rfl rfl rfl ?_)) | refine G_exit rfl ?_ | refine r29 ?_))
        refine G_loop (fun f ds0 w0 => ds0 = [] ∧ ∃ (f0 : Fm) (i : Nat) (F : Int), f = with_ [(108, .int .i64 (i : Int)), (107, .int .i64 (ts.length : Int)), (11, ptr bB), (106, .slice pl ts.length lcap)] f0 ∧ i ≤ ts.length ∧ Ext (fun b => b = bB) w5 w0 ∧
            w0.heap[bB]? = some (Ob [.slice p ds.length dcap, .int .i64 F] 50) ∧ F ≤ 100000 ∧ -(100000 * 4398046511104) - 16 - (i : Int) ≤ F ∧ (0 < F → ∀ (j : Nat) (t : Ty), j < i → ts[j]? = some t → Ty.size t ≤ 100000)) (fun f _ _ => countM 108 107 f)
          ⟨rfl, _, 0, F, with_self ⟨rfl, rfl, rfl, rfl, trivial⟩, Nat.zero_le _, hext3, hB3, by omega, by omega, fun _ j t hj => absurd hj (Nat.not_lt_zero j)⟩ ?_
        clear hB3 hF1 hF2 hAr3 hext3
        rintro f ds0 wr4 ⟨rfl, f4, i4, F4, rfl, hi4, hext4, hB4, hF1, hF2, hF3⟩
        have hAr4 := hAs wr4 hext4
        by_cases h4 : i4 < ts.length
        · have hb4 : decide ((i4 : Int) < (ts.length : Int)) = true := decide_eq_true (by omega)
          obtain ⟨t, hti⟩ : ∃ v, ts[i4]? = some v := ⟨_, List.getElem?_eq_getElem h4⟩
          obtain ⟨bk, off, tcs, rfl, hec, hdt⟩ := ht.get hti
          obtain ⟨q, qcap, rfl, -, -, -, hqb, -⟩ := hdt.cells
          (repeat (first | (refine cL ?_; first | (refine cL_guard ?_; refine L_unwanted rfl rfl rfl ?_) | (refine cL_load ?_; refine L_val (R_loadA rfl rfl fun j v hj => hAr4.hcell (hec j v hj)) rfl rfl rfl ?_) | (refine cL_lss ?_; refine L_valB (R_ltI rfl rfl) hb4 rfl rfl rfl ?_) | (refine cL_indexAddr ?_; refine L_valE (R_ia rfl rfl (by omega) (by omega)) (ia6 _ _ _) rfl rfl rfl ?_)) | refine r29 ?_))
          refine L_allocS rfl rfl fun b15 w6 hn6 => ?_
          refine L_storeA rfl hn6.here rfl rfl rfl rfl rfl rfl fun w7 h7 e7 s7 => ?_
          have hn7 := hn6.store h7 e7 s7
          obtain ⟨H7, g7, hb15⟩ := Grow.ofNew hAr4 hn7
          have hB7 := hn7.ext.heap (fun h => h) hB4
          have hHB7 : H7 bB = none := by
            cases hh : H7 bB with
            | none => rfl
            | some o =>
              have hl := lt_of_heap hB4
              rcases g7.new bB o hh with h | h
              · rw [hHB] at h; cases h
              · omega
          have htake : ds.take ds.length = ds := List.take_length
          have hbu := build_any (p := p) (dcap := dcap) (bB := bB) hdecls hdl ds.length (Nat.le_refl _) t params 0 (by omega) (by rw [htake]; exact (htt _ _ hti).1) _ H7 w7 F4 (.slice none 0 0) [] g7.ag (DTy.mono g7.le _ _ hdt) (hd.mono g7.le) hHB7 hB7 (OwnI.nil _ _) hF1 (by omega)
          (repeat (first | (refine cL ?_; first | (refine cL_guard ?_; refine L_unwanted rfl rfl rfl ?_) | (refine cL_load ?_; refine L_val (R_loadAB rfl rfl (g7.ag _ _ hb15)) rfl rfl rfl ?_)) | refine r29 ?_))
          refine L_callR hbu rfl rfl fun v8 w8 ⟨k, F', hv8, hk0, hk1, hsp, hB8, hx8⟩ => ?_
          subst hv8
          have hsp1 := hsp.le
          have hsp2 := hsp.pos
          have hsp3 := hsp.dead
          have hsp4 := hsp.low
          (repeat (first | (refine cL ?_; first | (refine cL_guard ?_; refine L_unwanted rfl rfl rfl ?_) | (refine cL_add ?_; refine L_valE (R_addI rfl rfl) (succ_i64 h4 (by omega)) rfl rfl rfl ?_)) | refine r29 ?_))
          refine G_inv ⟨⟨rfl, _, i4 + 1, F', with_self ⟨rfl, rfl, rfl, rfl, trivial⟩, h4, (hext4.trans hn7.ext.of_no).trans hx8, hB8, by omega, by omega, fun hf j tj hj htj => ?_⟩, ?_⟩
          · have := hsp2 hf
            rcases Nat.lt_succ_iff_lt_or_eq.1 hj with hj | rfl
            · exact hF3 (by omega) j tj hj htj
            · rw [hti] at htj
              injection htj with htj
              subst htj
              omega
          · show ((ts.length : Int) - ((i4 + 1 : Nat) : Int)).toNat < ((ts.length : Int) - (i4 : Int)).toNat
            omega
        · have hb4 : decide ((i4 : Int) < (ts.length : Int)) = false := decide_eq_false (by omega)
          (repeat (first | (refine cL ?_; first | (refine cL_guard ?_; refine L_unwanted rfl rfl rfl ?_) | (refine cL_lss ?_; refine L_valB (R_ltI rfl rfl) hb4 rfl rfl rfl ?_)) | refine G_exit rfl ?_ | refine r29 ?_))
          (refine G_retF rfl ?_)
          refine ⟨_, rfl, _, rfl, hxs wr4 hext4, fun hh => ?_⟩
          have hf : 0 < F4 := of_decide_eq_true hh
          refine ⟨hp0, hp8, hd16, hdd, fun t htm => ?_⟩
          obtain ⟨j, hj⟩ := List.mem_iff_getElem?.1 htm
          obtain ⟨ht1, ht2⟩ := htt j t hj
          have hb := hF3 hf j t (by have := (List.getElem?_eq_some_iff.1 hj).1; omega) hj
          rw [sizeW_small t (by omega)] at ht2
          exact ⟨ht1, by omega⟩
end Go.Proofs.YtjilnjifegeceaaGreatDoor

/-
  The package's constructors that only lay a block.
-/
namespace Go.Proofs.YtjilnjifegeceaaGreatDoor
set_option maxRecDepth 100000
set_option maxHeartbeats 4000000
attribute [local irreducible] Calls execOp

theorem r32 {G G' : Prop} (k : G') (h : Hid G' → G := by intro k_; (first | (refine cL ?_; first | (refine cL_move ?_; refine L_val R_move rfl rfl rfl ?_) | (refine cL_assign ?_; refine L_val R_assign rfl rfl rfl ?_) | refine L_nil ?_) | refine G_seq ?_ | refine G_region ?_ | refine G_skip ?_ | refine G_block ?_ | refine G_end ?_ | refine G_true rfl ?_ | refine G_false rfl ?_); exact k_.out) : G := h ⟨k⟩
theorem r33 {G G' : Prop} (k : G') (h : Hid G' → G := by intro k_; (repeat (first | (refine cL ?_; first | (refine cL_move ?_; refine L_val R_move rfl rfl rfl ?_) | (refine cL_assign ?_; refine L_val R_assign rfl rfl rfl ?_) | refine L_nil ?_) | refine G_seq ?_ | refine G_region ?_ | refine G_skip ?_ | refine G_block ?_ | refine G_end ?_ | refine G_true rfl ?_ | refine G_false rfl ?_)); exact k_.out) : G := h ⟨k⟩

/-- a pointer to a new block of these cells -/
def NewP (cs : List Value) (T : Nat) (w : World) : Value → World → Prop := fun r w' => ∃ b, r = ptr b ∧ NewB w w' b (Ob cs T)

theorem newPointer_any (T : Nat) (x : Value) (w : World) : Calls Tryz.prog 40 #[.iface T x] w (Ret (NewP [.iface T x] 191 w)) := by
  (refine calls_enter Tryz.func40 Tryz.ntmps40 rfl rfl ?_)
  (repeat (first | (refine cL ?_; first | (refine cL_build ?_; refine L_val (R_build (cs := [.iface T x]) rfl) rfl rfl rfl ?_)) | refine r32 ?_))
  refine L_box rfl rfl rfl fun b w1 hn => ?_
  (refine r33 ?_)
  (refine G_retF rfl ?_)
  exact ⟨_, rfl, b, rfl, hn⟩

theorem newSlice_any (T : Nat) (x : Value) (w : World) : Calls Tryz.prog 41 #[.iface T x] w (Ret (NewP [.iface T x] 179 w)) := by
  (refine calls_enter Tryz.func41 Tryz.ntmps41 rfl rfl ?_)
  (repeat (first | (refine cL ?_; first | (refine cL_build ?_; refine L_val (R_build (cs := [.iface T x]) rfl) rfl rfl rfl ?_)) | refine r32 ?_))
  refine L_box rfl rfl rfl fun b w1 hn => ?_
  (refine r33 ?_)
  (refine G_retF rfl ?_)
  exact ⟨_, rfl, b, rfl, hn⟩

theorem newArray_any (T : Nat) (x : Value) (n : Int) (w : World) : Calls Tryz.prog 42 #[.iface T x, .int .i64 n] w (Ret (NewP [.int .i64 n, .iface T x] 176 w)) := by
  (refine calls_enter Tryz.func42 Tryz.ntmps42 rfl rfl ?_)
  (repeat (first | (refine cL ?_; first | (refine cL_build ?_; refine L_val (R_build (cs := [.int .i64 n, .iface T x]) rfl) rfl rfl rfl ?_)) | refine r32 ?_))
  refine L_box rfl rfl rfl fun b w1 hn => ?_
  (refine r33 ?_)
  (refine G_retF rfl ?_)
  exact ⟨_, rfl, b, rfl, hn⟩

theorem newMap_any (T U : Nat) (x y : Value) (w : World) : Calls Tryz.prog 43 #[.iface T x, .iface U y] w (Ret (NewP [.iface T x, .iface U y] 212 w)) := by
  (refine calls_enter Tryz.func43 Tryz.ntmps43 rfl rfl ?_)
  (repeat (first | (refine cL ?_; first | (refine cL_build ?_; refine L_val (R_build (cs := [.iface T x, .iface U y]) rfl) rfl rfl rfl ?_)) | refine r32 ?_))
  refine L_box rfl rfl rfl fun b w1 hn => ?_
  (refine r33 ?_)
  (refine G_retF rfl ?_)
  exact ⟨_, rfl, b, rfl, hn⟩

theorem newChan_any (T : Nat) (x : Value) (n : Int) (w : World) : Calls Tryz.prog 44 #[.int .i64 n, .iface T x] w (Ret (NewP [.int .i64 n, .iface T x] 215 w)) := by
  (refine calls_enter Tryz.func44 Tryz.ntmps44 rfl rfl ?_)
  (repeat (first | (refine cL ?_; first | (refine cL_build ?_; refine L_val (R_build (cs := [.int .i64 n, .iface T x]) rfl) rfl rfl rfl ?_)) | refine r32 ?_))
  refine L_box rfl rfl rfl fun b w1 hn => ?_
  (refine r33 ?_)
  (refine G_retF rfl ?_)
  exact ⟨_, rfl, b, rfl, hn⟩

theorem newPackage_any (s t : ByteArray) (w : World) : Calls Tryz.prog 28 #[.string s, .string t] w (Ret (NewP [.string s, .string t] 119 w)) := by
  (refine calls_enter Tryz.func28 Tryz.ntmps28 rfl rfl ?_)
  (repeat (first | (refine cL ?_; first | (refine cL_build ?_; refine L_val (R_build (cs := [.string s, .string t]) rfl) rfl rfl rfl ?_)) | refine r32 ?_))
  refine L_box rfl rfl rfl fun b w1 hn => ?_
  (refine r33 ?_)
  (refine G_retF rfl ?_)
  exact ⟨_, rfl, b, rfl, hn⟩

theorem direction_any (n : Int) (w : World) (h0 : 0 ≤ n) (h3 : n < 3) : Calls Tryz.prog 45 #[.int .i64 n] w (Ret (Is (.int .i64 n) w)) := by
  rcases (show n = 0 ∨ n = 1 ∨ n = 2 by omega) with rfl | rfl | rfl
  · (refine calls_enter Tryz.func45 Tryz.ntmps45 rfl rfl ?_)
    (refine r14 ?_)
    (refine G_retF rfl ?_)
    exact ⟨_, rfl, rfl, rfl⟩
  · (refine calls_enter Tryz.func45 Tryz.ntmps45 rfl rfl ?_)
    (refine r14 ?_)
    (refine G_retF rfl ?_)
    exact ⟨_, rfl, rfl, rfl⟩
  · (refine calls_enter Tryz.func45 Tryz.ntmps45 rfl rfl ?_)
    (refine r14 ?_)
    (refine G_retF rfl ?_)
    exact ⟨_, rfl, rfl, rfl⟩

theorem newVar_any (k n : Int) (pk : Option Addr) (s : ByteArray) (T : Nat) (x : Value) (w : World) : Calls Tryz.prog 55 #[.int .u8 k, .int .i64 n, .pointer pk, .string s, .iface T x] w (Ret (NewP [.int .i64 n, .pointer pk, .string s, .iface T x, .int .u8 k, .bool false] 186 w)) := by
  (refine calls_enter Tryz.func55 Tryz.ntmps55 rfl rfl ?_)
  (repeat (first | (refine cL ?_; first | (refine cL_build ?_; first | refine L_val (R_build (cs := [.int .i64 n, .pointer pk, .string s, .iface T x]) rfl) rfl rfl rfl ?_ | refine L_val (R_build (cs := [.int .i64 n, .pointer pk, .string s, .iface T x, .int .u8 k, .bool false]) rfl) rfl rfl rfl ?_)) | refine r32 ?_))
  refine L_box rfl rfl rfl fun b w1 hn => ?_
  (refine r33 ?_)
  (refine G_retF rfl ?_)
  exact ⟨_, rfl, b, rfl, hn⟩
end Go.Proofs.YtjilnjifegeceaaGreatDoor

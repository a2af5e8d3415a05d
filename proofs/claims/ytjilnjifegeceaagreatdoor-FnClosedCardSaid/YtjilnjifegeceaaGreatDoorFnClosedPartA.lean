/-
  A part of the proof that laws.FnClosed returns true at every input: the walk's own rules and the contracts of functions, in build order.
  Its conditions are those of the statement: see the last text.
-/
import Derived.Orders
import Derived.Still
import Derived.Defers
import Derived.Laws.Entries
import Derived.KernelRfl
import Derived.Tactics2
import Derived.TacticsIn
import Derived.RangeFuncLeaves
import Derived.RangeFuncRecord
import Derived.Laws.Build
import Derived.Laws.NewBlocks
import Derived.Test.YtjilnjifegeceaaGreatDoorProg
import Derived.Laws.Strings

/-
  The walk's own rules: a frame is a function from slots to values; regions are walked one operation at a time; a region that draws its order is walked in one order, its operations checked apart. It speaks of no program.
-/
namespace Go.Proofs.YtjilnjifegeceaaGreatDoor

/-- a hypothesis that no search takes for its own -/
structure Hid (p : Prop) : Prop where
  out : p

/-! ### frames -/

abbrev Fm := Nat → Value

def upd (f : Fm) (d : Nat) (v : Value) : Fm := fun t => bif Nat.beq t d then v else f t

def ev (f : Fm) : Operand → Value
  | .tmp t => f t
  | .const v => v
  | .global g => .pointer (some ⟨g, 0, none⟩)
  | .func g => .func (.func g) #[] #[]

def argF : List Value → Fm
  | [], _ => undef
  | v :: _, 0 => v
  | _ :: l, t + 1 => argF l t

structure Rp (n : Nat) (f : Fm) (ds : List Deferred) (a : Act) : Prop where
  size : a.tmps.size = n
  get : ∀ t, a.tmps.getD t undef = f t
  defers : a.defers = ds

theorem Rp.eval {n : Nat} {f : Fm} {ds : List Deferred} {a : Act} (h : Rp n f ds a) : a.eval = ev f := by
  funext x
  cases x with
  | tmp t => exact h.get t
  | const v => rfl
  | global g => rfl
  | func g => rfl

theorem upd_same (f : Fm) (d : Nat) (v : Value) : upd f d v d = v := by simp [upd]
theorem upd_ne (f : Fm) {d t : Nat} (v : Value) (h : t ≠ d) : upd f d v t = f t := by
  have : Nat.beq t d = false := by
    cases hb : Nat.beq t d with
    | false => rfl
    | true => exact absurd (Nat.eq_of_beq_eq_true hb) h
  simp [upd, this]

theorem Rp.put {n : Nat} {f : Fm} {ds : List Deferred} {a : Act} (h : Rp n f ds a) {d : Nat} (hd : Nat.blt d n = true) (v : Value) :
    Rp n (upd f d v) ds (a.put (some d) v) := by
  have hd' : d < n := by
    have h1 : d + 1 ≤ n := by simpa [Nat.blt] using hd
    omega
  refine ⟨by simp [Act.put, h.size], fun t => ?_, h.defers⟩
  show (a.tmps.setIfInBounds d v).getD t undef = _
  by_cases ht : t = d
  · subst ht
    have hlt : t < a.tmps.size := by rw [h.size]; exact hd'
    rw [upd_same]
    simp [Array.getD, hlt]
  · rw [upd_ne f v ht, ← h.get t]
    simp [Array.getD_eq_getD_getElem?, Array.getElem?_setIfInBounds_ne (Ne.symm ht)]

/-- what a guard's operation has yielded -/
def ylds (ops : List Oper) (f : Fm) (j : Nat) : Option Bool :=
  match (ops[j]?).bind (·.dst) with
  | some d => (match f d with | .bool b => some b | _ => none)
  | none => none

theorem Rp.yielded {n : Nat} {f : Fm} {ds : List Deferred} {a : Act} (h : Rp n f ds a) (ops : List Oper) (j : Nat) :
    yielded ops.toArray a.tmps j = ylds ops f j := by
  unfold Go.yielded ylds
  have e : (ops.toArray)[j]? = ops[j]? := by simp
  rw [e]
  cases hd : (ops[j]?).bind (·.dst) with
  | none => simp
  | some d =>
    simp only [Option.bind_some]
    have hg := h.get d
    rw [Array.getD_eq_getD_getElem?] at hg
    cases ht : a.tmps[d]? with
    | none =>
      rw [ht] at hg
      simp only [Option.getD_none] at hg
      rw [← hg]
      rfl
    | some v =>
      rw [ht] at hg
      simp only [Option.getD_some] at hg
      rw [hg]
      cases f d <;> rfl

/-- is it carried out? -/
def wantd (ops : List Oper) (f : Fm) (o : Oper) : Bool :=
  match o.guard with
  | none => true
  | some (j, b) => ylds ops f j == some b

theorem Rp.wanted {n : Nat} {f : Fm} {ds : List Deferred} {a : Act} (h : Rp n f ds a) (ops : List Oper) (o : Oper) :
    Region.wanted o (Go.yielded ops.toArray a.tmps) = wantd ops f o := by
  unfold Region.wanted wantd
  cases o.guard with
  | none => rfl
  | some g => obtain ⟨j, b⟩ := g; simp only [h.yielded]

/-! ### code: a stack of things to do -/

abbrev Post := Exit → Fm → List Deferred → World → Prop

def lift (n : Nat) (Q : Post) : Exit → Act → World → Prop := fun e a w => ∃ f ds, Rp n f ds a ∧ Q e f ds w

def WC (P : Program) (n : Nat) (c : Code) (Q : Post) (f : Fm) (ds : List Deferred) (w : World) : Prop :=
  ∀ a, Rp n f ds a → c.wp P (lift n Q) a w

inductive It where
  | code (c : Code)
  | blk (id : Nat)
  | inv (J : Fm → List Deferred → World → Prop)

def H (P : Program) (n : Nat) : List It → Post → Post
  | [], Q, e => Q e
  | .code c :: k, Q, .normal => WC P n c (H P n k Q)
  | .code _ :: k, Q, e => H P n k Q e
  | .blk id :: k, Q, .exit id' => if id' = id then H P n k Q .normal else H P n k Q (.exit id')
  | .blk _ :: k, Q, e => H P n k Q e
  | .inv J :: _, _, .normal => J
  | .inv _ :: k, Q, e => H P n k Q e

def G (P : Program) (n : Nat) (k : List It) (Q : Post) (f : Fm) (ds : List Deferred) (w : World) : Prop := H P n k Q .normal f ds w

section
variable {P : Program} {n : Nat} {k : List It} {Q : Post} {f : Fm} {ds : List Deferred} {w : World}

theorem G_def : G P n k Q f ds w = H P n k Q .normal f ds w := rfl
theorem G_code {c : Code} (h : ∀ a, Rp n f ds a → c.wp P (lift n (H P n k Q)) a w) : G P n (.code c :: k) Q f ds w := h

theorem H_ret : ∀ (k : List It), H P n k Q .ret = Q .ret
  | [] => rfl
  | .code _ :: k => H_ret k
  | .blk _ :: k => H_ret k
  | .inv _ :: k => H_ret k

theorem G_nil (h : Q .normal f ds w) : G P n [] Q f ds w := h

theorem G_seq {x y : Code} (h : G P n (.code x :: .code y :: k) Q f ds w) : G P n (.code (.seq x y) :: k) Q f ds w := by
  intro a ha
  refine wp_seq (wp_mono (h a ha) ?_)
  rintro e a w ⟨f', ds', hr, hq⟩
  cases e with
  | normal => exact hq a hr
  | exit id => exact ⟨f', ds', hr, hq⟩
  | goto l => exact ⟨f', ds', hr, hq⟩
  | ret => exact ⟨f', ds', hr, hq⟩
  | panic ch => exact ⟨f', ds', hr, hq⟩
  | outgrown => exact ⟨f', ds', hr, hq⟩

theorem G_block {id : Nat} {c : Code} (h : G P n (.code c :: .blk id :: k) Q f ds w) : G P n (.code (.block id c) :: k) Q f ds w := by
  intro a ha
  refine wp_block (wp_mono (h a ha) ?_)
  rintro e a w ⟨f', ds', hr, hq⟩
  cases e with
  | normal => exact ⟨f', ds', hr, hq⟩
  | exit id' =>
    simp only [Exit.inBlock]
    simp only [H] at hq
    split
    · rename_i he; rw [if_pos he] at hq; exact ⟨f', ds', hr, hq⟩
    · rename_i he; rw [if_neg he] at hq; exact ⟨f', ds', hr, hq⟩
  | goto l => exact ⟨f', ds', hr, hq⟩
  | ret => exact ⟨f', ds', hr, hq⟩
  | panic ch => exact ⟨f', ds', hr, hq⟩
  | outgrown => exact ⟨f', ds', hr, hq⟩

theorem G_end {id : Nat} (h : G P n k Q f ds w) : G P n (.blk id :: k) Q f ds w := h
theorem G_inv {J : Fm → List Deferred → World → Prop} (h : J f ds w) : G P n (.inv J :: k) Q f ds w := h

theorem G_skip (h : G P n k Q f ds w) : G P n (.code .skip :: k) Q f ds w :=
  fun _ ha => wp_skip ⟨f, ds, ha, h⟩

theorem G_ret (h : Q .ret f ds w) : G P n (.code .ret :: k) Q f ds w :=
  fun _ ha => wp_ret ⟨f, ds, ha, by rw [H_ret]; exact h⟩

/-- the rest behind an exit -/
def popTo (id : Nat) : List It → Option (List It)
  | [] => none
  | .code _ :: k => popTo id k
  | .inv _ :: k => popTo id k
  | .blk id' :: k => bif Nat.beq id id' then some k else popTo id k

theorem H_exit {id : Nat} {k' : List It} : ∀ {k : List It}, popTo id k = some k' → H P n k Q (.exit id) f ds w = G P n k' Q f ds w
  | [], h => by simp [popTo] at h
  | .code _ :: k, h => H_exit (k := k) h
  | .inv _ :: k, h => H_exit (k := k) h
  | .blk id' :: k, h => by
    unfold popTo at h
    simp only [H]
    by_cases hid : id = id'
    · subst hid
      simp at h
      subst h
      rw [if_pos rfl]; rfl
    · have hb : Nat.beq id id' = false := by
        cases hb : Nat.beq id id' with
        | false => rfl
        | true => exact absurd (Nat.eq_of_beq_eq_true hb) hid
      rw [hb] at h
      rw [if_neg hid]
      exact H_exit (k := k) h

theorem G_exit {id : Nat} {k' : List It} (hk : popTo id k = some k') (h : G P n k' Q f ds w) : G P n (.code (.exit id) :: k) Q f ds w :=
  fun _ ha => wp_exit ⟨f, ds, ha, by rw [H_exit hk]; exact h⟩

theorem G_true {c : Operand} {x y : Code} (hc : ev f c = .bool true) (h : G P n (.code x :: k) Q f ds w) : G P n (.code (.cond c x y) :: k) Q f ds w :=
  fun a ha => wp_cond_true (by rw [ha.eval]; exact hc) (h a ha)
theorem G_false {c : Operand} {x y : Code} (hc : ev f c = .bool false) (h : G P n (.code y :: k) Q f ds w) : G P n (.code (.cond c x y) :: k) Q f ds w :=
  fun a ha => wp_cond_false (by rw [ha.eval]; exact hc) (h a ha)
theorem G_cond {c : Operand} {x y : Code} {b : Bool} (hc : ev f c = .bool b) (ht : b = true → G P n (.code x :: k) Q f ds w) (hf : b = false → G P n (.code y :: k) Q f ds w) :
    G P n (.code (.cond c x y) :: k) Q f ds w := by
  cases b with
  | true => exact G_true hc (ht rfl)
  | false => exact G_false hc (hf rfl)

theorem G_loop {c : Code} (I : Fm → List Deferred → World → Prop) (μ : Fm → List Deferred → World → Nat) (h0 : I f ds w)
    (round : ∀ f ds w, I f ds w → G P n (.code c :: .inv (fun f' ds' w' => I f' ds' w' ∧ μ f' ds' w' < μ f ds w) :: k) Q f ds w) :
    G P n (.code (.loop c) :: k) Q f ds w := by
  intro a ha
  refine wp_loop (fun a w => ∃ f ds, Rp n f ds a ∧ I f ds w) (fun a w => μ (fun t => a.tmps.getD t undef) a.defers w) ⟨f, ds, ha, h0⟩ ?_
  rintro a w ⟨f', ds', hr, hI⟩
  refine wp_mono (round f' ds' w hI a hr) ?_
  have hmu : ∀ {f ds a}, Rp n f ds a → (fun t => a.tmps.getD t undef) = f ∧ a.defers = ds := fun h => ⟨funext h.get, h.defers⟩
  rintro e a1 w1 ⟨f1, ds1, hr1, hq⟩
  cases e with
  | normal =>
    obtain ⟨h1, h2⟩ := hq
    refine ⟨⟨f1, ds1, hr1, h1⟩, ?_⟩
    rw [(hmu hr1).1, (hmu hr1).2, (hmu hr).1, (hmu hr).2]
    exact h2
  | exit id => exact ⟨f1, ds1, hr1, hq⟩
  | goto l => exact ⟨f1, ds1, hr1, hq⟩
  | ret => exact ⟨f1, ds1, hr1, hq⟩
  | panic ch => exact ⟨f1, ds1, hr1, hq⟩
  | outgrown => exact ⟨f1, ds1, hr1, hq⟩

theorem G_mono {Q' : Post} (hq : ∀ e f ds w, Q e f ds w → Q' e f ds w) : ∀ (k : List It) (e : Exit) (f : Fm) (ds : List Deferred) (w : World), (∀ J, It.inv J ∉ k) → H P n k Q e f ds w → H P n k Q' e f ds w
  | [], _, _, _, _, _, h => hq _ _ _ _ h
  | .inv J :: _, _, _, _, _, hn, _ => absurd List.mem_cons_self (hn J)
  | .code c :: k, e, f, ds, w, hn, h => by
    have hn' : ∀ J, It.inv J ∉ k := fun J hm => hn J (List.mem_cons_of_mem _ hm)
    cases e with
    | normal =>
      intro a ha
      refine wp_mono (h a ha) ?_
      rintro e a w ⟨f', ds', hr, h'⟩
      exact ⟨f', ds', hr, G_mono hq k _ _ _ _ hn' h'⟩
    | exit id => exact G_mono hq k _ _ _ _ hn' h
    | goto l => exact G_mono hq k _ _ _ _ hn' h
    | ret => exact G_mono hq k _ _ _ _ hn' h
    | panic ch => exact G_mono hq k _ _ _ _ hn' h
    | outgrown => exact G_mono hq k _ _ _ _ hn' h
  | .blk id :: k, e, f, ds, w, hn, h => by
    have hn' : ∀ J, It.inv J ∉ k := fun J hm => hn J (List.mem_cons_of_mem _ hm)
    cases e with
    | exit id' =>
      simp only [H] at h ⊢
      split
      · rename_i he; rw [if_pos he] at h; exact G_mono hq k _ _ _ _ hn' h
      · rename_i he; rw [if_neg he] at h; exact G_mono hq k _ _ _ _ hn' h
    | normal => exact G_mono hq k _ _ _ _ hn' h
    | goto l => exact G_mono hq k _ _ _ _ hn' h
    | ret => exact G_mono hq k _ _ _ _ hn' h
    | panic ch => exact G_mono hq k _ _ _ _ hn' h
    | outgrown => exact G_mono hq k _ _ _ _ hn' h
end

section
variable {P : Program} {n : Nat} {k : List It} {Q : Post}

/-- the first things to do, up to a known state; then the rest -/
theorem H_swap {k1 k2 : List It} (h : ∀ e f ds w, H P n k1 Q e f ds w → H P n k2 Q e f ds w) : ∀ (pre : List It) (e : Exit) (f : Fm) (ds : List Deferred) (w : World), H P n (pre ++ k1) Q e f ds w → H P n (pre ++ k2) Q e f ds w
  | [], e, f, ds, w, hh => h e f ds w hh
  | .inv J :: pre, e, f, ds, w, hh => by
    cases e with
    | normal => exact hh
    | exit id => exact H_swap h pre _ _ _ _ hh
    | goto l => exact H_swap h pre _ _ _ _ hh
    | ret => exact H_swap h pre _ _ _ _ hh
    | panic ch => exact H_swap h pre _ _ _ _ hh
    | outgrown => exact H_swap h pre _ _ _ _ hh
  | .code c :: pre, e, f, ds, w, hh => by
    cases e with
    | normal =>
      intro a ha
      refine wp_mono (hh a ha) ?_
      rintro e a w ⟨f', ds', hr, h'⟩
      exact ⟨f', ds', hr, H_swap h pre _ _ _ _ h'⟩
    | exit id => exact H_swap h pre _ _ _ _ hh
    | goto l => exact H_swap h pre _ _ _ _ hh
    | ret => exact H_swap h pre _ _ _ _ hh
    | panic ch => exact H_swap h pre _ _ _ _ hh
    | outgrown => exact H_swap h pre _ _ _ _ hh
  | .blk id :: pre, e, f, ds, w, hh => by
    cases e with
    | exit id' =>
      simp only [List.cons_append, H] at hh ⊢
      split
      · rename_i he; rw [if_pos he] at hh; exact H_swap h pre _ _ _ _ hh
      · rename_i he; rw [if_neg he] at hh; exact H_swap h pre _ _ _ _ hh
    | normal => exact H_swap h pre _ _ _ _ hh
    | goto l => exact H_swap h pre _ _ _ _ hh
    | ret => exact H_swap h pre _ _ _ _ hh
    | panic ch => exact H_swap h pre _ _ _ _ hh
    | outgrown => exact H_swap h pre _ _ _ _ hh

theorem G_cutAt (pre : List It) (J : Fm → List Deferred → World → Prop) {f : Fm} {ds : List Deferred} {w : World} (h1 : G P n (pre ++ .inv J :: k) Q f ds w) (h2 : ∀ f ds w, J f ds w → G P n k Q f ds w) : G P n (pre ++ k) Q f ds w :=
  H_swap (k1 := .inv J :: k) (fun e f ds w hh => by
    cases e with
    | normal => exact h2 f ds w hh
    | exit id => exact hh
    | goto l => exact hh
    | ret => exact hh
    | panic ch => exact hh
    | outgrown => exact hh) pre _ _ _ _ h1
theorem G_cut1 {x : It} (J : Fm → List Deferred → World → Prop) {f : Fm} {ds : List Deferred} {w : World} (h1 : G P n (x :: .inv J :: k) Q f ds w) (h2 : ∀ f ds w, J f ds w → G P n k Q f ds w) : G P n (x :: k) Q f ds w := G_cutAt [x] J h1 h2
theorem G_cut2 {x y : It} (J : Fm → List Deferred → World → Prop) {f : Fm} {ds : List Deferred} {w : World} (h1 : G P n (x :: y :: .inv J :: k) Q f ds w) (h2 : ∀ f ds w, J f ds w → G P n k Q f ds w) : G P n (x :: y :: k) Q f ds w := G_cutAt [x, y] J h1 h2
theorem G_assoc {x y z : Code} {f : Fm} {ds : List Deferred} {w : World} (h : G P n (.code x :: .code y :: .code z :: k) Q f ds w) : G P n (.code x :: .code (.seq y z) :: k) Q f ds w := by
  intro a ha
  refine wp_mono (h a ha) ?_
  rintro e a w ⟨f', ds', hr, hq⟩
  cases e with
  | normal => exact ⟨f', ds', hr, fun a ha => G_seq (k := k) hq a ha⟩
  | exit id => exact ⟨f', ds', hr, hq⟩
  | goto l => exact ⟨f', ds', hr, hq⟩
  | ret => exact ⟨f', ds', hr, hq⟩
  | panic ch => exact ⟨f', ds', hr, hq⟩
  | outgrown => exact ⟨f', ds', hr, hq⟩
end


/-! ### calls -/

/-- a function's result, off its frame -/
def ResV (P : Program) (fn : Func) (f : Fm) (w : World) (v : Value) : Prop := ∀ tmps : Array Value, (∀ t, tmps.getD t undef = f t) → (results fn tmps).run P w = .ok v w

theorem ResV.tmp {P : Program} {fn : Func} {t : Tmp} (h : fn.results = #[.tmp t]) (f : Fm) (w : World) : ResV P fn f w (f t) := by
  intro tmps ht
  simp only [results, h, ← ht t]
  simp

theorem ResV.none {P : Program} {fn : Func} (h : fn.results = #[]) (f : Fm) (w : World) : ResV P fn f w (.tuple #[]) := by
  intro tmps _
  simp [results, h]

theorem ResV.two {P : Program} {fn : Func} {t u : Tmp} (h : fn.results = #[.tmp t, .tmp u]) (f : Fm) (w : World) : ResV P fn f w (.tuple #[f t, f u]) := by
  intro tmps ht
  simp only [results, h, ← ht t, ← ht u]
  simp

def QF (P : Program) (fn : Func) (R : Ending → World → Prop) : Post
  | .normal, f, ds, w | .ret, f, ds, w => ds = [] ∧ ∃ v, ResV P fn f w v ∧ R (.returned v) w
  | _, _, _, _ => False

theorem argF_get (args : List Value) (t : Nat) : argF args t = (args[t]?).getD undef := by
  induction args generalizing t with
  | nil => rfl
  | cons v l ih =>
    cases t with
    | zero => rfl
    | succ t => simpa [argF] using ih t

theorem rp_enter (args : List Value) (n : Nat) (hn : Nat.ble args.length n = true) :
    Rp n (argF args) [] { tmps := args.toArray ++ Array.replicate (n - args.toArray.size) undef, defers := [] } := by
  have hn' : args.length ≤ n := Nat.le_of_ble_eq_true hn
  refine ⟨by simp; omega, fun t => ?_, rfl⟩
  rw [argF_get, Array.getD_eq_getD_getElem?, Array.getElem?_append]
  by_cases h : t < args.toArray.size
  · rw [if_pos h]; simp
  · rw [if_neg h]
    have h' : args.length ≤ t := by simpa using h
    rw [List.getElem?_eq_none h']
    simp only [Option.getD_none, Array.getElem?_replicate]
    split <;> rfl

theorem calls_enter {P : Program} {g : FuncId} {fn : Func} {c : Code} {args : List Value} {w : World} {R : Ending → World → Prop} {n : Nat}
    (hf : P.funcs[g]? = some fn) (hn : fn.ntmps = n) (hb : fn.body = some c) (hs : Nat.ble args.length n = true)
    (h : G P n [.code c] (QF P fn R) (argF args) [] w) : Calls P g args.toArray w R := by
  refine calls_of_wp hf hb ?_
  rw [hn]
  refine wp_mono (h _ (rp_enter args n hs)) ?_
  rintro e a w' ⟨f, ds, hr, hq⟩
  cases e <;> simp only [H, QF] at hq
  · obtain ⟨h1, v, h2, h3⟩ := hq; exact ⟨hr.defers.trans h1, v, h2 _ hr.get, h3⟩
  · obtain ⟨h1, v, h2, h3⟩ := hq; exact ⟨hr.defers.trans h1, v, h2 _ hr.get, h3⟩

/-- the same, deferred calls waiting at the end: what they do is told by 'Leaves' -/
def QD (P : Program) (fn : Func) (R : Ending → World → Prop) : Post
  | .normal, f, ds, w | .ret, f, ds, w => ∀ tmps : Array Value, (∀ t, tmps.getD t undef = f t) → Leaves P fn tmps R ds .returning w
  | _, _, _, _ => False

theorem calls_enter_d {P : Program} {g : FuncId} {fn : Func} {c : Code} {args : List Value} {w : World} {R : Ending → World → Prop} {n : Nat}
    (hf : P.funcs[g]? = some fn) (hn : fn.ntmps = n) (hb : fn.body = some c) (hs : Nat.ble args.length n = true)
    (h : G P n [.code c] (QD P fn R) (argF args) [] w) : Calls P g args.toArray w R := by
  refine calls_of_wp_defers hf hb ?_
  rw [hn]
  refine wp_mono (h _ (rp_enter args n hs)) ?_
  rintro e a w' ⟨f, ds, hr, hq⟩
  cases e <;> simp only [H, QD] at hq
  · show Leaves _ _ _ _ _ _ _
    rw [hr.defers]; exact hq _ hr.get
  · show Leaves _ _ _ _ _ _ _
    rw [hr.defers]; exact hq _ hr.get

/-! ### a region in the text's order -/

abbrev LK := Fm → List Deferred → World → Prop

def liftK (n : Nat) (K : LK) : Exit → Act → World → Prop := fun e a w => e = .normal ∧ ∃ f ds, Rp n f ds a ∧ K f ds w

def L (P : Program) (n : Nat) (ops : List Oper) (K : LK) (rest : List Oper) (f : Fm) (ds : List Deferred) (w : World) : Prop :=
  ∀ a, Rp n f ds a → wpListIn Fence.wide 0 P ops.toArray (liftK n K) rest a w

/-! a range over a function asks for the walk within a fence: the wide one -/
theorem rowsIn_of {P : Program} {row : String} {args : Array Value} {w : World} {R : Value → World → Prop} (h : Rows P row args w R) : RowsIn Fence.wide 0 P row args w R :=
  fun c cs _ => let ⟨v, w', r, s⟩ := h c cs; ⟨v, w', r, stepsIn_wide.2 s⟩
theorem no_lets {n : Nat} {K : LK} : ¬ LetsOut (liftK n K) := fun ⟨_, _, h, _⟩ => absurd h (by simp)

theorem opIn_of_wp {P : Program} {n : Nat} {K : LK} {o : Oper} {a : Act} {w : World} {next : Act → World → Prop} (h : o.wp P a w next (liftK n K)) : o.wpIn Fence.wide 0 P a w next (liftK n K) := by
  refine ⟨fun _ _ => trivial, ?_⟩
  have e : (o.semAt (Fence.wide).round a.eval) = execOp a.eval o := rfl
  rw [e]
  unfold Oper.wp at h
  generalize (execOp a.eval o).run P w = r at *
  cases r with
  | ok x w' =>
    cases x <;> simp only [Oper.upon] at h <;> simp only [Oper.uponIn] <;> first
      | exact h
      | exact ⟨fun hh => by simp [Fence.wide] at hh, rowsIn_of h⟩
      | (refine ⟨fun hh => by simp [Fence.wide] at hh, (callsIn_wide.2 h).mono fun e w'' he => ?_⟩
         cases e with
         | returned v => exact he
         | panicked c => exact he
         | outgrown => exact he)
  | halt x w' =>
    cases x <;> simp only [Oper.upon] at h
    simp only [Oper.uponIn]
    exact h

def notDefer (o : Oper) : Bool := match o.op with | .defer _ => false | _ => true

theorem semAt_notDefer {o : Oper} {ro : Option Nat} {ρ : Operand → Value} (h : ro = none ∨ notDefer o = true) : o.semAt ro ρ = execOp ρ o := by
  rcases h with rfl | h
  · rfl
  · unfold Oper.semAt
    cases ro with
    | none => rfl
    | some r =>
      unfold notDefer at h
      cases hop : o.op <;> first
        | rfl
        | (rw [hop] at h; cases h)

/-- what comes behind, weakened; the fence's round changed where nothing is deferred -/
theorem listIn_mono {P : Program} {n : Nat} {K : LK} {ops : Array Oper} {ro : Option Nat} {Q : Exit → Act → World → Prop} (hQ : ∀ a w, liftK n K .normal a w → Q .normal a w) :
    ∀ (l : List Oper) (a : Act) (w : World), (ro = none ∨ l.all notDefer = true) → wpListIn Fence.wide 0 P ops (liftK n K) l a w → wpListIn { Fence.wide with round := ro } 0 P ops Q l a w := by
  intro l
  induction l with
  | nil => exact fun a w _ h => hQ a w h
  | cons o l ih =>
    intro a w hl h
    have hl1 : ro = none ∨ notDefer o = true := hl.imp id fun hl => by simp only [List.all_cons, Bool.and_eq_true] at hl; exact hl.1
    have hl' : ro = none ∨ l.all notDefer = true := hl.imp id fun hl => by simp only [List.all_cons, Bool.and_eq_true] at hl; exact hl.2
    simp only [wpListIn] at h ⊢
    split
    · rename_i hw
      rw [if_pos hw] at h
      refine ⟨fun f _ => trivial, ?_⟩
      have e1 : o.semAt ({ Fence.wide with round := ro } : Fence).round a.eval = execOp a.eval o := semAt_notDefer hl1
      rw [e1]
      have h := h.2
      have e : (o.semAt (Fence.wide).round a.eval) = execOp a.eval o := rfl
      rw [e] at h
      generalize (execOp a.eval o).run P w = r at *
      have hd : ∀ {p : Prop}, ({ Fence.wide with round := ro } : Fence).depth.isSome = true → p := fun hh => absurd hh (by simp [Fence.wide])
      cases r with
      | ok x w' =>
        cases x <;> simp only [Oper.uponIn] at h ⊢ <;> first
          | exact h
          | exact ih _ _ hl' h
          | exact ⟨hd, RowsIn.mono (F := { Fence.wide with round := ro }) h.2 fun _ _ he => ih _ _ hl' he⟩
          | exact ⟨hd, CallsIn.mono (F := { Fence.wide with round := ro }) h.2 fun e w'' he => by
              cases e with
              | returned v => exact ih _ _ hl' he
              | panicked c => exact absurd he.1 (by simp)
              | outgrown => exact absurd he no_lets⟩
          | exact ⟨hd, RoundIn.mono (F := { Fence.wide with round := ro }) h.2 fun e w'' he => by
              cases e with
              | returned v => exact ih _ _ hl' he
              | panicked c => exact absurd he.1 (by simp)
              | outgrown => exact absurd he no_lets⟩
      | halt x w' =>
        cases x <;> simp only [Oper.uponIn] at h ⊢
        exact absurd h.1 (by simp)
    · rename_i hw
      rw [if_neg hw] at h
      exact ⟨fun f _ => trivial, ih _ _ hl' h.2⟩

section
variable {P : Program} {n : Nat} {ops rest : List Oper} {K : LK} {f : Fm} {ds : List Deferred} {w w' : World}

theorem G_region {id : Nat} {k : List It} {Q : Post} (h : L P n ops (G P n k Q) ops f ds w) : G P n (.code (.region id ops.toArray false) :: k) Q f ds w := by
  intro a ha
  refine (wpIn_wide (n := 0)).1 (wpIn_region_lit ?_)
  exact listIn_mono (ro := none) (fun a w ⟨_, f, ds, hr, hq⟩ => ⟨f, ds, hr, hq⟩) ops a w (.inl rfl) (h a ha)

theorem L_nil (h : K f ds w) : L P n ops K [] f ds w := fun _ ha => ⟨rfl, f, ds, ha, h⟩

theorem L_stepI {o : Oper} (hw : wantd ops f o = true)
    (h : ∀ a, Rp n f ds a → o.wpIn Fence.wide 0 P a w (wpListIn Fence.wide 0 P ops.toArray (liftK n K) rest) (liftK n K)) : L P n ops K (o :: rest) f ds w := by
  intro a ha
  unfold wpListIn
  rw [ha.wanted, if_pos hw]
  exact h a ha

theorem L_step {o : Oper} (hw : wantd ops f o = true)
    (h : ∀ a, Rp n f ds a → o.wp P a w (wpListIn Fence.wide 0 P ops.toArray (liftK n K) rest) (liftK n K)) : L P n ops K (o :: rest) f ds w :=
  L_stepI hw fun a ha => opIn_of_wp (h a ha)

theorem L_val {o : Oper} {d : Nat} {v : Value} (hr : (execOp (ev f) o).run P w = .ok (.value v) w') (hw : wantd ops f o = true) (hd : o.dst = some d) (hn : Nat.blt d n = true)
    (h : L P n ops K rest (upd f d v) ds w') : L P n ops K (o :: rest) f ds w :=
  L_step hw fun a ha => by
    unfold Oper.wp
    rw [ha.eval, hr, Oper.upon_value, hd]
    exact h _ (ha.put hn v)

theorem L_val0 {o : Oper} {v : Value} (hr : (execOp (ev f) o).run P w = .ok (.value v) w') (hw : wantd ops f o = true) (hd : o.dst = none)
    (h : L P n ops K rest f ds w') : L P n ops K (o :: rest) f ds w :=
  L_step hw fun a ha => by
    unfold Oper.wp
    rw [ha.eval, hr, Oper.upon_value, hd]
    exact h _ ha

theorem L_skip {o : Oper} (hr : (execOp (ev f) o).run P w = .ok .skip w') (hw : wantd ops f o = true) (hd : o.dst = none)
    (h : L P n ops K rest f ds w') : L P n ops K (o :: rest) f ds w :=
  L_step hw fun a ha => by
    unfold Oper.wp
    rw [ha.eval, hr, Oper.upon_skip, hd]
    exact h _ ha

theorem L_defer {o : Oper} {d : Deferred} (hr : (execOp (ev f) o).run P w = .ok (.defer d) w') (hw : wantd ops f o = true) (hd : o.dst = none)
    (h : L P n ops K rest f (d :: ds) w') : L P n ops K (o :: rest) f ds w :=
  L_step hw fun a ha => by
    unfold Oper.wp
    rw [ha.eval, hr, Oper.upon_defer, hd]
    exact h _ ⟨ha.size, ha.get, by show d :: a.defers = _; rw [ha.defers]⟩

theorem L_unwanted {o : Oper} {d : Nat} (hw : wantd ops f o = false) (hd : o.dst = some d) (hn : Nat.blt d n = true)
    (h : L P n ops K rest (upd f d undef) ds w) : L P n ops K (o :: rest) f ds w := by
  intro a ha
  unfold wpListIn
  rw [ha.wanted, hw]
  simp only [Bool.false_eq_true, if_false]
  rw [hd]
  exact ⟨fun _ _ => trivial, h _ (ha.put hn undef)⟩

theorem L_unwanted0 {o : Oper} (hw : wantd ops f o = false) (hd : o.dst = none)
    (h : L P n ops K rest f ds w) : L P n ops K (o :: rest) f ds w := by
  intro a ha
  unfold wpListIn
  rw [ha.wanted, hw]
  simp only [Bool.false_eq_true, if_false]
  rw [hd]
  exact ⟨fun _ _ => trivial, h _ ha⟩

theorem L_enter {o : Oper} {d : Nat} {g : FuncId} {args : Array Value} {R : Ending → World → Prop} (hr : (execOp (ev f) o).run P w = .ok (.enter g args) w) (hw : wantd ops f o = true) (hd : o.dst = some d) (hn : Nat.blt d n = true)
    (hc : Calls P g args w R) (h : ∀ e w', R e w' → ∃ v, e = .returned v ∧ L P n ops K rest (upd f d v) ds w') : L P n ops K (o :: rest) f ds w :=
  L_step hw fun a ha => by
    unfold Oper.wp
    rw [ha.eval, hr, Oper.upon_enter, hd]
    refine hc.mono fun e w' he => ?_
    obtain ⟨v, rfl, hl⟩ := h e w' he
    exact hl _ (ha.put hn v)

theorem L_row {o : Oper} {d : Nat} {row : String} {args : Array Value} {R : Value → World → Prop} (hr : (execOp (ev f) o).run P w = .ok (.row row args) w) (hw : wantd ops f o = true) (hd : o.dst = some d) (hn : Nat.blt d n = true)
    (hc : Rows P row args w R) (h : ∀ v w', R v w' → L P n ops K rest (upd f d v) ds w') : L P n ops K (o :: rest) f ds w :=
  L_step hw fun a ha => by
    unfold Oper.wp
    rw [ha.eval, hr, Oper.upon_row, hd]
    refine hc.mono fun v w' he => ?_
    exact h v w' he _ (ha.put hn v)
end
attribute [irreducible] G L WC
end Go.Proofs.YtjilnjifegeceaaGreatDoor

/-
  The walk's own rules, second part: regions that draw their order. The operations are walked in one order that the check 'mixB' lets: an operation that yields one value in every later world may be taken as soon as it may come up; an operation that makes or turns memory is taken where no other may come up.
-/
namespace Go.Proofs.YtjilnjifegeceaaGreatDoor

/-- what was there is as it was, but for the blocks of M -/
structure Ext (M : Nat → Prop) (w w' : World) : Prop where
  os : w'.os = w.os
  tape : w'.tape = w.tape
  output : w'.output = w.output
  size : w.heap.size ≤ w'.heap.size
  block : ∀ b, b < w.heap.size → ¬ M b → w'.heap[b]? = w.heap[b]?

abbrev No : Nat → Prop := fun _ => False

theorem Ext.refl (M : Nat → Prop) (w : World) : Ext M w w := ⟨rfl, rfl, rfl, Nat.le_refl _, fun _ _ _ => rfl⟩
theorem Ext.trans {M : Nat → Prop} {a b c : World} (h : Ext M a b) (k : Ext M b c) : Ext M a c :=
  ⟨k.os.trans h.os, k.tape.trans h.tape, k.output.trans h.output, Nat.le_trans h.size k.size, fun i hi hm => (k.block i (Nat.lt_of_lt_of_le hi h.size) hm).trans (h.block i hi hm)⟩
theorem Ext.mono {M M' : Nat → Prop} {a b : World} (h : Ext M a b) (hm : ∀ i, i < a.heap.size → M i → M' i) : Ext M' a b :=
  ⟨h.os, h.tape, h.output, h.size, fun i hi hn => h.block i hi (fun hh => hn (hm i hi hh))⟩
theorem Ext.of_no {M : Nat → Prop} {a b : World} (h : Ext No a b) : Ext M a b := h.mono fun _ _ h => h.elim
/-- blocks that did not lie at the start may have been turned since -/
theorem Ext.trans_new {M : Nat → Prop} {M' : Nat → Prop} {a b c : World} (h : Ext M a b) (k : Ext M' b c) (hm : ∀ i, i < a.heap.size → M' i → M i) : Ext M a c :=
  ⟨k.os.trans h.os, k.tape.trans h.tape, k.output.trans h.output, Nat.le_trans h.size k.size,
    fun i hi hn => (k.block i (Nat.lt_of_lt_of_le hi h.size) (fun hh => hn (hm i hi hh))).trans (h.block i hi hn)⟩

theorem cell_of_block {w w' : World} {a : Addr} (h : w'.heap[a.block]? = w.heap[a.block]?) : w'.cell? a = w.cell? a := by
  unfold World.cell?; rw [h]
theorem lt_of_cell {w : World} {a : Addr} {v : Value} (h : w.cell? a = some v) : a.block < w.heap.size := World.block_lt_of_cell? w a h
theorem Ext.cell {M : Nat → Prop} {w w' : World} (h : Ext M w w') {a : Addr} {v : Value} (hm : ¬ M a.block) (hc : w.cell? a = some v) : w'.cell? a = some v := by
  rw [cell_of_block (h.block a.block (lt_of_cell hc) hm)]; exact hc
theorem lt_of_heap {w : World} {b : Nat} {o : Obj} (h : w.heap[b]? = some o) : b < w.heap.size := (Array.getElem?_eq_some_iff.1 h).1
theorem Ext.heap {M : Nat → Prop} {w w' : World} (h : Ext M w w') {b : Nat} {o : Obj} (hm : ¬ M b) (hc : w.heap[b]? = some o) : w'.heap[b]? = some o := by
  rw [h.block b (lt_of_heap hc) hm]; exact hc

theorem Ext.drew {M : Nat → Prop} (w : World) : Ext M w { w with drawn := w.drawn + 1 } := ⟨rfl, rfl, rfl, Nat.le_refl _, fun _ _ _ => rfl⟩
theorem Ext.alloc {M : Nat → Prop} (w : World) (o : Obj) : Ext M w (w.alloc o) :=
  ⟨rfl, rfl, rfl, by simp, fun b hb _ => by
    show (w.heap.push o)[b]? = _
    rw [Array.getElem?_push, if_neg (by omega)]⟩
theorem Ext.setCell {M : Nat → Prop} (w : World) (a : Addr) (v : Value) (hm : M a.block) : Ext M w (w.setCell a v) :=
  ⟨rfl, rfl, rfl, by simp, fun b _ hn => by
    show (w.heap.modify a.block _)[b]? = _
    rw [Array.getElem?_modify]
    split
    · rename_i he; exact absurd (he ▸ hm) hn
    · rfl⟩

section
variable (P : Program) (M : Nat → Prop)

/-- one value, and nothing of what was there turned -/
def funUpon (w : World) (c : Value) : Result Next → Prop
  | .ok (.value u) w' => u = c ∧ Ext M w w'
  | .ok .skip w' => c = undef ∧ Ext M w w'
  | .ok (.enter f args) w' => w' = w ∧ Calls P f args w (fun e w'' => e = .returned c ∧ Ext M w w'')
  | _ => False

def relUpon (K : Value → World → Prop) : Result Next → Prop
  | .ok (.value u) w' => K u w'
  | .ok .skip w' => K undef w'
  | .ok (.enter f args) w' => Calls P f args w' (fun e w'' => ∃ v, e = .returned v ∧ K v w'')
  | _ => False

theorem relUpon_mono {K K' : Value → World → Prop} (hk : ∀ v w, K v w → K' v w) {r : Result Next} (h : relUpon P K r) : relUpon P K' r := by
  cases r with
  | ok x w =>
    cases x <;> simp only [relUpon] at h ⊢ <;> first
      | exact hk _ _ h
      | exact h.mono (fun e w'' ⟨v, he, hv⟩ => ⟨v, he, hk _ _ hv⟩)
  | halt x w => simp only [relUpon] at h

variable (ops : Array Oper) (rel : Nat → Bool)

def opR (i : Nat) (KK : Act → World → Prop) (a : Act) (wb : World) : Prop :=
  match ops[i]? with
  | none => KK a wb
  | some o =>
    if Region.wanted o (yielded ops a.tmps) then
      if rel i then ∀ w, Ext M wb w → relUpon P (fun v w' => Ext M w w' ∧ KK (a.put o.dst v) w') ((execOp a.eval o).run P w)
      else ∃ c, (∀ w, Ext M wb w → funUpon P M w c ((execOp a.eval o).run P w)) ∧ KK (a.put o.dst c) wb
    else KK (a.put o.dst undef) wb

theorem opR_mono {i : Nat} {KK KK' : Act → World → Prop} {a : Act} {wb : World} (h : ∀ a w, KK a w → KK' a w) (hh : opR P M ops rel i KK a wb) : opR P M ops rel i KK' a wb := by
  unfold opR at *
  cases ho : ops[i]? with
  | none => simp only [ho] at hh ⊢; exact h _ _ hh
  | some o =>
    simp only [ho] at hh ⊢
    split
    · rename_i hw
      rw [if_pos hw] at hh
      split
      · rename_i hr
        rw [if_pos hr] at hh
        exact fun w he => relUpon_mono P (fun v w' hv => ⟨hv.1, h _ _ hv.2⟩) (hh w he)
      · rename_i hr
        rw [if_neg hr] at hh
        obtain ⟨c, h1, h2⟩ := hh
        exact ⟨c, h1, h _ _ h2⟩
    · rename_i hw
      rw [if_neg hw] at hh
      exact h _ _ hh

def wpAnyR (md : Region.Mode) (K : Act → World → Prop) : Nat → Array Bool → Act → World → Prop
  | 0, listed, a, wb => Region.ready md ops listed = [] ∧ ∀ w, Ext M wb w → K a w
  | fuel + 1, listed, a, wb => (Region.ready md ops listed = [] → ∀ w, Ext M wb w → K a w) ∧
      ∀ i ∈ Region.ready md ops listed, opR P M ops rel i (wpAnyR md K fuel (listed.setIfInBounds i true)) a wb

theorem wpAny_of_R {md : Region.Mode} {K : Act → World → Prop} {Q : Exit → Act → World → Prop} (hK : ∀ a w, K a w → Q .normal a w) : ∀ (fuel : Nat) (listed : Array Bool) (a : Act) (wb w : World), Ext M wb w →
    wpAnyR P M ops rel md K fuel listed a wb → wpAny P md ops Q fuel listed a w
  | 0, _, _, _, _, he, h => ⟨h.1, hK _ _ (h.2 _ he)⟩
  | fuel + 1, listed, a, wb, w, he, h => by
    refine ⟨fun h0 => hK _ _ (h.1 h0 _ he), fun i hi => ?_⟩
    have h1 := h.2 i hi
    unfold opR at h1
    unfold wpOp
    cases ho : ops[i]? with
    | none => simp only [ho] at h1 ⊢; exact wpAny_of_R hK fuel _ _ _ _ he h1
    | some o =>
      simp only [ho] at h1 ⊢
      split
      · rename_i hw
        rw [if_pos hw] at h1
        left
        unfold Oper.wp
        split at h1
        · have h2 := h1 w he
          generalize (execOp a.eval o).run P w = r at *
          cases r with
          | ok x w' =>
            cases x <;> simp only [relUpon] at h2 <;> simp only [Oper.upon]
            · exact wpAny_of_R hK fuel _ _ _ _ (Ext.refl _ _) h2.2
            · exact wpAny_of_R hK fuel _ _ _ _ (Ext.refl _ _) h2.2
            · refine h2.mono fun e w'' hv => ?_
              obtain ⟨v, rfl, hv⟩ := hv
              exact wpAny_of_R hK fuel _ _ _ _ (Ext.refl _ _) hv.2
          | halt x w' => simp only [relUpon] at h2
        · obtain ⟨c, h2, h3⟩ := h1
          have h2 := h2 w he
          generalize (execOp a.eval o).run P w = r at *
          cases r with
          | ok x w' =>
            cases x <;> simp only [funUpon] at h2 <;> simp only [Oper.upon]
            · obtain ⟨rfl, hx⟩ := h2; exact wpAny_of_R hK fuel _ _ _ _ (he.trans hx) h3
            · obtain ⟨rfl, hx⟩ := h2; exact wpAny_of_R hK fuel _ _ _ _ (he.trans hx) h3
            · obtain ⟨rfl, hc⟩ := h2
              refine hc.mono fun e w'' ⟨hv, hx⟩ => ?_
              subst hv
              exact wpAny_of_R hK fuel _ _ _ _ (he.trans hx) h3
          | halt x w' => simp only [funUpon] at h2
      · rename_i hw
        rw [if_neg hw] at h1
        exact wpAny_of_R hK fuel _ _ _ _ he h1

/-- this operation yields c, whenever it comes up from here on -/
def FY (o : Oper) (c : Value) (a : Act) (wb : World) : Prop :=
  (Region.wanted o (yielded ops a.tmps) = true ∧ ∀ w, Ext M wb w → funUpon P M w c ((execOp a.eval o).run P w)) ∨
  (Region.wanted o (yielded ops a.tmps) = false ∧ c = undef)

theorem FY.later {o : Oper} {c : Value} {a : Act} {wb w : World} (h : FY P M ops o c a wb) (he : Ext M wb w) : FY P M ops o c a w := by
  rcases h with ⟨h1, h2⟩ | h
  · exact .inl ⟨h1, fun w' hw' => h2 w' (he.trans hw')⟩
  · exact .inr h

theorem FY.opR {i : Nat} {o : Oper} {c : Value} {a : Act} {wb : World} (hi : ops[i]? = some o) (hr : rel i = false) (h : FY P M ops o c a wb) {KK : Act → World → Prop} (hk : KK (a.put o.dst c) wb) :
    opR P M ops rel i KK a wb := by
  unfold Go.Proofs.YtjilnjifegeceaaGreatDoor.opR
  simp only [hi]
  rcases h with ⟨h1, h2⟩ | ⟨h1, rfl⟩
  · rw [if_pos h1, hr]
    simp only [Bool.false_eq_true, if_false]
    exact ⟨c, h2, hk⟩
  · rw [h1]
    simp only [Bool.false_eq_true, if_false]
    exact hk

theorem FY.of_same {o : Oper} {c : Value} {a a' : Act} {wb : World} (h : FY P M ops o c a wb) (he : execOp a'.eval o = execOp a.eval o)
    (hw : Region.wanted o (yielded ops a'.tmps) = Region.wanted o (yielded ops a.tmps)) : FY P M ops o c a' wb := by
  unfold FY at *
  rw [he, hw]
  exact h

theorem opR_put {j : Nat} {oi oj : Oper} {v : Value} (hj : ops[j]? = some oj) (hap : oi.apart ops oj = true)
    (hsi : ∀ cs b, oi.op ≠ .select cs b) (hsj : ∀ cs b, oj.op ≠ .select cs b) {KK : Act → World → Prop} {a : Act} {wb : World}
    (hy : FY P M ops oi v a wb) (h : opR P M ops rel j KK (a.put oi.dst v) wb) :
    opR P M ops rel j (fun a' w' => FY P M ops oi v a' w' ∧ KK (a'.put oi.dst v) w') a wb := by
  obtain ⟨h1, h2, h3⟩ := Oper.apart_spec hap
  have keep : ∀ (a : Act) (wb : World), FY P M ops oi v a wb → ∀ u, FY P M ops oi v (a.put oj.dst u) wb := fun a wb hy u =>
    hy.of_same (he := execOp_put oi hsi a oj.dst u h3) (hw := wanted_put oi a oj.dst u h3)
  unfold opR at *
  simp only [hj] at *
  rw [wanted_put oj a oi.dst v h1, execOp_put oj hsj a oi.dst v h1] at h
  split
  · rename_i hw
    rw [if_pos hw] at h
    split
    · rename_i hr
      rw [if_pos hr] at h
      refine fun w he => relUpon_mono P (fun u w' hu => ⟨hu.1, keep a _ (hy.later (he := he.trans hu.1)) u, ?_⟩) (h w he)
      rw [← Act.put_comm a v u h2]
      exact hu.2
    · rename_i hr
      rw [if_neg hr] at h
      obtain ⟨u, hu, hn⟩ := h
      exact ⟨u, hu, keep a _ hy u, by rw [← Act.put_comm a v u h2]; exact hn⟩
  · rename_i hw
    rw [if_neg hw] at h
    exact ⟨keep a _ hy _, by rw [← Act.put_comm a v undef h2]; exact h⟩

theorem wpAnyR_first {md : Region.Mode} {K : Act → World → Prop} {i : Nat} {oi : Oper} {v : Value} (hi : ops[i]? = some oi) (hri : rel i = false) (hsel : ∀ (j : Nat) (o : Oper) cs b, ops[j]? = some o → o.op ≠ .select cs b) :
    ∀ (fuel : Nat) (listed : Array Bool) (a : Act) (wb : World),
      (∀ j oj, ops[j]? = some oj → j ≠ i → listed.getD j true = false → (∀ e ∈ oj.after, Region.binds md e = true → e.on ≠ i) → oi.apart ops oj = true) →
      i ∈ Region.ready md ops listed → FY P M ops oi v a wb →
      wpAnyR P M ops rel md K fuel (listed.setIfInBounds i true) (a.put oi.dst v) wb → wpAnyR P M ops rel md K (fuel + 1) listed a wb := by
  intro fuel
  induction fuel with
  | zero =>
    intro listed a wb _ hr hy HH
    refine ⟨fun h => (by rw [h] at hr; cases hr), fun j hj => ?_⟩
    by_cases hji : j = i
    · subst hji; exact hy.opR (hi := hi) (hr := hri) (hk := HH)
    · have := ready_mono hj hji
      rw [HH.1] at this
      cases this
  | succ fuel ih =>
    intro listed a wb hfree hr hy HH
    refine ⟨fun h => (by rw [h] at hr; cases hr), fun j hj => ?_⟩
    by_cases hji : j = i
    · subst hji; exact hy.opR (hi := hi) (hr := hri) (hk := HH)
    · have h1 := HH.2 j (ready_mono hj hji)
      obtain ⟨hjun, oj, hoj, hall⟩ := mem_ready.1 hj
      have hnot : ∀ e ∈ oj.after, Region.binds md e = true → e.on ≠ i := fun e he hb heq => by
        have h1 := hall e he hb
        have h0 := (mem_ready.1 hr).1
        rw [heq] at h1
        rcases Nat.lt_or_ge i listed.size with h' | h'
        · simp [h'] at h0 h1; rw [h0] at h1; cases h1
        · simp [Array.getElem?_eq_none h'] at h1
      have h2 := opR_put P M ops rel hoj (hfree j oj hoj hji hjun hnot) (fun cs b => hsel i oi cs b hi) (fun cs b => hsel j oj cs b hoj) hy h1
      have hfree' : ∀ k ok, ops[k]? = some ok → k ≠ i → (listed.setIfInBounds j true).getD k true = false →
          (∀ e ∈ ok.after, Region.binds md e = true → e.on ≠ i) → oi.apart ops ok = true := fun k ok hk hki hun hno => by
        refine hfree k ok hk hki ?_ hno
        by_cases hjk : j = k
        · subst hjk; exact hjun
        · rw [getD_set_ne true hjk] at hun; exact hun
      refine opR_mono P M ops rel (fun a' w' h3 => ih (listed.setIfInBounds j true) a' w' hfree' (ready_mono hr (Ne.symm hji)) h3.1 ?_) h2
      rw [Array.setIfInBounds_comm _ _ hji]
      exact h3.2

/-- the walk in the order given -/
def wpMix (K : Act → World → Prop) : List Nat → Act → World → Prop
  | [], a, wb => ∀ w, Ext M wb w → K a w
  | i :: l, a, wb => opR P M ops rel i (wpMix K l) a wb

end

/-- may the operations be walked in this order? -/
def mixFrom (ops : Array Oper) (rel : Nat → Bool) : List Nat → Array Bool → Bool
  | [], listed => (Region.ready .any ops listed).isEmpty
  | i :: l, listed => (Region.ready .any ops listed).contains i && (bif rel i then (Region.ready .any ops listed) == [i] else Region.free .any ops listed i) &&
      mixFrom ops rel l (listed.setIfInBounds i true)

def mixB (n : Nat) (ops : Array Oper) (rel : Nat → Bool) (ord : List Nat) : Bool :=
  Region.noSelect ops && ord.length == ops.size && (ops.all fun o => match o.dst with | some d => Nat.blt d n | none => true) && mixFrom ops rel ord (Array.replicate ops.size false)

theorem wpAnyR_mix {P : Program} {M : Nat → Prop} {ops : Array Oper} {rel : Nat → Bool} {K : Act → World → Prop} (hs : Region.noSelect ops = true) : ∀ (l : List Nat) (listed : Array Bool) (a : Act) (wb : World),
    mixFrom ops rel l listed = true → wpMix P M ops rel K l a wb → wpAnyR P M ops rel .any K l.length listed a wb
  | [], listed, a, wb, hB, h => ⟨by simpa [mixFrom] using hB, h⟩
  | i :: l, listed, a, wb, hB, h => by
    simp only [mixFrom, Bool.and_eq_true] at hB
    obtain ⟨⟨hr, hf⟩, hB'⟩ := hB
    have hr' : i ∈ Region.ready .any ops listed := by simpa using hr
    have hm : opR P M ops rel i (wpAnyR P M ops rel .any K l.length (listed.setIfInBounds i true)) a wb :=
      opR_mono P M ops rel (fun a w h => wpAnyR_mix hs l _ a w hB' h) h
    cases hrel : rel i with
    | true =>
      rw [hrel] at hf
      have hf' : Region.ready .any ops listed = [i] := by simpa using hf
      refine ⟨fun h0 => (by rw [h0] at hr'; cases hr'), fun j hj => ?_⟩
      rw [hf'] at hj
      have : j = i := by simpa using hj
      subst this
      exact hm
    | false =>
      rw [hrel] at hf
      simp only [cond_false] at hf
      obtain ⟨_, o, ho, _⟩ := mem_ready.1 hr'
      have hy : ∃ c, FY P M ops o c a wb ∧ wpAnyR P M ops rel .any K l.length (listed.setIfInBounds i true) (a.put o.dst c) wb := by
        unfold opR at hm
        simp only [ho, hrel, Bool.false_eq_true, if_false] at hm
        split at hm
        · rename_i hw
          obtain ⟨c, h1, h2⟩ := hm
          exact ⟨c, .inl ⟨hw, h1⟩, h2⟩
        · rename_i hw
          exact ⟨undef, .inr ⟨by simpa using hw, rfl⟩, hm⟩
      obtain ⟨c, hc1, hc2⟩ := hy
      exact wpAnyR_first P M ops rel ho hrel (Region.noSelect_spec hs) l.length listed a wb (Region.free_spec ho hf) hr' hc1 hc2

/-! ### the same over frames as functions -/

abbrev DK := Fm → World → Prop

def nth : List Oper → Nat → Oper
  | [], _ => default
  | o :: _, 0 => o
  | _ :: l, i + 1 => nth l i

def isIn : List Nat → Nat → Bool
  | [], _ => false
  | j :: l, i => bif Nat.beq i j then true else isIn l i

def picks (ops : List Oper) (rl : List Nat) : List Nat → List (Oper × Bool)
  | [] => []
  | i :: l => (nth ops i, isIn rl i) :: picks ops rl l

def updO (f : Fm) (d : Option Nat) (v : Value) : Fm :=
  match d with
  | some d => upd f d v
  | none => f

def D (P : Program) (M : Nat → Prop) (ops : List Oper) (K : DK) : List (Oper × Bool) → Fm → World → Prop
  | [], f, wb => ∀ w, Ext M wb w → K f w
  | (o, r) :: l, f, wb =>
    if wantd ops f o = true then
      if r = true then ∀ w, Ext M wb w → relUpon P (fun v w' => Ext M w w' ∧ D P M ops K l (updO f o.dst v) w') ((execOp (ev f) o).run P w)
      else ∃ c, (∀ w, Ext M wb w → funUpon P M w c ((execOp (ev f) o).run P w)) ∧ D P M ops K l (updO f o.dst c) wb
    else D P M ops K l (updO f o.dst undef) wb

theorem nth_get : ∀ (ops : List Oper) (i : Nat), i < ops.length → ops[i]? = some (nth ops i)
  | [], i, h => absurd h (by simp)
  | o :: l, 0, _ => rfl
  | o :: l, i + 1, h => by simpa [nth] using nth_get l i (by simpa using h)

theorem wpMix_of_D {P : Program} {n : Nat} {M : Nat → Prop} {ops : List Oper} {rl : List Nat} {K : DK} {ds : List Deferred}
    (hd : (ops.toArray.all fun o => match o.dst with | some d => Nat.blt d n | none => true) = true) :
    ∀ (l : List Nat), (∀ i ∈ l, i < ops.length) → ∀ (f : Fm) (a : Act) (wb : World), Rp n f ds a → D P M ops K (picks ops rl l) f wb →
      wpMix P M ops.toArray (isIn rl) (fun a w => ∃ f, Rp n f ds a ∧ K f w) l a wb
  | [], _, f, a, wb, hr, h => fun w he => ⟨f, hr, h w he⟩
  | i :: l, hl, f, a, wb, hr, h => by
    have hi : ops.toArray[i]? = some (nth ops i) := by
      have := nth_get ops i (hl i List.mem_cons_self)
      simpa using this
    have hl' : ∀ j ∈ l, j < ops.length := fun j hj => hl j (List.mem_cons_of_mem _ hj)
    have hput : ∀ v, Rp n (updO f (nth ops i).dst v) ds (a.put (nth ops i).dst v) := by
      intro v
      have hm := Array.all_eq_true_iff_forall_mem.1 hd (nth ops i) (Array.mem_of_getElem? hi)
      cases hdst : (nth ops i).dst with
      | none => exact hr
      | some d =>
        rw [hdst] at hm
        exact hr.put hm v
    show opR P M ops.toArray (isIn rl) i _ a wb
    unfold opR
    simp only [hi]
    simp only [picks, D] at h
    rw [hr.wanted]
    split
    · rename_i hw
      rw [if_pos hw] at h
      split
      · rename_i hrel
        rw [if_pos hrel] at h
        intro w he
        rw [hr.eval]
        exact relUpon_mono P (fun v w' hv => ⟨hv.1, wpMix_of_D hd l hl' _ _ _ (hput v) hv.2⟩) (h w he)
      · rename_i hrel
        rw [if_neg hrel] at h
        obtain ⟨c, h1, h2⟩ := h
        rw [hr.eval]
        exact ⟨c, h1, wpMix_of_D hd l hl' _ _ _ (hput c) h2⟩
    · rename_i hw
      rw [if_neg hw] at h
      exact wpMix_of_D hd l hl' _ _ _ (hput undef) h

def ltB (m : Nat) : List Nat → Bool
  | [] => true
  | i :: l => Nat.blt i m && ltB m l

theorem ltB_spec {m : Nat} : ∀ {l : List Nat}, ltB m l = true → ∀ i ∈ l, i < m
  | [], _, i, hi => absurd hi (by simp)
  | j :: l, h, i, hi => by
    simp only [ltB, Bool.and_eq_true] at h
    rcases List.mem_cons.1 hi with rfl | hi
    · have h1 : i + 1 ≤ m := by simpa [Nat.blt] using h.1
      omega
    · exact ltB_spec h.2 i hi

/-- a region that draws its order: walked in the order 'ord'; the operations in 'rl' make or turn memory -/
theorem G_draw {P : Program} {n : Nat} {id : Nat} {ops : List Oper} {k : List It} {Q : Post} {f : Fm} {ds : List Deferred} {w : World} (M : Nat → Prop) (ord rl : List Nat)
    (hm : P.follows .mixedOrders = true) (hB : mixB n ops.toArray (isIn rl) ord = true) (hlt : ltB ops.length ord = true)
    (h : D P M ops (fun f w => G P n k Q f ds w) (picks ops rl ord) f w) : G P n (.code (.region id ops.toArray true) :: k) Q f ds w := by
  refine G_code fun a ha => ?_
  simp only [mixB, Bool.and_eq_true] at hB
  obtain ⟨⟨⟨h1, h2⟩, h3⟩, h4⟩ := hB
  refine wp_region_any hm ?_
  have hlen : ord.length = ops.toArray.size := by simpa using h2
  have hmix := wpMix_of_D (n := n) (ds := ds) h3 ord (ltB_spec hlt) f a w ha h
  have hR := wpAnyR_mix h1 ord (Array.replicate ops.toArray.size false) a w h4 hmix
  rw [hlen] at hR
  exact wpAny_of_R P M ops.toArray (isIn rl) (Q := lift n (H P n k Q)) (fun a w ⟨f, hr, hg⟩ => ⟨f, ds, hr, by rw [← G_def]; exact hg⟩) _ _ _ _ _ (Ext.drew w) hR

section
variable {P : Program} {M : Nat → Prop} {ops : List Oper} {K : DK} {rest : List (Oper × Bool)} {f : Fm} {wb : World}

theorem D_nil (h : ∀ w, Ext M wb w → K f w) : D P M ops K [] f wb := h

theorem D_val {o : Oper} {d : Nat} {v : Value} (hr : ∀ w, Ext M wb w → ∃ w', (execOp (ev f) o).run P w = .ok (.value v) w' ∧ Ext M w w') (hw : wantd ops f o = true) (hd : o.dst = some d)
    (h : D P M ops K rest (upd f d v) wb) : D P M ops K ((o, false) :: rest) f wb := by
  unfold D
  rw [if_pos hw, if_neg (by simp), hd]
  exact ⟨v, fun w he => by obtain ⟨w', h1, h2⟩ := hr w he; rw [h1]; exact ⟨rfl, h2⟩, h⟩

theorem D_call {o : Oper} {d : Nat} {v : Value} {g : FuncId} {args : Array Value} (hr : ∀ w, (execOp (ev f) o).run P w = .ok (.enter g args) w) (hw : wantd ops f o = true) (hd : o.dst = some d)
    (hc : ∀ w, Ext M wb w → Calls P g args w (fun e w'' => e = .returned v ∧ Ext M w w''))
    (h : D P M ops K rest (upd f d v) wb) : D P M ops K ((o, false) :: rest) f wb := by
  unfold D
  rw [if_pos hw, if_neg (by simp), hd]
  exact ⟨v, fun w he => by rw [hr w]; exact ⟨rfl, hc w he⟩, h⟩

theorem D_callR {o : Oper} {d : Nat} {g : FuncId} {args : Array Value} {R : World → Ending → World → Prop} (hr : ∀ w, (execOp (ev f) o).run P w = .ok (.enter g args) w) (hw : wantd ops f o = true) (hd : o.dst = some d)
    (hc : ∀ w, Ext M wb w → Calls P g args w (R w))
    (h : ∀ w e w', Ext M wb w → R w e w' → ∃ v, e = .returned v ∧ Ext M w w' ∧ D P M ops K rest (upd f d v) w') : D P M ops K ((o, true) :: rest) f wb := by
  unfold D
  rw [if_pos hw, if_pos rfl, hd]
  intro w he
  rw [hr w]
  exact (hc w he).mono fun e w' hR => h w e w' he hR

theorem D_valR {o : Oper} {d : Nat} (hw : wantd ops f o = true) (hd : o.dst = some d)
    (h : ∀ w, Ext M wb w → ∃ v w', (execOp (ev f) o).run P w = .ok (.value v) w' ∧ Ext M w w' ∧ D P M ops K rest (upd f d v) w') : D P M ops K ((o, true) :: rest) f wb := by
  unfold D
  rw [if_pos hw, if_pos rfl, hd]
  intro w he
  obtain ⟨v, w', h1, h2, h3⟩ := h w he
  rw [h1]
  exact ⟨h2, h3⟩

theorem D_unwanted {o : Oper} {d : Nat} {r : Bool} (hw : wantd ops f o = false) (hd : o.dst = some d)
    (h : D P M ops K rest (upd f d undef) wb) : D P M ops K ((o, r) :: rest) f wb := by
  unfold D
  rw [hw, if_neg (by simp), hd]
  exact h
end
attribute [irreducible] D
end Go.Proofs.YtjilnjifegeceaaGreatDoor

/-
  The walk's own rules, third part: what each operation does. What is asked of the program's types stands in small classes, whose instances are laid once.
-/
namespace Go.Proofs.YtjilnjifegeceaaGreatDoor

/-! ### what is asked of types -/

def offB (P : Program) (s i : Nat) : Option Nat :=
  match P.underlying s with
  | some (.struct fs) => (match fs[i]? with | some fl => (bif Nat.beq (P.cellsOf fl.type) 0 then none else (bif (P.info? fl.type).isSome then some fl.offset else none)) | none => none)
  | _ => none

/-- a type of one cell -/
def plainB (P : Program) (t : Nat) : Bool :=
  (match P.underlying t with | some (.struct _) | some (.array _ _) | none => false | _ => true) && (P.info? t).isSome && Nat.beq (P.cellsOf t) 1

def aggB (P : Program) (t n : Nat) : Bool :=
  (match P.underlying t with | some (.struct _) | some (.array _ _) => true | _ => false) && (P.info? t).isSome && Nat.beq (P.cellsOf t) n

class OffP (P : Program) (s i : Nat) (off : outParam Nat) : Prop where h : offB P s i = some off
class PlainT (P : Program) (t : Nat) : Prop where h : plainB P t = true
class AggT (P : Program) (t : Nat) (n : outParam Nat) : Prop where h : aggB P t n = true
class SliceT (P : Program) (t : Nat) (e sz : outParam Nat) : Prop where
  h : P.underlying t = some (.slice e)
  hs : P.cellsOf e = sz
  hi : (P.info? e).isSome = true
class ConcT (P : Program) (t : Nat) : Prop where h : (match P.underlying t with | some (.interface _) => false | none => false | _ => true) = true
class PtrT (P : Program) (t : Nat) : Prop where
  h : (match P.underlying t with | some (.pointer _) => true | _ => false) = true
  hz : (P.info? t).map (·.zero) = some (some (.pointer none))
class CallT (P : Program) (g : Nat) : Prop where h : ∀ args w, (callFunc g args).run P w = .ok (.enter g args) w

theorem call_of {P : Program} {g : Nat} {fn : Func} (h : P.funcs[g]? = some fn) (hn : (fn.name == "runtime.NumGoroutine") = false) (hb : fn.body.isNone = false) : CallT P g :=
  ⟨fun args w => by simp only [callFunc, Sem.run_bind, run_program, Result.andThen_ok, h, hn, hb]; rfl⟩

theorem PtrT.ex {P : Program} {t : Nat} (h : PtrT P t) : ∃ e i, P.underlying t = some (.pointer e) ∧ P.info? t = some i ∧ i.zero = some (.pointer none) := by
  have h1 := h.h
  have h2 := h.hz
  cases hu : P.underlying t with
  | none => rw [hu] at h1; cases h1
  | some d =>
    rw [hu] at h1
    cases hi : P.info? t with
    | none => rw [hi] at h2; cases h2
    | some i =>
      rw [hi] at h2
      cases d <;> first | (exact ⟨_, i, rfl, rfl, by simpa using h2⟩) | cases h1

theorem plain_under {P : Program} {t : Nat} (h : plainB P t = true) : ∃ d i, P.underlying t = some d ∧ (∀ fs, d ≠ .struct fs) ∧ (∀ n e, d ≠ .array n e) ∧ P.info? t = some i ∧ i.size = 1 := by
  unfold plainB at h
  simp only [Bool.and_eq_true] at h
  obtain ⟨⟨h1, h2⟩, h3⟩ := h
  have h3' := Nat.eq_of_beq_eq_true h3
  obtain ⟨i, hi⟩ := Option.isSome_iff_exists.1 h2
  have hsz : i.size = 1 := by simpa [Program.cellsOf, hi] using h3'
  cases hu : P.underlying t with
  | none => rw [hu] at h1; cases h1
  | some d =>
    refine ⟨d, i, rfl, fun fs he => ?_, fun n e he => ?_, hi, hsz⟩
    · subst he; rw [hu] at h1; cases h1
    · subst he; rw [hu] at h1; cases h1

theorem run_isAgg_plain' {P : Program} {t : Nat} (h : plainB P t = true) (w : World) : (isAgg t).run P w = .ok false w := by
  obtain ⟨d, i, hu, h1, h2, _⟩ := plain_under h
  simp only [isAgg, Sem.run_bind, run_underlying hu, Result.andThen_ok]
  cases d <;> first | rfl | exact absurd rfl (h1 _) | exact absurd rfl (h2 _ _)

theorem run_sizeOf_info {P : Program} {t : Nat} (h : (P.info? t).isSome = true) (w : World) : (sizeOf t).run P w = .ok (P.cellsOf t) w := by
  obtain ⟨i, hi⟩ := Option.isSome_iff_exists.1 h
  simp [sizeOf, typeInfo, hi, Program.cellsOf]

theorem run_isAgg_agg {P : Program} {t n : Nat} (h : aggB P t n = true) (w : World) : (isAgg t).run P w = .ok true w := by
  unfold aggB at h
  simp only [Bool.and_eq_true] at h
  obtain ⟨⟨h1, _⟩, _⟩ := h
  cases hu : P.underlying t with
  | none => rw [hu] at h1; cases h1
  | some d =>
    rw [hu] at h1
    simp only [isAgg, Sem.run_bind, run_underlying hu, Result.andThen_ok]
    cases d <;> first | rfl | cases h1

theorem run_sizeOf_agg {P : Program} {t n : Nat} (h : aggB P t n = true) (w : World) : (sizeOf t).run P w = .ok n w := by
  unfold aggB at h
  simp only [Bool.and_eq_true] at h
  rw [run_sizeOf_info h.1.2, Nat.eq_of_beq_eq_true h.2]

theorem run_sizeOf_plain {P : Program} {t : Nat} (h : plainB P t = true) (w : World) : (sizeOf t).run P w = .ok 1 w := by
  obtain ⟨d, i, _, _, _, hi, hs⟩ := plain_under h
  simp [sizeOf, typeInfo, hi, hs]

/-! ### cells -/

def lget : List Value → Nat → Option Value
  | [], _ => none
  | v :: _, 0 => some v
  | _ :: l, i + 1 => lget l i

theorem lget_eq : ∀ (l : List Value) (i : Nat), lget l i = l[i]?
  | [], _ => rfl
  | _ :: _, 0 => rfl
  | _ :: l, i + 1 => by simpa [lget] using lget_eq l i

def lset : List Value → Nat → Value → List Value
  | [], _, _ => []
  | _ :: l, 0, v => v :: l
  | u :: l, i + 1, v => u :: lset l i v

theorem lset_eq : ∀ (l : List Value) (i : Nat) (v : Value), lset l i v = l.set i v
  | [], _, _ => rfl
  | _ :: _, 0, _ => rfl
  | _ :: l, i + 1, v => by simpa [lset] using lset_eq l i v

theorem cell_of_heap {w : World} {b i : Nat} {cs : List Value} {T : TypeId} {fz : Nat × Nat} {v : Value} (hb : w.heap[b]? = some (.cells cs.toArray T fz)) (hv : lget cs i = some v) : w.cell? ⟨b, i, none⟩ = some v := by
  rw [lget_eq] at hv
  simp [World.cell?, hb, hv]

def Ob (cs : List Value) (T : TypeId) : Obj := .cells cs.toArray T (0, 0)

theorem frozen_ob {w : World} {b i : Nat} {cs : List Value} {T : TypeId} (hb : w.heap[b]? = some (Ob cs T)) : w.frozen? ⟨b, i, none⟩ = false := by
  simp [World.frozen?, hb, Ob]

/-! ### the operations -/

section
variable {P : Program} {f : Fm} {w : World} {dst : Option Nat} {ty : TypeId} {pos : String} {aft : Array Edge} {g : Option (Nat × Bool)}

theorem R_move {x : Operand} : (execOp (ev f) ⟨dst, .move x, ty, pos, aft, g⟩).run P w = .ok (.value (ev f x)) w := rfl
theorem R_assign {x : Operand} : (execOp (ev f) ⟨dst, .assign x, ty, pos, aft, g⟩).run P w = .ok (.value (ev f x)) w := rfl
theorem R_pickT {c x y : Operand} (h : ev f c = .bool true) : (execOp (ev f) ⟨dst, .pick c x y, ty, pos, aft, g⟩).run P w = .ok (.value (ev f x)) w := by
  simp [execOp, h, asBool]
theorem R_pickF {c x y : Operand} (h : ev f c = .bool false) : (execOp (ev f) ⟨dst, .pick c x y, ty, pos, aft, g⟩).run P w = .ok (.value (ev f y)) w := by
  simp [execOp, h, asBool]
theorem R_nil {x : Operand} {a : Addr} (h : ev f x = .pointer (some a)) : (execOp (ev f) ⟨dst, .nilCheck x, ty, pos, aft, g⟩).run P w = .ok (.value (.pointer (some a))) w := by
  simp [execOp, h]
theorem R_not {t : TypeId} {x : Operand} {b : Bool} (h : ev f x = .bool b) : (execOp (ev f) ⟨dst, .unOp .not t x, ty, pos, aft, g⟩).run P w = .ok (.value (.bool (!b))) w := by
  simp [execOp, h, Op.unary]
theorem R_extract {x : Operand} {vs : List Value} {i : Nat} {v : Value} (h : ev f x = .tuple vs.toArray) (hv : lget vs i = some v) : (execOp (ev f) ⟨dst, .extract x i, ty, pos, aft, g⟩).run P w = .ok (.value v) w := by
  rw [lget_eq] at hv
  simp [execOp, h, Instr.extract, hv]

theorem R_fa {s i : Nat} {x : Operand} {off b o : Nat} [ho : OffP P s i off] (h : ev f x = .pointer (some ⟨b, o, none⟩)) :
    (execOp (ev f) ⟨dst, .fieldAddr s x i, ty, pos, aft, g⟩).run P w = .ok (.value (.pointer (some ⟨b, o + off, none⟩))) w := by
  have ho := ho.h
  unfold offB at ho
  split at ho
  · rename_i fs hu
    split at ho
    · rename_i fl hfl
      cases hz : Nat.beq (P.cellsOf fl.type) 0 with
      | true => rw [hz] at ho; cases ho
      | false =>
        rw [hz] at ho
        simp only [cond_false] at ho
        cases hi : (P.info? fl.type).isSome with
        | false => rw [hi] at ho; cases ho
        | true =>
          rw [hi] at ho
          simp only [cond_true, Option.some.injEq] at ho
          have hne : P.cellsOf fl.type ≠ 0 := fun he => by rw [he] at hz; cases hz
          simp only [execOp, h, Instr.fieldAt, Sem.run_bind, run_underlying hu, Result.andThen_ok, hfl, Instr.sureAddr, Sem.run_pure, fieldPlace, run_sizeOf_info hi, hne, if_false, ho, Addr.add_lit]
    · cases ho
  · cases ho

theorem R_ia {t : Nat} {x ix : Operand} {e sz b o len cap : Nat} {kd : IntKind} {i : Int} [hs : SliceT P t e sz] (h : ev f x = .slice (some ⟨b, o, none⟩) len cap) (hi : ev f ix = .int kd i) (h0 : 0 ≤ i) (h1 : i < len) :
    (execOp (ev f) ⟨dst, .indexAddr t x ix, ty, pos, aft, g⟩).run P w = .ok (.value (.pointer (some ⟨b, o + i.toNat * sz, none⟩))) w := by
  simp only [execOp, h, hi, Instr.indexAt, asIntOf, Sem.run_bind, Sem.run_pure, Result.andThen_ok, run_underlying hs.h, h0, h1, and_self, if_true, run_sizeOf_info hs.hi, hs.hs, Addr.add_lit]

theorem R_mkI {xt : TypeId} {x : Operand} [hc : ConcT P xt] : (execOp (ev f) ⟨dst, .makeInterface xt x, ty, pos, aft, g⟩).run P w = .ok (.value (.iface xt (ev f x))) w := by
  have hc := hc.h
  cases hu : P.underlying xt with
  | none => rw [hu] at hc; cases hc
  | some d =>
    rw [hu] at hc
    simp only [execOp, Instr.makeInterface, Sem.run_bind, run_underlying hu, Result.andThen_ok]
    cases d <;> first | rfl | cases hc

theorem R_taY {x : Operand} {xt at_ : TypeId} {v : Value} [hp : PtrT P at_] (h : ev f x = .iface at_ v) :
    (execOp (ev f) ⟨dst, .typeAssert x xt at_ true, ty, pos, aft, g⟩).run P w = .ok (.value (.tuple [v, .bool true].toArray)) w := by
  obtain ⟨e, i, hu, hi, hz⟩ := hp.ex
  simp [execOp, h, Instr.typeAssert, run_underlying hu]

theorem R_taN {x : Operand} {xt at_ t : TypeId} {v : Value} [hp : PtrT P at_] (h : ev f x = .iface t v) (hne : Nat.beq t at_ = false) :
    (execOp (ev f) ⟨dst, .typeAssert x xt at_ true, ty, pos, aft, g⟩).run P w = .ok (.value (.tuple [.pointer none, .bool false].toArray)) w := by
  obtain ⟨e, i, hu, hi, hz⟩ := hp.ex
  have hne' : t ≠ at_ := fun he => by subst he; simp at hne
  simp [execOp, h, Instr.typeAssert, run_underlying hu, hne', zeroValue, typeInfo, hi, hz]

theorem R_taNil {x : Operand} {xt at_ : TypeId} [hp : PtrT P at_] (h : ev f x = .nilIface) :
    (execOp (ev f) ⟨dst, .typeAssert x xt at_ true, ty, pos, aft, g⟩).run P w = .ok (.value (.tuple [.pointer none, .bool false].toArray)) w := by
  obtain ⟨e, i, hu, hi, hz⟩ := hp.ex
  simp [execOp, h, Instr.typeAssert, run_underlying hu, zeroValue, typeInfo, hi, hz]

/-! numbers, bools, strings -/

theorem R_bin {op : BinOp} {xt yt : TypeId} {x y : Operand} {v : Value} (hg : eqGuard op xt x y (ev f x) (ev f y) = pure ()) (h : (binOp op xt (ev f x) (ev f y)).run P w = .ok v w) :
    (execOp (ev f) ⟨dst, .binOp op xt x y yt, ty, pos, aft, g⟩).run P w = .ok (.value v) w := by
  simp only [execOp, hg, Sem.run_bind, Sem.run_pure, Result.andThen_ok, h]

theorem R_eqI {xt yt : TypeId} {x y : Operand} {k : IntKind} {a b : Int} (hx : ev f x = .int k a) (hy : ev f y = .int k b) :
    (execOp (ev f) ⟨dst, .binOp .eql xt x y yt, ty, pos, aft, g⟩).run P w = .ok (.value (.bool (a == b))) w :=
  R_bin (by rw [hx]; exact eqGuard_at_int ..) (by rw [hx, hy, binOp_eql]; rfl)
theorem R_neI {xt yt : TypeId} {x y : Operand} {k : IntKind} {a b : Int} (hx : ev f x = .int k a) (hy : ev f y = .int k b) :
    (execOp (ev f) ⟨dst, .binOp .neq xt x y yt, ty, pos, aft, g⟩).run P w = .ok (.value (.bool (a != b))) w :=
  R_bin (by rw [hx]; exact eqGuard_at_int ..) (by rw [hx, hy, binOp_neq]; rfl)
theorem R_ltI {xt yt : TypeId} {x y : Operand} {k : IntKind} {a b : Int} (hx : ev f x = .int k a) (hy : ev f y = .int k b) :
    (execOp (ev f) ⟨dst, .binOp .lss xt x y yt, ty, pos, aft, g⟩).run P w = .ok (.value (.bool (decide (a < b)))) w :=
  R_bin rfl (by rw [hx, hy, binOp_lss]; rfl)
theorem R_leI {xt yt : TypeId} {x y : Operand} {k : IntKind} {a b : Int} (hx : ev f x = .int k a) (hy : ev f y = .int k b) :
    (execOp (ev f) ⟨dst, .binOp .leq xt x y yt, ty, pos, aft, g⟩).run P w = .ok (.value (.bool (decide (a ≤ b)))) w :=
  R_bin rfl (by rw [hx, hy, binOp_leq]; rfl)
theorem R_gtI {xt yt : TypeId} {x y : Operand} {k : IntKind} {a b : Int} (hx : ev f x = .int k a) (hy : ev f y = .int k b) :
    (execOp (ev f) ⟨dst, .binOp .gtr xt x y yt, ty, pos, aft, g⟩).run P w = .ok (.value (.bool (decide (a > b)))) w :=
  R_bin rfl (by rw [hx, hy, binOp_gtr]; rfl)
theorem R_geI {xt yt : TypeId} {x y : Operand} {k : IntKind} {a b : Int} (hx : ev f x = .int k a) (hy : ev f y = .int k b) :
    (execOp (ev f) ⟨dst, .binOp .geq xt x y yt, ty, pos, aft, g⟩).run P w = .ok (.value (.bool (decide (a ≥ b)))) w :=
  R_bin rfl (by rw [hx, hy, binOp_geq]; rfl)
theorem R_addI {xt yt : TypeId} {x y : Operand} {k : IntKind} {a b : Int} (hx : ev f x = .int k a) (hy : ev f y = .int k b) :
    (execOp (ev f) ⟨dst, .binOp .add xt x y yt, ty, pos, aft, g⟩).run P w = .ok (.value (.int k (k.wrap (a + b)))) w :=
  R_bin rfl (by rw [hx, hy, binOp_add]; rfl)
theorem R_subI {xt yt : TypeId} {x y : Operand} {k : IntKind} {a b : Int} (hx : ev f x = .int k a) (hy : ev f y = .int k b) :
    (execOp (ev f) ⟨dst, .binOp .sub xt x y yt, ty, pos, aft, g⟩).run P w = .ok (.value (.int k (k.wrap (a - b)))) w :=
  R_bin rfl (by rw [hx, hy, binOp_sub]; rfl)
theorem R_andI {xt yt : TypeId} {x y : Operand} {k : IntKind} {a b : Int} (hx : ev f x = .int k a) (hy : ev f y = .int k b) :
    (execOp (ev f) ⟨dst, .binOp .and xt x y yt, ty, pos, aft, g⟩).run P w = .ok (.value (.int k (bits .and k a b))) w :=
  R_bin rfl (by rw [hx, hy, binOp_and]; rfl)
theorem R_eqS {xt yt : TypeId} {x y : Operand} {a b : ByteArray} (hx : ev f x = .string a) (hy : ev f y = .string b) :
    (execOp (ev f) ⟨dst, .binOp .eql xt x y yt, ty, pos, aft, g⟩).run P w = .ok (.value (.bool (a.toList == b.toList))) w :=
  R_bin (by rw [hx]; exact eqGuard_at_string ..) (by rw [hx, hy]; rfl)
theorem R_neS {xt yt : TypeId} {x y : Operand} {a b : ByteArray} (hx : ev f x = .string a) (hy : ev f y = .string b) :
    (execOp (ev f) ⟨dst, .binOp .neq xt x y yt, ty, pos, aft, g⟩).run P w = .ok (.value (.bool !(a.toList == b.toList))) w :=
  R_bin (by rw [hx]; exact eqGuard_at_string ..) (by rw [hx, hy]; rfl)
theorem R_geS {xt yt : TypeId} {x y : Operand} {a b : ByteArray} (hx : ev f x = .string a) (hy : ev f y = .string b) :
    (execOp (ev f) ⟨dst, .binOp .geq xt x y yt, ty, pos, aft, g⟩).run P w = .ok (.value (.bool !(Op.bytesLess a.toList b.toList))) w :=
  R_bin rfl (by rw [hx, hy]; rfl)
theorem R_leS {xt yt : TypeId} {x y : Operand} {a b : ByteArray} (hx : ev f x = .string a) (hy : ev f y = .string b) :
    (execOp (ev f) ⟨dst, .binOp .leq xt x y yt, ty, pos, aft, g⟩).run P w = .ok (.value (.bool (Op.bytesLess a.toList b.toList || a.toList == b.toList))) w :=
  R_bin rfl (by rw [hx, hy]; rfl)

/-! comparisons -/

class BoolT (P : Program) (t : Nat) : Prop where h : P.underlying t = some .bool
class PtrEq (P : Program) (t : Nat) : Prop where
  h : (match P.underlying t with | some (.pointer e) => (P.info? e).isSome && !Nat.beq (P.cellsOf e) 0 | _ => false) = true
class IfcT (P : Program) (t : Nat) : Prop where h : (match P.underlying t with | some (.interface _) => true | _ => false) = true
class CmpT (P : Program) (t : Nat) : Prop where h : (P.info? t).map (·.comparable) = some true

theorem PtrEq.ex {P : Program} {t : Nat} (h : PtrEq P t) : ∃ e, P.underlying t = some (.pointer e) ∧ (P.info? e).isSome = true ∧ P.cellsOf e ≠ 0 := by
  have ht := h.h
  cases hu : P.underlying t with
  | none => rw [hu] at ht; cases ht
  | some d =>
    rw [hu] at ht
    cases d <;> first
      | (simp only [Bool.and_eq_true, Bool.not_eq_true'] at ht
         exact ⟨_, rfl, ht.1, fun he => by have := ht.2; rw [he] at this; cases this⟩)
      | cases ht
theorem IfcT.ex {P : Program} {t : Nat} (h : IfcT P t) : ∃ ms, P.underlying t = some (.interface ms) := by
  have ht := h.h
  cases hu : P.underlying t with
  | none => rw [hu] at ht; cases ht
  | some d =>
    rw [hu] at ht
    cases d <;> first | exact ⟨_, rfl⟩ | cases ht

theorem R_eqG {xt yt : TypeId} {x y : Operand} {u v : Value} {b : Bool} (hx : ev f x = u) (hy : ev f y = v) (hg : eqGuard .eql xt x y u v = pure ()) (hb : binOp .eql xt u v = (Op.equal xt u v >>= fun r => pure (.bool r)))
    (h : ∀ d, (Op.equalIn (d + 2) xt u v).run P w = .ok b w) : (execOp (ev f) ⟨dst, .binOp .eql xt x y yt, ty, pos, aft, g⟩).run P w = .ok (.value (.bool b)) w :=
  R_bin (by rw [hx, hy]; exact hg) (by
    rw [hx, hy, hb]
    have h2 := h 9998
    simp only [Op.equal, Op.maxDepth, Sem.run_bind, h2, Result.andThen_ok, Sem.run_pure])
theorem R_neG {xt yt : TypeId} {x y : Operand} {u v : Value} {b : Bool} (hx : ev f x = u) (hy : ev f y = v) (hg : eqGuard .neq xt x y u v = pure ()) (hb : binOp .neq xt u v = (Op.equal xt u v >>= fun r => pure (.bool (!r))))
    (h : ∀ d, (Op.equalIn (d + 2) xt u v).run P w = .ok b w) : (execOp (ev f) ⟨dst, .binOp .neq xt x y yt, ty, pos, aft, g⟩).run P w = .ok (.value (.bool (!b))) w :=
  R_bin (by rw [hx, hy]; exact hg) (by
    rw [hx, hy, hb]
    have h2 := h 9998
    simp only [Op.equal, Op.maxDepth, Sem.run_bind, h2, Result.andThen_ok, Sem.run_pure])

theorem R_eqB {xt yt : TypeId} {x y : Operand} {a b : Bool} [hb : BoolT P xt] (hx : ev f x = .bool a) (hy : ev f y = .bool b) :
    (execOp (ev f) ⟨dst, .binOp .eql xt x y yt, ty, pos, aft, g⟩).run P w = .ok (.value (.bool (a == b))) w :=
  R_eqG hx hy (eqGuard_at_bool ..) rfl fun d => by simp [Op.equalIn, run_underlying hb.h]
theorem R_neB {xt yt : TypeId} {x y : Operand} {a b : Bool} [hb : BoolT P xt] (hx : ev f x = .bool a) (hy : ev f y = .bool b) :
    (execOp (ev f) ⟨dst, .binOp .neq xt x y yt, ty, pos, aft, g⟩).run P w = .ok (.value (.bool (!(a == b)))) w :=
  R_neG hx hy (eqGuard_at_bool ..) rfl fun d => by simp [Op.equalIn, run_underlying hb.h]

/-- a block of cells that may be written, at least one cell -/
def Live (w : World) (b : Nat) : Prop := ∃ c cs T, w.heap[b]? = some (Ob (c :: cs) T)

theorem Ext.live {M : Nat → Prop} {w w' : World} (h : Ext M w w') {b : Nat} (hm : ¬ M b) (hl : Live w b) : Live w' b :=
  let ⟨c, cs, T, hb⟩ := hl; ⟨c, cs, T, h.heap hm hb⟩

theorem run_sameAddr {w : World} {a b : Nat} {i j : Nat} (ha : Live w a) (hb : Live w b) :
    (sameAddr ⟨a, i, none⟩ ⟨b, j, none⟩).run P w = .ok (decide ((⟨a, i, none⟩ : Addr) = ⟨b, j, none⟩)) w := by
  obtain ⟨ca, csa, Ta, ha⟩ := ha
  obtain ⟨cb, csb, Tb, hb⟩ := hb
  unfold sameAddr
  by_cases hab : a = b
  · subst hab
    simp
    rw [Bool.eq_iff_iff]
    simp
  · have hfa : ∀ k, w.frozen? ⟨a, k, none⟩ = false := fun k => frozen_ob ha
    have hfb : ∀ k, w.frozen? ⟨b, k, none⟩ = false := fun k => frozen_ob hb
    have hsa : w.shape? a = some (Ta, csa.length + 1) := by simp [World.shape?, ha, Ob]
    have hsb : w.shape? b = some (Tb, csb.length + 1) := by simp [World.shape?, hb, Ob]
    have hne : ((⟨a, i, none⟩ : Addr) = ⟨b, j, none⟩) ↔ False := by simp [hab]
    have hna : (Sem.run P (noView ⟨a, i, none⟩) w) = .ok () w := by
      simp [noView, viewAt, hsa]
    have hnb : (Sem.run P (noView ⟨b, j, none⟩) w) = .ok () w := by
      simp [noView, viewAt, hsb]
    have hga : (Sem.run P (stringish ⟨a, i, none⟩) w) = .ok false w := by
      simp [stringish, hfa, hsa]
    have hgb : (Sem.run P (stringish ⟨b, j, none⟩) w) = .ok false w := by
      simp [stringish, hfb, hsb]
    simp [hab, Sem.run_bind, hfa, hfb, hna, hnb, mayBeOne, hga, hgb]

def peq : Option Addr → Option Addr → Bool
  | some a, some b => decide (a = b)
  | none, none => true
  | _, _ => false

/-- a pointer that may be compared -/
def PLive (w : World) : Option Addr → Prop
  | none => True
  | some a => ∃ b i, a = ⟨b, i, none⟩ ∧ Live w b

theorem run_equalIn_ptr {d : Nat} {t : TypeId} {a b : Option Addr} [ht : PtrEq P t] (ha : PLive w a) (hb : PLive w b) :
    (Op.equalIn (d + 1) t (.pointer a) (.pointer b)).run P w = .ok (peq a b) w := by
  obtain ⟨e, hu, hi, hz⟩ := ht.ex
  cases a with
  | none => cases b <;> simp [Op.equalIn, run_underlying hu, peq]
  | some a =>
    cases b with
    | none => simp [Op.equalIn, run_underlying hu, peq]
    | some b =>
      obtain ⟨ba, ia, rfl, hla⟩ := ha
      obtain ⟨bb, ib, rfl, hlb⟩ := hb
      simp [Op.equalIn, run_underlying hu, run_sizeOf_info hi, hz, run_sameAddr hla hlb, peq]

theorem R_eqP {xt yt : TypeId} {x y : Operand} {a b : Option Addr} [PtrEq P xt] (hx : ev f x = .pointer a) (hy : ev f y = .pointer b) (ha : PLive w a) (hb : PLive w b) :
    (execOp (ev f) ⟨dst, .binOp .eql xt x y yt, ty, pos, aft, g⟩).run P w = .ok (.value (.bool (peq a b))) w :=
  R_eqG hx hy (eqGuard_at_pointer ..) rfl fun _ => run_equalIn_ptr ha hb
theorem R_neP {xt yt : TypeId} {x y : Operand} {a b : Option Addr} [PtrEq P xt] (hx : ev f x = .pointer a) (hy : ev f y = .pointer b) (ha : PLive w a) (hb : PLive w b) :
    (execOp (ev f) ⟨dst, .binOp .neq xt x y yt, ty, pos, aft, g⟩).run P w = .ok (.value (.bool (!(peq a b)))) w :=
  R_neG hx hy (eqGuard_at_pointer ..) rfl fun _ => run_equalIn_ptr ha hb
theorem run_equalIn_pn {d : Nat} {t : TypeId} {a : Option Addr} [ht : PtrEq P t] : (Op.equalIn (d + 1) t (.pointer a) (.pointer none)).run P w = .ok a.isNone w := by
  obtain ⟨e, hu, _⟩ := ht.ex
  cases a <;> simp [Op.equalIn, run_underlying hu]
/-- against nil no more is asked -/
theorem R_eqPN {xt yt : TypeId} {x y : Operand} {a : Option Addr} [PtrEq P xt] (hx : ev f x = .pointer a) (hy : ev f y = .pointer none) :
    (execOp (ev f) ⟨dst, .binOp .eql xt x y yt, ty, pos, aft, g⟩).run P w = .ok (.value (.bool a.isNone)) w :=
  R_eqG hx hy (eqGuard_at_pointer ..) rfl fun _ => run_equalIn_pn
theorem R_nePN {xt yt : TypeId} {x y : Operand} {a : Option Addr} [PtrEq P xt] (hx : ev f x = .pointer a) (hy : ev f y = .pointer none) :
    (execOp (ev f) ⟨dst, .binOp .neq xt x y yt, ty, pos, aft, g⟩).run P w = .ok (.value (.bool (!a.isNone))) w :=
  R_neG hx hy (eqGuard_at_pointer ..) rfl fun _ => run_equalIn_pn

/-- interface values: nil, or a pointer of a type -/
theorem run_equalIn_if {d : Nat} {t tx ty' : TypeId} {a b : Option Addr} [ht : IfcT P t] [PtrEq P tx] [hc : CmpT P tx] (ha : PLive w a) (hb : PLive w b) :
    (Op.equalIn (d + 2) t (.iface tx (.pointer a)) (.iface ty' (.pointer b))).run P w = .ok (Nat.beq tx ty' && peq a b) w := by
  obtain ⟨ms, hu⟩ := ht.ex
  have hc := hc.h
  by_cases he : tx = ty'
  · subst he
    cases hi : P.info? tx with
    | none => rw [hi] at hc; cases hc
    | some i =>
      rw [hi] at hc
      simp only [Option.map_some, Option.some.injEq] at hc
      have h2 := run_equalIn_ptr (P := P) (w := w) (d := d) (t := tx) ha hb
      unfold Op.equalIn
      simp only [Sem.run_bind, run_underlying hu, Result.andThen_ok, ne_eq, not_true_eq_false, if_false, typeInfo, run_program, hi, Sem.run_pure, hc, Bool.not_true, Bool.false_eq_true, h2, Nat.beq_refl, Bool.true_and]
  · have hb' : Nat.beq tx ty' = false := by
      cases hb' : Nat.beq tx ty' with
      | false => rfl
      | true => exact absurd (Nat.eq_of_beq_eq_true hb') he
    unfold Op.equalIn
    simp [run_underlying hu, he, hb']

theorem R_eqIf {xt yt : TypeId} {x y : Operand} {tx ty' : TypeId} {a b : Option Addr} [IfcT P xt] [PtrEq P tx] [CmpT P tx] (hx : ev f x = .iface tx (.pointer a)) (hy : ev f y = .iface ty' (.pointer b)) (ha : PLive w a) (hb : PLive w b) :
    (execOp (ev f) ⟨dst, .binOp .eql xt x y yt, ty, pos, aft, g⟩).run P w = .ok (.value (.bool (Nat.beq tx ty' && peq a b))) w :=
  R_eqG hx hy (eqGuard_at_iface ..) rfl fun _ => run_equalIn_if ha hb
theorem R_neIf {xt yt : TypeId} {x y : Operand} {tx ty' : TypeId} {a b : Option Addr} [IfcT P xt] [PtrEq P tx] [CmpT P tx] (hx : ev f x = .iface tx (.pointer a)) (hy : ev f y = .iface ty' (.pointer b)) (ha : PLive w a) (hb : PLive w b) :
    (execOp (ev f) ⟨dst, .binOp .neq xt x y yt, ty, pos, aft, g⟩).run P w = .ok (.value (.bool (!(Nat.beq tx ty' && peq a b)))) w :=
  R_neG hx hy (eqGuard_at_iface ..) rfl fun _ => run_equalIn_if ha hb
theorem run_equalIn_ifn {d : Nat} {t tx : TypeId} {v : Value} [ht : IfcT P t] : (Op.equalIn (d + 1) t (.iface tx v) .nilIface).run P w = .ok false w := by
  obtain ⟨ms, hu⟩ := ht.ex
  simp [Op.equalIn, run_underlying hu]
theorem run_equalIn_nn {d : Nat} {t : TypeId} [ht : IfcT P t] : (Op.equalIn (d + 1) t .nilIface .nilIface).run P w = .ok true w := by
  obtain ⟨ms, hu⟩ := ht.ex
  simp [Op.equalIn, run_underlying hu]
theorem R_eqIfN {xt yt : TypeId} {x y : Operand} {tx : TypeId} {v : Value} [IfcT P xt] (hx : ev f x = .iface tx v) (hy : ev f y = .nilIface) :
    (execOp (ev f) ⟨dst, .binOp .eql xt x y yt, ty, pos, aft, g⟩).run P w = .ok (.value (.bool false)) w :=
  R_eqG hx hy (eqGuard_at_iface ..) rfl fun _ => run_equalIn_ifn
theorem R_eqIfNN {xt yt : TypeId} {x : Operand} [IfcT P xt] (hx : ev f x = .nilIface) :
    (execOp (ev f) ⟨dst, .binOp .eql xt x (.const .nilIface) yt, ty, pos, aft, g⟩).run P w = .ok (.value (.bool true)) w :=
  R_eqG hx rfl (eqGuard_nil_constR ..) rfl fun _ => run_equalIn_nn
theorem R_neIfN {xt yt : TypeId} {x y : Operand} {tx : TypeId} {v : Value} [IfcT P xt] (hx : ev f x = .iface tx v) (hy : ev f y = .nilIface) :
    (execOp (ev f) ⟨dst, .binOp .neq xt x y yt, ty, pos, aft, g⟩).run P w = .ok (.value (.bool true)) w :=
  R_neG hx hy (eqGuard_at_iface ..) rfl fun _ => run_equalIn_ifn
theorem R_neIfNN {xt yt : TypeId} {x : Operand} [IfcT P xt] (hx : ev f x = .nilIface) :
    (execOp (ev f) ⟨dst, .binOp .neq xt x (.const .nilIface) yt, ty, pos, aft, g⟩).run P w = .ok (.value (.bool false)) w :=
  R_neG hx rfl (eqGuard_nil_constR ..) rfl fun _ => run_equalIn_nn

/-! memory -/

theorem R_load {t : Nat} {x : Operand} {a : Addr} {v : Value} [hp : PlainT P t] (hx : ev f x = .pointer (some a)) (hc : w.cell? a = some v) :
    (execOp (ev f) ⟨dst, .load t x, ty, pos, aft, g⟩).run P w = .ok (.value v) w := by
  simp only [execOp, hx, Instr.loadAt, Instr.sureAddr, Sem.run_bind, Sem.run_pure, Result.andThen_ok, loadVar, run_isAgg_plain' hp.h, Bool.false_eq_true, if_false, run_load, hc]

theorem R_loadB {t : Nat} {x : Operand} {b i : Nat} {cs : List Value} {T : TypeId} {v : Value} [hp : PlainT P t] (hx : ev f x = .pointer (some ⟨b, i, none⟩)) (hb : w.heap[b]? = some (Ob cs T)) (hv : lget cs i = some v) :
    (execOp (ev f) ⟨dst, .load t x, ty, pos, aft, g⟩).run P w = .ok (.value v) w :=
  R_load hx (cell_of_heap hb hv)

theorem run_loadCellsFrom {w : World} {b o : Nat} : ∀ (vs : List Value) (i : Nat) (acc : Array Value), (∀ j v, lget vs j = some v → w.cell? ⟨b, o + (i + j), none⟩ = some v) →
    (loadCellsFrom ⟨b, o, none⟩ i vs.length acc).run P w = .ok (acc ++ vs.toArray) w
  | [], i, acc, _ => by simp [loadCellsFrom]
  | v :: vs, i, acc, h => by
    have h0 : w.cell? ((⟨b, o, none⟩ : Addr).add i) = some v := by
      rw [Addr.add_lit]
      exact h 0 v rfl
    have ih := run_loadCellsFrom (w := w) (b := b) (o := o) vs (i + 1) (acc.push v) (fun j u hj => by
      have := h (j + 1) u hj
      rw [show i + 1 + j = i + (j + 1) by omega]
      exact this)
    simp only [List.length_cons, loadCellsFrom, Sem.run_bind, run_load, h0, Result.andThen_ok, ih]
    simp

theorem R_loadA {t n : Nat} {x : Operand} {b o : Nat} {vs : List Value} [hp : AggT P t n] (hx : ev f x = .pointer (some ⟨b, o, none⟩)) (hn : vs.length = n) (hc : ∀ j v, lget vs j = some v → w.cell? ⟨b, o + j, none⟩ = some v) :
    (execOp (ev f) ⟨dst, .load t x, ty, pos, aft, g⟩).run P w = .ok (.value (.agg vs.toArray)) w := by
  have h2 := run_loadCellsFrom (P := P) (w := w) (b := b) (o := o) vs 0 #[] (fun j v hj => by rw [Nat.zero_add]; exact hc j v hj)
  rw [hn] at h2
  simp only [execOp, hx, Instr.loadAt, Instr.sureAddr, Sem.run_bind, Sem.run_pure, Result.andThen_ok, loadVar, run_isAgg_agg hp.h, if_true, run_sizeOf_agg hp.h, loadCells, h2]
  simp

theorem R_loadAB {t n : Nat} {x : Operand} {b : Nat} {vs : List Value} {T : TypeId} [hp : AggT P t n] (hx : ev f x = .pointer (some ⟨b, 0, none⟩)) (hn : vs.length = n) (hb : w.heap[b]? = some (Ob vs T)) :
    (execOp (ev f) ⟨dst, .load t x, ty, pos, aft, g⟩).run P w = .ok (.value (.agg vs.toArray)) w :=
  R_loadA hx hn (fun j v hj => by rw [Nat.zero_add]; exact cell_of_heap hb hj)

/-- a block made anew -/
structure NewB (w w' : World) (b : Nat) (o : Obj) : Prop where
  here : w'.heap[b]? = some o
  ext : Ext No w w'
  fresh : b = w.heap.size
  size : w'.heap.size = w.heap.size + 1

theorem newB_alloc (w : World) (o : Obj) : NewB w (w.alloc o) w.heap.size o :=
  ⟨by show (w.heap.push o)[w.heap.size]? = _; simp, Ext.alloc w o, rfl, by simp⟩

theorem R_box {e : TypeId} {x : Operand} : (execOp (ev f) ⟨dst, .box e x, ty, pos, aft, g⟩).run P w =
    .ok (.value (.pointer (some ⟨w.heap.size, 0, none⟩))) (w.alloc (.cells (ev f x).cells e)) := by
  simp only [execOp, Instr.box, newVar, newRow, Sem.run_bind, run_newObj, Result.andThen_ok, Sem.run_pure]
  rfl

theorem R_alloc {e : TypeId} {z : Value} (hz : (zeroValue e).run P w = .ok z w) : (execOp (ev f) ⟨dst, .alloc e, ty, pos, aft, g⟩).run P w =
    .ok (.value (.pointer (some ⟨w.heap.size, 0, none⟩))) (w.alloc (.cells z.cells e)) := by
  simp only [execOp, Instr.alloc, newVar, newRow, Sem.run_bind, hz, run_newObj, Result.andThen_ok, Sem.run_pure]
  rfl

theorem heap_setCell {w : World} {b i : Nat} {cs : List Value} {T : TypeId} {v : Value} (hb : w.heap[b]? = some (Ob cs T)) : (w.setCell ⟨b, i, none⟩ v).heap[b]? = some (Ob (lset cs i v) T) := by
  show (w.heap.modify b _)[b]? = _
  rw [Array.getElem?_modify]
  simp [hb, Ob, lset_eq]

theorem R_storeB {t : Nat} {x y : Operand} {b i : Nat} {cs : List Value} {T : TypeId} {u : Value} [hp : PlainT P t] (hx : ev f x = .pointer (some ⟨b, i, none⟩)) (hb : w.heap[b]? = some (Ob cs T)) (hv : lget cs i = some u) (h1 : (ev f y).oneCell' = true) :
    (execOp (ev f) ⟨dst, .store t x y, ty, pos, aft, g⟩).run P w = .ok .skip (w.setCell ⟨b, i, none⟩ (ev f y)) := by
  have hc := cell_of_heap hb hv
  have hfz := frozen_ob (i := i) hb
  have hcells : (ev f y).cells = #[ev f y] := by
    cases hy : ev f y <;> first | rfl | (rw [hy] at h1; cases h1)
  simp only [execOp, hx, Instr.storeAt, Instr.sureAddr, Sem.run_bind, Sem.run_pure, Result.andThen_ok, storeVar, run_sizeOf_plain hp.h, hcells, storeCells, Addr.add_zero']
  simp only [List.size_toArray, List.length_cons, List.length_nil, Nat.zero_add, ne_eq, not_true_eq_false, if_false, Sem.run_bind, run_store P w ⟨b, i, none⟩ (ev f y) .plain h1, hc, hfz, Bool.false_eq_true, Result.andThen_ok, Sem.run_pure]

/-- a block, whole, laid anew -/
def World.setBlk (w : World) (b : Nat) (o : Obj) : World := { w with heap := w.heap.setIfInBounds b o }

theorem heap_setBlk {w : World} {b : Nat} {o : Obj} (h : b < w.heap.size) : (World.setBlk w b o).heap[b]? = some o := by
  simp [World.setBlk, h]
theorem Ext.setBlk {M : Nat → Prop} (w : World) (b : Nat) (o : Obj) (hm : M b) : Ext M w (World.setBlk w b o) :=
  ⟨rfl, rfl, rfl, by simp [World.setBlk], fun i _ hn => by
    show (w.heap.setIfInBounds b o)[i]? = _
    rw [Array.getElem?_setIfInBounds_ne (fun he => hn (by rw [← he]; exact hm))]⟩

def setFrom (cs : List Value) (i : Nat) : List Value → List Value
  | [] => cs
  | v :: vs => setFrom (lset cs i v) (i + 1) vs

theorem length_lset : ∀ (l : List Value) (i : Nat) (v : Value), (lset l i v).length = l.length
  | [], _, _ => rfl
  | _ :: _, 0, _ => rfl
  | _ :: l, i + 1, v => by simp [lset, length_lset l i v]

theorem setCell_setBlk {w : World} {b i : Nat} {cs : List Value} {T : TypeId} {v : Value} (hb : w.heap[b]? = some (Ob cs T)) : w.setCell ⟨b, i, none⟩ v = World.setBlk w b (Ob (lset cs i v) T) := by
  have hlt := lt_of_heap hb
  have e : (w.setCell ⟨b, i, none⟩ v).heap = (World.setBlk w b (Ob (lset cs i v) T)).heap := by
    apply Array.ext_getElem?
    intro j
    by_cases hj : j = b
    · subst hj; rw [heap_setCell hb, heap_setBlk hlt]
    · show (w.heap.modify b _)[j]? = (w.heap.setIfInBounds b _)[j]?
      rw [Array.getElem?_modify, Array.getElem?_setIfInBounds_ne (Ne.symm hj), if_neg (by simpa using Ne.symm hj)]
  unfold World.setBlk
  unfold World.setBlk at e
  unfold World.setCell at e ⊢
  simp only [World.mk.injEq, and_self, and_true]
  exact e

theorem setBlk_setBlk (w : World) (b : Nat) (o o' : Obj) : World.setBlk (World.setBlk w b o) b o' = World.setBlk w b o' := by
  simp [World.setBlk]

theorem run_storeCells (P : Program) {b : Nat} {T : TypeId} : ∀ (vs : List Value) (cs : List Value) (i : Nat) (w : World), w.heap[b]? = some (Ob cs T) → i + vs.length ≤ cs.length → (vs.all (·.oneCell')) = true →
    (storeCells ⟨b, 0, none⟩ vs i).run P w = .ok () (bif vs.isEmpty then w else World.setBlk w b (Ob (setFrom cs i vs) T))
  | [], cs, i, w, _, _, _ => rfl
  | v :: vs, cs, i, w, hb, hl, h1 => by
    simp only [List.all_cons, Bool.and_eq_true] at h1
    have hi : i < cs.length := by simp at hl; omega
    have hv : lget cs i = some (cs[i]) := by rw [lget_eq]; simp [hi]
    have hc := cell_of_heap hb hv
    have hfz := frozen_ob (i := i) hb
    have hlt := lt_of_heap hb
    have ih := run_storeCells P vs (lset cs i v) (i + 1) (World.setBlk w b (Ob (lset cs i v) T)) (heap_setBlk hlt) (by rw [length_lset]; simp at hl; omega) h1.2
    simp only [storeCells, Sem.run_bind, Addr.add_lit, Nat.zero_add, run_store P w ⟨b, i, none⟩ v .plain h1.1, hc, hfz, Bool.false_eq_true, if_false, Result.andThen_ok, setCell_setBlk hb, ih, List.isEmpty_cons, cond_false, setBlk_setBlk]
    cases vs with
    | nil => rfl
    | cons u us => rfl

theorem setFrom_all : ∀ (vs cs pre : List Value), vs.length = cs.length → setFrom (pre ++ cs) pre.length vs = pre ++ vs
  | [], [], pre, _ => rfl
  | v :: vs, c :: cs, pre, h => by
    have e : lset (pre ++ c :: cs) pre.length v = (pre ++ [v]) ++ cs := by
      rw [lset_eq]
      simp
    have ih := setFrom_all vs cs (pre ++ [v]) (by simpa using h)
    simp only [setFrom]
    rw [e]
    simp only [List.length_append, List.length_cons, List.length_nil, Nat.zero_add] at ih
    rw [ih]
    simp
  | [], _ :: _, _, h => by simp at h
  | _ :: _, [], _, h => by simp at h

theorem R_storeAB {t n : Nat} {x y : Operand} {b : Nat} {cs vs : List Value} {T : TypeId} [hp : AggT P t n] (hx : ev f x = .pointer (some ⟨b, 0, none⟩)) (hb : w.heap[b]? = some (Ob cs T)) (hy : ev f y = .agg vs.toArray)
    (hn : vs.length = n) (hc : cs.length = n) (h1 : vs.all (·.oneCell') = true) (hne : vs.isEmpty = false) :
    (execOp (ev f) ⟨dst, .store t x y, ty, pos, aft, g⟩).run P w = .ok .skip (World.setBlk w b (Ob vs T)) := by
  have h2 := run_storeCells P vs cs 0 w hb (by omega) h1
  have h3 := setFrom_all vs cs [] (by omega)
  simp only [List.nil_append, List.length_nil] at h3
  rw [hne, h3] at h2
  simp only [execOp, hx, hy, Instr.storeAt, Instr.sureAddr, Sem.run_bind, Sem.run_pure, Result.andThen_ok, storeVar, Value.cells, run_sizeOf_agg hp.h, List.size_toArray, hn, ne_eq, not_true_eq_false, if_false, h2, cond_false]

theorem R_len {t : Nat} {x : Operand} {p : Option Addr} {n c e sz : Nat} [hs : SliceT P t e sz] (hx : ev f x = .slice p n c) :
    (execOp (ev f) ⟨dst, .call ⟨.builtin .len, #[x], #[t]⟩, ty, pos, aft, g⟩).run P w = .ok (.value (.int .i64 n)) w := by
  simp only [execOp, resolve, Array.map, invoke]
  simp [hx, builtin, Builtin.len_, run_underlying hs.h, goInt]

/-- a call of a function by its number -/
theorem R_call {fn : FuncId} {xs : List Operand} {ts : Array TypeId} [hc : CallT P fn] :
    (execOp (ev f) ⟨dst, .call ⟨.value (.func fn), xs.toArray, ts⟩, ty, pos, aft, g⟩).run P w = .ok (.enter fn (xs.map (ev f)).toArray) w := by
  simp only [execOp, resolve, ev, Deferred.ofValue, Sem.run_bind, Sem.run_pure, Result.andThen_ok, invoke]
  simp [hc.h]
end
end Go.Proofs.YtjilnjifegeceaaGreatDoor

/-
  The walk's own rules, fourth part: structs, arrays and slices that are made.
-/
namespace Go.Proofs.YtjilnjifegeceaaGreatDoor

def pget : List (Nat × Nat) → Nat → Option (Nat × Nat)
  | [], _ => none
  | p :: _, 0 => some p
  | _ :: l, i + 1 => pget l i

theorem pget_eq : ∀ (l : List (Nat × Nat)) (i : Nat), pget l i = l[i]?
  | [], _ => rfl
  | _ :: _, 0 => rfl
  | _ :: l, i + 1 => by simpa [pget] using pget_eq l i

def fillL (place : Nat → Option (Nat × Nat)) : List Value → List (Nat × Value) → Option (List Value)
  | cs, [] => some cs
  | cs, (i, v) :: rest =>
    match place i with
    | none => none
    | some (off, size) => bif Nat.beq v.cells.size size && Nat.ble (off + size) cs.length then fillL place (setFrom cs off v.cells.toList) rest else none

theorem foldl_setFrom : ∀ (vs : List Value) (cs : List Value) (off j : Nat),
    (vs.zipIdx j).foldl (fun cs (x : Value × Nat) => cs.setIfInBounds (off + x.2) x.1) cs.toArray = (setFrom cs (off + j) vs).toArray
  | [], cs, off, j => by simp [setFrom]
  | v :: vs, cs, off, j => by
    simp only [List.zipIdx_cons, List.foldl_cons, setFrom]
    rw [List.setIfInBounds_toArray, ← lset_eq, foldl_setFrom vs (lset cs (off + j) v) off (j + 1)]
    rfl

theorem fill_eq {place : Nat → Option (Nat × Nat)} : ∀ (parts : List (Nat × Value)) (cs r : List Value), fillL place cs parts = some r → Instr.fill place cs.toArray parts = some r.toArray
  | [], cs, r, h => by simpa [fillL, Instr.fill] using h
  | (i, v) :: rest, cs, r, h => by
    simp only [fillL] at h
    simp only [Instr.fill]
    cases hp : place i with
    | none => rw [hp] at h; cases h
    | some p =>
      obtain ⟨off, size⟩ := p
      rw [hp] at h
      cases hc : Nat.beq v.cells.size size && Nat.ble (off + size) cs.length with
      | false => simp only [hc, cond_false] at h; cases h
      | true =>
        simp only [hc, cond_true] at h
        simp only [Bool.and_eq_true] at hc
        have h1 := Nat.eq_of_beq_eq_true hc.1
        have h2 := Nat.le_of_ble_eq_true hc.2
        have ih := fill_eq rest _ r h
        have hcond : (decide (v.cells.size ≠ size) || decide (off + v.cells.size > cs.toArray.size)) = false := by
          simp [h1]; omega
        simp only [hcond, Bool.false_eq_true, if_false]
        have hfold := foldl_setFrom v.cells.toList cs off 0
        rw [← ih]
        congr 1
        rw [← Nat.add_zero off] at hfold
        rw [← Array.foldl_toList, Array.toList_zipIdx]
        simpa using hfold

/-- a struct type: its zero's cells, its fields' places -/
class StructT (P : Program) (t : Nat) (zs : outParam (List Value)) (offs : outParam (List (Nat × Nat))) : Prop where
  hz : (P.info? t).map (·.zero) = some (some (.agg zs.toArray))
  hf : (match P.underlying t with | some (.struct fs) => some (fs.toList.map fun fl => (fl.offset, P.cellsOf fl.type, (P.info? fl.type).isSome)) | _ => none) = some (offs.map fun p => (p.1, p.2, true))

/-- an array type -/
class ArrT (P : Program) (t : Nat) (zs : outParam (List Value)) (n e sz : outParam Nat) : Prop where
  hz : (P.info? t).map (·.zero) = some (some (.agg zs.toArray))
  hu : P.underlying t = some (.array n e)
  hs : P.cellsOf e = sz
  hi : (P.info? e).isSome = true
  hn : Nat.ble 2 n = true

/-- an array type, for its places alone -/
class ArrI (P : Program) (t : Nat) (n e sz : outParam Nat) : Prop where
  hu : P.underlying t = some (.array n e)
  hs : P.cellsOf e = sz
  hi : (P.info? e).isSome = true
  hn : Nat.ble 2 n = true

class IntT (P : Program) (t : Nat) (k : outParam IntKind) : Prop where
  h : P.underlying t = some (.int k)

class ZeroT (P : Program) (t : Nat) (z : outParam Value) : Prop where
  hz : (P.info? t).map (·.zero) = some (some z)

section
variable {P : Program} {f : Fm} {w : World} {dst : Option Nat} {ty : TypeId} {pos : String} {aft : Array Edge} {g : Option (Nat × Bool)}

theorem run_zero {t : Nat} {z : Value} (h : (P.info? t).map (·.zero) = some (some z)) : (zeroValue t).run P w = .ok z w := by
  cases hi : P.info? t with
  | none => rw [hi] at h; cases h
  | some i =>
    rw [hi] at h
    simp only [Option.map_some, Option.some.injEq] at h
    simp [zeroValue, typeInfo, hi, h]

theorem run_places (w : World) : ∀ (fs : List Field) (offs : List (Nat × Nat)), (fs.map fun fl => (fl.offset, P.cellsOf fl.type, (P.info? fl.type).isSome)) = (offs.map fun p => (p.1, p.2, true)) →
    (fs.mapM fun fl => (do pure (fl.offset, ← sizeOf fl.type) : Sem (Nat × Nat))).run P w = .ok offs w
  | [], [], _ => by simp
  | fl :: fs, p :: offs, h => by
    simp only [List.map_cons, List.cons.injEq, Prod.mk.injEq] at h
    obtain ⟨⟨h1, h2, h3⟩, h4⟩ := h
    have ih := run_places w fs offs h4
    rw [List.mapM_cons]
    simp only [Sem.run_bind, run_sizeOf_info h3, Result.andThen_ok, Sem.run_pure, ih]
    rw [h1, h2]
  | [], _ :: _, h => by simp at h
  | _ :: _, [], h => by simp at h

theorem map_parts (parts : List (Nat × Operand)) : (parts.toArray.map fun (i, x) => (i, ev f x)).toList = parts.map fun (p : Nat × Operand) => (p.1, ev f p.2) := by simp

theorem R_build {t : Nat} {parts : List (Nat × Operand)} {zs cs : List Value} {offs : List (Nat × Nat)} [hs : StructT P t zs offs]
    (h : fillL (pget offs) zs (parts.map fun p => (p.1, ev f p.2)) = some cs) :
    (execOp (ev f) ⟨dst, .build t parts.toArray, ty, pos, aft, g⟩).run P w = .ok (.value (.agg cs.toArray)) w := by
  have hf := hs.hf
  cases hu : P.underlying t with
  | none => rw [hu] at hf; cases hf
  | some d =>
    rw [hu] at hf
    cases d <;> try cases hf
    rename_i fs
    simp only [Option.some.injEq] at hf
    have hm := run_places w fs.toList offs hf
    have hm' : (fs.mapM fun fl => (do pure (fl.offset, ← sizeOf fl.type) : Sem (Nat × Nat))).run P w = .ok offs.toArray w := by
      rw [Array.mapM_eq_mapM_toList]
      simp only [Sem.run_map, hm, Result.andThen_ok]
    have hfill := fill_eq (parts.map fun p => (p.1, ev f p.2)) zs cs h
    have hpl : (fun i => offs.toArray[i]?) = pget offs := by funext i; rw [pget_eq]; simp
    simp only [execOp, Instr.build, Sem.run_bind, run_zero hs.hz, Result.andThen_ok, run_underlying hu, Value.cells, hm', map_parts]
    rw [hpl, hfill]
    rfl

theorem R_buildArr {t n e sz : Nat} {parts : List (Nat × Operand)} {zs cs : List Value} [hs : ArrT P t zs n e sz]
    (h : fillL (fun i => some (i * sz, sz)) zs (parts.map fun p => (p.1, ev f p.2)) = some cs) :
    (execOp (ev f) ⟨dst, .build t parts.toArray, ty, pos, aft, g⟩).run P w = .ok (.value (.agg cs.toArray)) w := by
  have hfill := fill_eq (parts.map fun p => (p.1, ev f p.2)) zs cs h
  simp only [execOp, Instr.build, Sem.run_bind, run_zero hs.hz, Result.andThen_ok, run_underlying hs.hu, Value.cells, run_sizeOf_info hs.hi, hs.hs, map_parts, hfill]
  rfl

theorem R_iaArr {t n e sz : Nat} {x ix : Operand} {b o : Nat} {kd : IntKind} {i : Int} [hs : ArrI P t n e sz] (h : ev f x = .pointer (some ⟨b, o, none⟩)) (hi : ev f ix = .int kd i) (h0 : 0 ≤ i) (h1 : i < n) :
    (execOp (ev f) ⟨dst, .indexAddr t x ix, ty, pos, aft, g⟩).run P w = .ok (.value (.pointer (some ⟨b, o + i.toNat * sz, none⟩))) w := by
  simp only [execOp, h, hi, Instr.indexAt, asIntOf, Sem.run_bind, Sem.run_pure, Result.andThen_ok, run_underlying hs.hu, Instr.sureAddr, h0, h1, and_self, if_true, run_sizeOf_info hs.hi, hs.hs, Addr.add_lit]

theorem R_conv {s t : Nat} {x : Operand} {k k' : IntKind} {n : Int} [hs : IntT P s k'] [ht : IntT P t k] (h : ev f x = .int k' n) :
    (execOp (ev f) ⟨dst, .convert s t x, ty, pos, aft, g⟩).run P w = .ok (.value (.int k (k.wrap n))) w := by
  simp [execOp, h, convert, run_underlying hs.h, run_underlying ht.h, Conv.intToInt]

class StrT (P : Program) (t : Nat) : Prop where
  h : P.underlying t = some .string

theorem R_indexS {t : Nat} {x ix : Operand} {s : ByteArray} {kd : IntKind} {i : Int} {u : UInt8} [hs : StrT P t] (h : ev f x = .string s) (hi : ev f ix = .int kd i) (h0 : 0 ≤ i) (hu : s[i.toNat]? = some u) :
    (execOp (ev f) ⟨dst, .index t x ix, ty, pos, aft, g⟩).run P w = .ok (.value (.int .u8 u.toNat)) w := by
  simp [execOp, h, hi, Instr.index, asIntOf, run_underlying hs.h, h0, hu]

theorem R_allocZ {t : Nat} {z : Value} [hz : ZeroT P t z] : (execOp (ev f) ⟨dst, .alloc t, ty, pos, aft, g⟩).run P w =
    .ok (.value (.pointer (some ⟨w.heap.size, 0, none⟩))) (w.alloc (.cells z.cells t)) := R_alloc (run_zero hz.hz)
theorem R_allocS {t : Nat} {zs : List Value} {offs : List (Nat × Nat)} [hz : StructT P t zs offs] : (execOp (ev f) ⟨dst, .alloc t, ty, pos, aft, g⟩).run P w =
    .ok (.value (.pointer (some ⟨w.heap.size, 0, none⟩))) (w.alloc (Ob zs t)) := R_alloc (run_zero hz.hz)

/-! slices written out -/

def flat : List Value → List Value
  | [] => []
  | v :: vs => v.cells.toList ++ flat vs

def sizesB (sz : Nat) : List Value → Bool
  | [] => true
  | v :: vs => Nat.beq v.cells.size sz && sizesB sz vs

def fromIdx : Nat → List Value → List (Nat × Value)
  | _, [] => []
  | i, v :: vs => (i, v) :: fromIdx (i + 1) vs

class SlZ (P : Program) (t : Nat) : Prop where
  h : (match P.underlying t with | some (.slice e) => (match (P.info? e).map (·.zero) with | some (some z) => Nat.beq z.cells.size (P.cellsOf e) && !Nat.beq (P.cellsOf e) 0 | _ => false) | _ => false) = true

theorem setFrom_mid : ∀ (vs pre mid post : List Value), vs.length = mid.length → setFrom (pre ++ (mid ++ post)) pre.length vs = pre ++ (vs ++ post)
  | [], pre, [], post, _ => by simp [setFrom]
  | v :: vs, pre, c :: mid, post, h => by
    have e : lset (pre ++ (c :: mid ++ post)) pre.length v = (pre ++ [v]) ++ (mid ++ post) := by
      rw [lset_eq]; simp
    have ih := setFrom_mid vs (pre ++ [v]) mid post (by simpa using h)
    simp only [setFrom]
    rw [e]
    simp only [List.length_append, List.length_cons, List.length_nil, Nat.zero_add] at ih
    rw [ih]
    simp
  | [], _, _ :: _, _, h => by simp at h
  | _ :: _, _, [], _, h => by simp at h

theorem fillL_flat (sz : Nat) : ∀ (vs : List Value) (i : Nat) (pre post : List Value), sizesB sz vs = true → pre.length = i * sz → post.length = vs.length * sz →
    fillL (fun i => some (i * sz, sz)) (pre ++ post) (fromIdx i vs) = some (pre ++ flat vs)
  | [], i, pre, post, _, _, hp => by
    have : post = [] := List.eq_nil_of_length_eq_zero (by simpa using hp)
    subst this
    simp [fromIdx, fillL, flat]
  | v :: vs, i, pre, post, hs, hpre, hp => by
    simp only [sizesB, Bool.and_eq_true] at hs
    have h1 := Nat.eq_of_beq_eq_true hs.1
    have hlen : v.cells.toList.length = sz := by simpa using h1
    have hge : sz ≤ post.length := by rw [hp, List.length_cons, Nat.add_mul]; omega
    have hsplit : post = post.take sz ++ post.drop sz := (List.take_append_drop sz post).symm
    have hset : setFrom (pre ++ post) (i * sz) v.cells.toList = (pre ++ v.cells.toList) ++ post.drop sz := by
      rw [← hpre]
      conv => lhs; rw [hsplit]
      rw [setFrom_mid v.cells.toList pre (post.take sz) (post.drop sz) (by rw [hlen, List.length_take]; omega)]
      simp
    have hb : (Nat.beq v.cells.size sz && Nat.ble (i * sz + sz) (pre ++ post).length) = true := by
      rw [Bool.and_eq_true]
      exact ⟨hs.1, Nat.ble_eq_true_of_le (by rw [List.length_append, hpre]; omega)⟩
    simp only [fromIdx, fillL, hb, cond_true]
    rw [hset, fillL_flat sz vs (i + 1) (pre ++ v.cells.toList) (post.drop sz) hs.2 (by rw [List.length_append, hpre, hlen, Nat.add_mul]; omega)
      (by rw [List.length_drop, hp, List.length_cons, Nat.add_mul]; omega)]
    simp [flat]

theorem R_buildSlice {t n e sz : Nat} {parts : List (Nat × Operand)} {vs : List Value} [hs : SliceT P t e sz] [hz : SlZ P t]
    (hp : (parts.map fun p => (p.1, ev f p.2)) = fromIdx 0 vs) (hv : sizesB sz vs = true) (hn : vs.length = n) (hb : Nat.ble (n * sz) 16777216 = true) :
    (execOp (ev f) ⟨dst, .buildSlice t n parts.toArray, ty, pos, aft, g⟩).run P w =
      .ok (.value (.slice (some ⟨w.heap.size, 0, none⟩) n n)) (w.alloc (Ob (flat vs) e)) := by
  have hz := hz.h
  rw [hs.h] at hz
  simp only [hs.hs] at hz
  cases hzz : (P.info? e).map (·.zero) with
  | none => rw [hzz] at hz; cases hz
  | some oz =>
    rw [hzz] at hz
    cases oz with
    | none => cases hz
    | some z =>
      simp only [Bool.and_eq_true, Bool.not_eq_true'] at hz
      have hz1 := Nat.eq_of_beq_eq_true hz.1
      have hb' := Nat.le_of_ble_eq_true hb
      have hzero := run_zero (w := w) hzz
      have hle : ¬ (n * sz > 2 ^ 24) := by omega
      have key : ∀ post : List Value, post.length = n * sz → Instr.fill (fun i => some (i * sz, sz)) post.toArray (fromIdx 0 vs) = some (flat vs).toArray := by
        intro post hpost
        have := fillL_flat sz vs 0 [] post hv (by simp) (by rw [hpost, hn])
        simp only [List.nil_append] at this
        exact fill_eq _ _ _ this
      have key' : ∀ A : Array Value, A.size = n * sz → Instr.fill (fun i => some (i * sz, sz)) A (fromIdx 0 vs) = some (flat vs).toArray := by
        intro A hA
        have := key A.toList (by simpa using hA)
        simpa using this
      simp only [execOp, Instr.buildSlice, Sem.run_bind, run_underlying hs.h, Result.andThen_ok, run_sizeOf_info hs.hi, hs.hs, hle, if_false, map_parts, hp]
      by_cases h0 : n * sz = 0
      · simp only [h0, if_true, pure_bind]
        rw [key' (Array.map _ (Array.range 0)) (by simp [h0])]
        simp only [newRow, Sem.run_bind, run_newObj, Result.andThen_ok, Sem.run_pure]
        rfl
      · simp only [h0, if_false, Sem.run_bind, hzero, Sem.run_pure, Result.andThen_ok]
        rw [key' _ (by simp)]
        simp only [newRow, Sem.run_bind, run_newObj, Result.andThen_ok, Sem.run_pure]
        rfl
end
end Go.Proofs.YtjilnjifegeceaaGreatDoor

/-
  The walk's own rules, fifth part: the shapes of contracts, and the steps as they are used.
-/
namespace Go.Proofs.YtjilnjifegeceaaGreatDoor

/-- the call returns, and of the value and the world behind it this is known -/
def Ret (Φ : Value → World → Prop) : Ending → World → Prop := fun e w => ∃ v, e = .returned v ∧ Φ v w
/-- this very value, the world as it was -/
def Is (c : Value) (w : World) : Value → World → Prop := fun v w' => v = c ∧ w' = w
/-- this very value, nothing turned -/
def Qt (c : Value) (w : World) : Value → World → Prop := fun v w' => v = c ∧ Ext No w w'

theorem Is.qt {P : Program} {g : FuncId} {args : Array Value} {c : Value} {w : World} (h : Calls P g args w (Ret (Is c w))) : Calls P g args w (Ret (Qt c w)) :=
  h.mono fun _ _ ⟨v, he, hv, hw⟩ => ⟨v, he, hv, hw ▸ Ext.refl _ _⟩

/-- what lies in memory for good -/
abbrev Hp := Nat → Option Obj
def Agree (H : Hp) (w : World) : Prop := ∀ b o, H b = some o → w.heap[b]? = some o
theorem Agree.ext {H : Hp} {M : Nat → Prop} {w w' : World} (h : Agree H w) (he : Ext M w w') (hm : ∀ b o, H b = some o → ¬ M b) : Agree H w' :=
  fun b o hb => he.heap (hm b o hb) (h b o hb)
theorem Agree.ext0 {H : Hp} {w w' : World} (h : Agree H w) (he : Ext No w w') : Agree H w' := h.ext he fun _ _ _ => id

section
variable {P : Program} {n : Nat} {ops rest : List Oper} {K : LK} {f : Fm} {ds : List Deferred} {w w' : World}
variable {dst : Option Nat} {ty : TypeId} {pos : String} {aft : Array Edge} {g : Option (Nat × Bool)}

theorem R_loadH {H : Hp} {t : Nat} {x : Operand} {b i : Nat} {cs : List Value} {T : TypeId} {v : Value} [hp : PlainT P t] (hA : Agree H w) (hx : ev f x = .pointer (some ⟨b, i, none⟩)) (hb : H b = some (Ob cs T)) (hv : lget cs i = some v) :
    (execOp (ev f) ⟨dst, .load t x, ty, pos, aft, g⟩).run P w = .ok (.value v) w :=
  R_loadB hx (hA _ _ hb) hv

/-- a test whose outcome is known -/
theorem L_valB {o : Oper} {d : Nat} {b b' : Bool} (hr : (execOp (ev f) o).run P w = .ok (.value (.bool b)) w') (hb : b = b') (hw : wantd ops f o = true) (hd : o.dst = some d) (hn : Nat.blt d n = true)
    (h : L P n ops K rest (upd f d (.bool b')) ds w') : L P n ops K (o :: rest) f ds w :=
  L_val hr hw hd hn (by rw [hb]; exact h)
/-- a value, written otherwise -/
theorem L_valE {o : Oper} {d : Nat} {v v' : Value} (hr : (execOp (ev f) o).run P w = .ok (.value v) w') (hb : v = v') (hw : wantd ops f o = true) (hd : o.dst = some d) (hn : Nat.blt d n = true)
    (h : L P n ops K rest (upd f d v') ds w') : L P n ops K (o :: rest) f ds w :=
  L_val hr hw hd hn (by rw [hb]; exact h)

theorem L_callR {d : Nat} {fn : FuncId} {xs : List Operand} {ts : Array TypeId} [CallT P fn] {Φ : Value → World → Prop}
    (hc : Calls P fn (xs.map (ev f)).toArray w (Ret Φ)) (hw : wantd ops f ⟨some d, .call ⟨.value (.func fn), xs.toArray, ts⟩, ty, pos, aft, g⟩ = true) (hn : Nat.blt d n = true)
    (h : ∀ v w', Φ v w' → L P n ops K rest (upd f d v) ds w') : L P n ops K (⟨some d, .call ⟨.value (.func fn), xs.toArray, ts⟩, ty, pos, aft, g⟩ :: rest) f ds w :=
  L_enter R_call hw rfl hn hc fun _ w' ⟨v, he, hv⟩ => ⟨v, he, h v w' hv⟩

theorem L_callI {d : Nat} {fn : FuncId} {xs : List Operand} {ts : Array TypeId} [CallT P fn] {c : Value}
    (hc : Calls P fn (xs.map (ev f)).toArray w (Ret (Is c w))) (hw : wantd ops f ⟨some d, .call ⟨.value (.func fn), xs.toArray, ts⟩, ty, pos, aft, g⟩ = true) (hn : Nat.blt d n = true)
    (h : L P n ops K rest (upd f d c) ds w) : L P n ops K (⟨some d, .call ⟨.value (.func fn), xs.toArray, ts⟩, ty, pos, aft, g⟩ :: rest) f ds w :=
  L_callR hc hw hn fun v w' ⟨hv, hw'⟩ => by subst hv; subst hw'; exact h

theorem L_callQ {d : Nat} {fn : FuncId} {xs : List Operand} {ts : Array TypeId} [CallT P fn] {c : Value}
    (hc : Calls P fn (xs.map (ev f)).toArray w (Ret (Qt c w))) (hw : wantd ops f ⟨some d, .call ⟨.value (.func fn), xs.toArray, ts⟩, ty, pos, aft, g⟩ = true) (hn : Nat.blt d n = true)
    (h : ∀ w', Ext No w w' → L P n ops K rest (upd f d c) ds w') : L P n ops K (⟨some d, .call ⟨.value (.func fn), xs.toArray, ts⟩, ty, pos, aft, g⟩ :: rest) f ds w :=
  L_callR hc hw hn fun v w' ⟨hv, hw'⟩ => by subst hv; exact h w' hw'

/-- a new block -/
theorem L_box {d : Nat} {e : TypeId} {x : Operand} {cs : List Value} (hcs : (ev f x).cells = cs.toArray) (hw : wantd ops f ⟨some d, .box e x, ty, pos, aft, g⟩ = true) (hn : Nat.blt d n = true)
    (h : ∀ b w', NewB w w' b (Ob cs e) → L P n ops K rest (upd f d (.pointer (some ⟨b, 0, none⟩))) ds w') : L P n ops K (⟨some d, .box e x, ty, pos, aft, g⟩ :: rest) f ds w :=
  L_val R_box hw rfl hn (by rw [hcs]; exact h _ _ (newB_alloc w (Ob cs e)))

theorem L_allocS {d : Nat} {t : TypeId} {zs : List Value} {offs : List (Nat × Nat)} [StructT P t zs offs] (hw : wantd ops f ⟨some d, .alloc t, ty, pos, aft, g⟩ = true) (hn : Nat.blt d n = true)
    (h : ∀ b w', NewB w w' b (Ob zs t) → L P n ops K rest (upd f d (.pointer (some ⟨b, 0, none⟩))) ds w') : L P n ops K (⟨some d, .alloc t, ty, pos, aft, g⟩ :: rest) f ds w :=
  L_val R_allocS hw rfl hn (h _ _ (newB_alloc w (Ob zs t)))

theorem L_allocZ {d : Nat} {t : TypeId} {z : Value} [ZeroT P t z] {cs : List Value} (hcs : z.cells = cs.toArray) (hw : wantd ops f ⟨some d, .alloc t, ty, pos, aft, g⟩ = true) (hn : Nat.blt d n = true)
    (h : ∀ b w', NewB w w' b (Ob cs t) → L P n ops K rest (upd f d (.pointer (some ⟨b, 0, none⟩))) ds w') : L P n ops K (⟨some d, .alloc t, ty, pos, aft, g⟩ :: rest) f ds w :=
  L_val R_allocZ hw rfl hn (by rw [hcs]; exact h _ _ (newB_alloc w (Ob cs t)))

theorem L_buildSlice {d t m e sz : Nat} {parts : List (Nat × Operand)} {vs : List Value} [SliceT P t e sz] [SlZ P t]
    (hp : (parts.map fun p => (p.1, ev f p.2)) = fromIdx 0 vs) (hv : sizesB sz vs = true) (hl : vs.length = m) (hb : Nat.ble (m * sz) 16777216 = true)
    (hw : wantd ops f ⟨some d, .buildSlice t m parts.toArray, ty, pos, aft, g⟩ = true) (hn : Nat.blt d n = true)
    (h : ∀ b w', NewB w w' b (Ob (flat vs) e) → L P n ops K rest (upd f d (.slice (some ⟨b, 0, none⟩) m m)) ds w') : L P n ops K (⟨some d, .buildSlice t m parts.toArray, ty, pos, aft, g⟩ :: rest) f ds w :=
  L_val (R_buildSlice hp hv hl hb) hw rfl hn (h _ _ (newB_alloc w (Ob (flat vs) e)))

/-- a store into a block of one's own -/
theorem L_store {t : Nat} {x y : Operand} {b i : Nat} {cs : List Value} {T : TypeId} {u : Value} [PlainT P t] (hx : ev f x = .pointer (some ⟨b, i, none⟩)) (hb : w.heap[b]? = some (Ob cs T)) (hv : lget cs i = some u) (h1 : (ev f y).oneCell' = true)
    (hw : wantd ops f ⟨none, .store t x y, ty, pos, aft, g⟩ = true)
    (h : ∀ w', w'.heap[b]? = some (Ob (lset cs i (ev f y)) T) → Ext (fun k => k = b) w w' → w'.heap.size = w.heap.size → L P n ops K rest f ds w') : L P n ops K (⟨none, .store t x y, ty, pos, aft, g⟩ :: rest) f ds w :=
  L_skip (R_storeB hx hb hv h1) hw rfl (h _ (heap_setCell hb) (Ext.setCell w ⟨b, i, none⟩ (ev f y) rfl) (by simp))

theorem L_storeA {t m : Nat} {x y : Operand} {b : Nat} {cs vs : List Value} {T : TypeId} [AggT P t m] (hx : ev f x = .pointer (some ⟨b, 0, none⟩)) (hb : w.heap[b]? = some (Ob cs T)) (hy : ev f y = .agg vs.toArray)
    (hl : vs.length = m) (hc : cs.length = m) (h1 : vs.all (·.oneCell') = true) (hne : vs.isEmpty = false) (hw : wantd ops f ⟨none, .store t x y, ty, pos, aft, g⟩ = true)
    (h : ∀ w', w'.heap[b]? = some (Ob vs T) → Ext (fun k => k = b) w w' → w'.heap.size = w.heap.size → L P n ops K rest f ds w') : L P n ops K (⟨none, .store t x y, ty, pos, aft, g⟩ :: rest) f ds w :=
  L_skip (R_storeAB hx hb hy hl hc h1 hne) hw rfl (h _ (heap_setBlk (lt_of_heap hb)) (Ext.setBlk w b _ rfl) (by simp [World.setBlk]))

end

section
variable {P : Program} {n : Nat} {k : List It} {f : Fm} {w : World} {fn : Func} {R : Ending → World → Prop}

theorem G_retF {t : Tmp} (hr : fn.results = #[.tmp t]) (h : R (.returned (f t)) w) : G P n (.code .ret :: k) (QF P fn R) f [] w :=
  G_ret ⟨rfl, _, ResV.tmp hr f w, h⟩
theorem G_ret0 (hr : fn.results = #[]) (h : R (.returned (.tuple #[])) w) : G P n (.code .ret :: k) (QF P fn R) f [] w :=
  G_ret ⟨rfl, _, ResV.none hr f w, h⟩
theorem G_end0 (hr : fn.results = #[]) (h : R (.returned (.tuple #[])) w) : G P n [] (QF P fn R) f [] w :=
  G_nil ⟨rfl, _, ResV.none hr f w, h⟩
theorem G_ret2 {t u : Tmp} (hr : fn.results = #[.tmp t, .tmp u]) (h : R (.returned (.tuple #[f t, f u])) w) : G P n (.code .ret :: k) (QF P fn R) f [] w :=
  G_ret ⟨rfl, _, ResV.two hr f w, h⟩
end

section
variable {P : Program} {M : Nat → Prop} {ops : List Oper} {K : DK} {rest : List (Oper × Bool)} {f : Fm} {wb : World}
variable {dst : Option Nat} {ty : TypeId} {pos : String} {aft : Array Edge} {g : Option (Nat × Bool)}

/-- an operation that touches no memory, or only reads what stays -/
theorem D_val0 {o : Oper} {d : Nat} {v : Value} (hr : ∀ w, Ext M wb w → (execOp (ev f) o).run P w = .ok (.value v) w) (hw : wantd ops f o = true) (hd : o.dst = some d)
    (h : D P M ops K rest (upd f d v) wb) : D P M ops K ((o, false) :: rest) f wb :=
  D_val (fun w he => ⟨w, hr w he, Ext.refl _ _⟩) hw hd h

theorem D_valB {o : Oper} {d : Nat} {b b' : Bool} (hr : ∀ w, Ext M wb w → (execOp (ev f) o).run P w = .ok (.value (.bool b)) w) (hb : b = b') (hw : wantd ops f o = true) (hd : o.dst = some d)
    (h : D P M ops K rest (upd f d (.bool b')) wb) : D P M ops K ((o, false) :: rest) f wb :=
  D_val0 hr hw hd (by rw [hb]; exact h)
theorem D_valE {o : Oper} {d : Nat} {v v' : Value} (hr : ∀ w, Ext M wb w → (execOp (ev f) o).run P w = .ok (.value v) w) (hb : v = v') (hw : wantd ops f o = true) (hd : o.dst = some d)
    (h : D P M ops K rest (upd f d v') wb) : D P M ops K ((o, false) :: rest) f wb :=
  D_val0 hr hw hd (by rw [hb]; exact h)

theorem D_callQ {d : Nat} {fn : FuncId} {xs : List Operand} {ts : Array TypeId} [CallT P fn] {c : Value}
    (hc : ∀ w, Ext M wb w → Calls P fn (xs.map (ev f)).toArray w (Ret (Qt c w))) (hw : wantd ops f ⟨some d, .call ⟨.value (.func fn), xs.toArray, ts⟩, ty, pos, aft, g⟩ = true)
    (h : D P M ops K rest (upd f d c) wb) : D P M ops K ((⟨some d, .call ⟨.value (.func fn), xs.toArray, ts⟩, ty, pos, aft, g⟩, false) :: rest) f wb :=
  D_call (fun _ => R_call) hw rfl (fun w he => (hc w he).mono fun _ w' ⟨v, h1, h2, h3⟩ => by subst h2; exact ⟨h1, h3.of_no⟩) h

theorem D_callRR {d : Nat} {fn : FuncId} {xs : List Operand} {ts : Array TypeId} [CallT P fn] {Φ : World → Value → World → Prop}
    (hc : ∀ w, Ext M wb w → Calls P fn (xs.map (ev f)).toArray w (Ret (Φ w))) (hw : wantd ops f ⟨some d, .call ⟨.value (.func fn), xs.toArray, ts⟩, ty, pos, aft, g⟩ = true)
    (h : ∀ w v w', Ext M wb w → Φ w v w' → Ext M w w' ∧ D P M ops K rest (upd f d v) w') : D P M ops K ((⟨some d, .call ⟨.value (.func fn), xs.toArray, ts⟩, ty, pos, aft, g⟩, true) :: rest) f wb :=
  D_callR (fun _ => R_call) hw rfl hc fun w _ w' he ⟨v, h1, h2⟩ => ⟨v, h1, h w v w' he h2⟩
end

end Go.Proofs.YtjilnjifegeceaaGreatDoor

/-
  The walk's own words, third part's foot: which kind of operation comes next. Each says the same twice.
-/
namespace Go.Proofs.YtjilnjifegeceaaGreatDoor
section
variable {P : Program} {n : Nat} {ops : List Oper} {K : LK} {rest : List Oper} {f : Fm} {ds : List Deferred} {w : World} {dst : Option Nat} {ty : TypeId} {pos : String} {aft : Array Edge} {g : Option (Nat × Bool)}
theorem cL (h : L P n ops K rest f ds w) : L P n ops K rest f ds w := h
theorem cL_guard {op : Go.Op} {gg : Nat × Bool} (h : L P n ops K (⟨dst, op, ty, pos, aft, some gg⟩ :: rest) f ds w) : L P n ops K (⟨dst, op, ty, pos, aft, some gg⟩ :: rest) f ds w := h
theorem cL_move {x : Operand} (h : L P n ops K (⟨dst, .move x, ty, pos, aft, g⟩ :: rest) f ds w) : L P n ops K (⟨dst, .move x, ty, pos, aft, g⟩ :: rest) f ds w := h
theorem cL_assign {x : Operand} (h : L P n ops K (⟨dst, .assign x, ty, pos, aft, g⟩ :: rest) f ds w) : L P n ops K (⟨dst, .assign x, ty, pos, aft, g⟩ :: rest) f ds w := h
theorem cL_load {t : TypeId} {x : Operand} (h : L P n ops K (⟨dst, .load t x, ty, pos, aft, g⟩ :: rest) f ds w) : L P n ops K (⟨dst, .load t x, ty, pos, aft, g⟩ :: rest) f ds w := h
theorem cL_fieldAddr {t : TypeId} {x : Operand} {i : Nat} (h : L P n ops K (⟨dst, .fieldAddr t x i, ty, pos, aft, g⟩ :: rest) f ds w) : L P n ops K (⟨dst, .fieldAddr t x i, ty, pos, aft, g⟩ :: rest) f ds w := h
theorem cL_nilCheck {x : Operand} (h : L P n ops K (⟨dst, .nilCheck x, ty, pos, aft, g⟩ :: rest) f ds w) : L P n ops K (⟨dst, .nilCheck x, ty, pos, aft, g⟩ :: rest) f ds w := h
theorem cL_extract {x : Operand} {i : Nat} (h : L P n ops K (⟨dst, .extract x i, ty, pos, aft, g⟩ :: rest) f ds w) : L P n ops K (⟨dst, .extract x i, ty, pos, aft, g⟩ :: rest) f ds w := h
theorem cL_typeAssert {x : Operand} {t u : TypeId} {b : Bool} (h : L P n ops K (⟨dst, .typeAssert x t u b, ty, pos, aft, g⟩ :: rest) f ds w) : L P n ops K (⟨dst, .typeAssert x t u b, ty, pos, aft, g⟩ :: rest) f ds w := h
theorem cL_call {c : Call} (h : L P n ops K (⟨dst, .call c, ty, pos, aft, g⟩ :: rest) f ds w) : L P n ops K (⟨dst, .call c, ty, pos, aft, g⟩ :: rest) f ds w := h
theorem cL_pick {x y z : Operand} (h : L P n ops K (⟨dst, .pick x y z, ty, pos, aft, g⟩ :: rest) f ds w) : L P n ops K (⟨dst, .pick x y z, ty, pos, aft, g⟩ :: rest) f ds w := h
theorem cL_indexAddr {t : TypeId} {x y : Operand} (h : L P n ops K (⟨dst, .indexAddr t x y, ty, pos, aft, g⟩ :: rest) f ds w) : L P n ops K (⟨dst, .indexAddr t x y, ty, pos, aft, g⟩ :: rest) f ds w := h
theorem cL_store {t : TypeId} {x y : Operand} (h : L P n ops K (⟨dst, .store t x y, ty, pos, aft, g⟩ :: rest) f ds w) : L P n ops K (⟨dst, .store t x y, ty, pos, aft, g⟩ :: rest) f ds w := h
theorem cL_eql {t u : TypeId} {x y : Operand} (h : L P n ops K (⟨dst, .binOp .eql t x y u, ty, pos, aft, g⟩ :: rest) f ds w) : L P n ops K (⟨dst, .binOp .eql t x y u, ty, pos, aft, g⟩ :: rest) f ds w := h
theorem cL_neq {t u : TypeId} {x y : Operand} (h : L P n ops K (⟨dst, .binOp .neq t x y u, ty, pos, aft, g⟩ :: rest) f ds w) : L P n ops K (⟨dst, .binOp .neq t x y u, ty, pos, aft, g⟩ :: rest) f ds w := h
theorem cL_lss {t u : TypeId} {x y : Operand} (h : L P n ops K (⟨dst, .binOp .lss t x y u, ty, pos, aft, g⟩ :: rest) f ds w) : L P n ops K (⟨dst, .binOp .lss t x y u, ty, pos, aft, g⟩ :: rest) f ds w := h
theorem cL_leq {t u : TypeId} {x y : Operand} (h : L P n ops K (⟨dst, .binOp .leq t x y u, ty, pos, aft, g⟩ :: rest) f ds w) : L P n ops K (⟨dst, .binOp .leq t x y u, ty, pos, aft, g⟩ :: rest) f ds w := h
theorem cL_gtr {t u : TypeId} {x y : Operand} (h : L P n ops K (⟨dst, .binOp .gtr t x y u, ty, pos, aft, g⟩ :: rest) f ds w) : L P n ops K (⟨dst, .binOp .gtr t x y u, ty, pos, aft, g⟩ :: rest) f ds w := h
theorem cL_geq {t u : TypeId} {x y : Operand} (h : L P n ops K (⟨dst, .binOp .geq t x y u, ty, pos, aft, g⟩ :: rest) f ds w) : L P n ops K (⟨dst, .binOp .geq t x y u, ty, pos, aft, g⟩ :: rest) f ds w := h
theorem cL_add {t u : TypeId} {x y : Operand} (h : L P n ops K (⟨dst, .binOp .add t x y u, ty, pos, aft, g⟩ :: rest) f ds w) : L P n ops K (⟨dst, .binOp .add t x y u, ty, pos, aft, g⟩ :: rest) f ds w := h
theorem cL_sub {t u : TypeId} {x y : Operand} (h : L P n ops K (⟨dst, .binOp .sub t x y u, ty, pos, aft, g⟩ :: rest) f ds w) : L P n ops K (⟨dst, .binOp .sub t x y u, ty, pos, aft, g⟩ :: rest) f ds w := h
theorem cL_and {t u : TypeId} {x y : Operand} (h : L P n ops K (⟨dst, .binOp .and t x y u, ty, pos, aft, g⟩ :: rest) f ds w) : L P n ops K (⟨dst, .binOp .and t x y u, ty, pos, aft, g⟩ :: rest) f ds w := h
theorem cL_or {t u : TypeId} {x y : Operand} (h : L P n ops K (⟨dst, .binOp .or t x y u, ty, pos, aft, g⟩ :: rest) f ds w) : L P n ops K (⟨dst, .binOp .or t x y u, ty, pos, aft, g⟩ :: rest) f ds w := h
theorem cL_rem {t u : TypeId} {x y : Operand} (h : L P n ops K (⟨dst, .binOp .rem t x y u, ty, pos, aft, g⟩ :: rest) f ds w) : L P n ops K (⟨dst, .binOp .rem t x y u, ty, pos, aft, g⟩ :: rest) f ds w := h
theorem cL_not {t : TypeId} {x : Operand} (h : L P n ops K (⟨dst, .unOp .not t x, ty, pos, aft, g⟩ :: rest) f ds w) : L P n ops K (⟨dst, .unOp .not t x, ty, pos, aft, g⟩ :: rest) f ds w := h
theorem cL_makeInterface {t : TypeId} {x : Operand} (h : L P n ops K (⟨dst, .makeInterface t x, ty, pos, aft, g⟩ :: rest) f ds w) : L P n ops K (⟨dst, .makeInterface t x, ty, pos, aft, g⟩ :: rest) f ds w := h
theorem cL_convert {t u : TypeId} {x : Operand} (h : L P n ops K (⟨dst, .convert t u x, ty, pos, aft, g⟩ :: rest) f ds w) : L P n ops K (⟨dst, .convert t u x, ty, pos, aft, g⟩ :: rest) f ds w := h
theorem cL_box {t : TypeId} {x : Operand} (h : L P n ops K (⟨dst, .box t x, ty, pos, aft, g⟩ :: rest) f ds w) : L P n ops K (⟨dst, .box t x, ty, pos, aft, g⟩ :: rest) f ds w := h
theorem cL_alloc {t : TypeId} (h : L P n ops K (⟨dst, .alloc t, ty, pos, aft, g⟩ :: rest) f ds w) : L P n ops K (⟨dst, .alloc t, ty, pos, aft, g⟩ :: rest) f ds w := h
theorem cL_build {t : TypeId} {ps : Array (Nat × Operand)} (h : L P n ops K (⟨dst, .build t ps, ty, pos, aft, g⟩ :: rest) f ds w) : L P n ops K (⟨dst, .build t ps, ty, pos, aft, g⟩ :: rest) f ds w := h
theorem cL_buildSlice {t : TypeId} {i : Nat} {ps : Array (Nat × Operand)} (h : L P n ops K (⟨dst, .buildSlice t i ps, ty, pos, aft, g⟩ :: rest) f ds w) : L P n ops K (⟨dst, .buildSlice t i ps, ty, pos, aft, g⟩ :: rest) f ds w := h
theorem cL_slice {t : TypeId} {x : Operand} {l hi m : Option Operand} (h : L P n ops K (⟨dst, .slice t x l hi m, ty, pos, aft, g⟩ :: rest) f ds w) : L P n ops K (⟨dst, .slice t x l hi m, ty, pos, aft, g⟩ :: rest) f ds w := h
theorem cL_index {t : TypeId} {x y : Operand} (h : L P n ops K (⟨dst, .index t x y, ty, pos, aft, g⟩ :: rest) f ds w) : L P n ops K (⟨dst, .index t x y, ty, pos, aft, g⟩ :: rest) f ds w := h
theorem cL_lookup {t : TypeId} {x y : Operand} {b : Bool} (h : L P n ops K (⟨dst, .lookup t x y b, ty, pos, aft, g⟩ :: rest) f ds w) : L P n ops K (⟨dst, .lookup t x y b, ty, pos, aft, g⟩ :: rest) f ds w := h
theorem cL_mapUpdate {t : TypeId} {x y z : Operand} (h : L P n ops K (⟨dst, .mapUpdate t x y z, ty, pos, aft, g⟩ :: rest) f ds w) : L P n ops K (⟨dst, .mapUpdate t x y z, ty, pos, aft, g⟩ :: rest) f ds w := h
theorem cL_makeMap {t : TypeId} {r : Option Operand} (h : L P n ops K (⟨dst, .makeMap t r, ty, pos, aft, g⟩ :: rest) f ds w) : L P n ops K (⟨dst, .makeMap t r, ty, pos, aft, g⟩ :: rest) f ds w := h
theorem cL_makeSlice {t : TypeId} {x y : Operand} (h : L P n ops K (⟨dst, .makeSlice t x y, ty, pos, aft, g⟩ :: rest) f ds w) : L P n ops K (⟨dst, .makeSlice t x y, ty, pos, aft, g⟩ :: rest) f ds w := h
theorem cL_defer {c : Call} (h : L P n ops K (⟨dst, .defer c, ty, pos, aft, g⟩ :: rest) f ds w) : L P n ops K (⟨dst, .defer c, ty, pos, aft, g⟩ :: rest) f ds w := h
theorem cL_makeFunc {fn : Fn} {a b : Array Operand} (h : L P n ops K (⟨dst, .makeFunc fn a b, ty, pos, aft, g⟩ :: rest) f ds w) : L P n ops K (⟨dst, .makeFunc fn a b, ty, pos, aft, g⟩ :: rest) f ds w := h
end
section
variable {P : Program} {M : Nat → Prop} {ops : List Oper} {K : DK} {rest : List (Oper × Bool)} {f : Fm} {wb : World} {dst : Option Nat} {ty : TypeId} {pos : String} {aft : Array Edge} {g : Option (Nat × Bool)} {rr : Bool}
theorem cD (h : D P M ops K rest f wb) : D P M ops K rest f wb := h
theorem cD_guard {op : Go.Op} {gg : Nat × Bool} (h : D P M ops K ((⟨dst, op, ty, pos, aft, some gg⟩, rr) :: rest) f wb) : D P M ops K ((⟨dst, op, ty, pos, aft, some gg⟩, rr) :: rest) f wb := h
theorem cD_move {x : Operand} (h : D P M ops K ((⟨dst, .move x, ty, pos, aft, g⟩, rr) :: rest) f wb) : D P M ops K ((⟨dst, .move x, ty, pos, aft, g⟩, rr) :: rest) f wb := h
theorem cD_assign {x : Operand} (h : D P M ops K ((⟨dst, .assign x, ty, pos, aft, g⟩, rr) :: rest) f wb) : D P M ops K ((⟨dst, .assign x, ty, pos, aft, g⟩, rr) :: rest) f wb := h
theorem cD_load {t : TypeId} {x : Operand} (h : D P M ops K ((⟨dst, .load t x, ty, pos, aft, g⟩, rr) :: rest) f wb) : D P M ops K ((⟨dst, .load t x, ty, pos, aft, g⟩, rr) :: rest) f wb := h
theorem cD_fieldAddr {t : TypeId} {x : Operand} {i : Nat} (h : D P M ops K ((⟨dst, .fieldAddr t x i, ty, pos, aft, g⟩, rr) :: rest) f wb) : D P M ops K ((⟨dst, .fieldAddr t x i, ty, pos, aft, g⟩, rr) :: rest) f wb := h
theorem cD_nilCheck {x : Operand} (h : D P M ops K ((⟨dst, .nilCheck x, ty, pos, aft, g⟩, rr) :: rest) f wb) : D P M ops K ((⟨dst, .nilCheck x, ty, pos, aft, g⟩, rr) :: rest) f wb := h
theorem cD_extract {x : Operand} {i : Nat} (h : D P M ops K ((⟨dst, .extract x i, ty, pos, aft, g⟩, rr) :: rest) f wb) : D P M ops K ((⟨dst, .extract x i, ty, pos, aft, g⟩, rr) :: rest) f wb := h
theorem cD_typeAssert {x : Operand} {t u : TypeId} {b : Bool} (h : D P M ops K ((⟨dst, .typeAssert x t u b, ty, pos, aft, g⟩, rr) :: rest) f wb) : D P M ops K ((⟨dst, .typeAssert x t u b, ty, pos, aft, g⟩, rr) :: rest) f wb := h
theorem cD_call {c : Call} (h : D P M ops K ((⟨dst, .call c, ty, pos, aft, g⟩, rr) :: rest) f wb) : D P M ops K ((⟨dst, .call c, ty, pos, aft, g⟩, rr) :: rest) f wb := h
theorem cD_pick {x y z : Operand} (h : D P M ops K ((⟨dst, .pick x y z, ty, pos, aft, g⟩, rr) :: rest) f wb) : D P M ops K ((⟨dst, .pick x y z, ty, pos, aft, g⟩, rr) :: rest) f wb := h
theorem cD_indexAddr {t : TypeId} {x y : Operand} (h : D P M ops K ((⟨dst, .indexAddr t x y, ty, pos, aft, g⟩, rr) :: rest) f wb) : D P M ops K ((⟨dst, .indexAddr t x y, ty, pos, aft, g⟩, rr) :: rest) f wb := h
theorem cD_store {t : TypeId} {x y : Operand} (h : D P M ops K ((⟨dst, .store t x y, ty, pos, aft, g⟩, rr) :: rest) f wb) : D P M ops K ((⟨dst, .store t x y, ty, pos, aft, g⟩, rr) :: rest) f wb := h
theorem cD_eql {t u : TypeId} {x y : Operand} (h : D P M ops K ((⟨dst, .binOp .eql t x y u, ty, pos, aft, g⟩, rr) :: rest) f wb) : D P M ops K ((⟨dst, .binOp .eql t x y u, ty, pos, aft, g⟩, rr) :: rest) f wb := h
theorem cD_neq {t u : TypeId} {x y : Operand} (h : D P M ops K ((⟨dst, .binOp .neq t x y u, ty, pos, aft, g⟩, rr) :: rest) f wb) : D P M ops K ((⟨dst, .binOp .neq t x y u, ty, pos, aft, g⟩, rr) :: rest) f wb := h
theorem cD_lss {t u : TypeId} {x y : Operand} (h : D P M ops K ((⟨dst, .binOp .lss t x y u, ty, pos, aft, g⟩, rr) :: rest) f wb) : D P M ops K ((⟨dst, .binOp .lss t x y u, ty, pos, aft, g⟩, rr) :: rest) f wb := h
theorem cD_leq {t u : TypeId} {x y : Operand} (h : D P M ops K ((⟨dst, .binOp .leq t x y u, ty, pos, aft, g⟩, rr) :: rest) f wb) : D P M ops K ((⟨dst, .binOp .leq t x y u, ty, pos, aft, g⟩, rr) :: rest) f wb := h
theorem cD_gtr {t u : TypeId} {x y : Operand} (h : D P M ops K ((⟨dst, .binOp .gtr t x y u, ty, pos, aft, g⟩, rr) :: rest) f wb) : D P M ops K ((⟨dst, .binOp .gtr t x y u, ty, pos, aft, g⟩, rr) :: rest) f wb := h
theorem cD_geq {t u : TypeId} {x y : Operand} (h : D P M ops K ((⟨dst, .binOp .geq t x y u, ty, pos, aft, g⟩, rr) :: rest) f wb) : D P M ops K ((⟨dst, .binOp .geq t x y u, ty, pos, aft, g⟩, rr) :: rest) f wb := h
theorem cD_add {t u : TypeId} {x y : Operand} (h : D P M ops K ((⟨dst, .binOp .add t x y u, ty, pos, aft, g⟩, rr) :: rest) f wb) : D P M ops K ((⟨dst, .binOp .add t x y u, ty, pos, aft, g⟩, rr) :: rest) f wb := h
theorem cD_sub {t u : TypeId} {x y : Operand} (h : D P M ops K ((⟨dst, .binOp .sub t x y u, ty, pos, aft, g⟩, rr) :: rest) f wb) : D P M ops K ((⟨dst, .binOp .sub t x y u, ty, pos, aft, g⟩, rr) :: rest) f wb := h
theorem cD_and {t u : TypeId} {x y : Operand} (h : D P M ops K ((⟨dst, .binOp .and t x y u, ty, pos, aft, g⟩, rr) :: rest) f wb) : D P M ops K ((⟨dst, .binOp .and t x y u, ty, pos, aft, g⟩, rr) :: rest) f wb := h
theorem cD_or {t u : TypeId} {x y : Operand} (h : D P M ops K ((⟨dst, .binOp .or t x y u, ty, pos, aft, g⟩, rr) :: rest) f wb) : D P M ops K ((⟨dst, .binOp .or t x y u, ty, pos, aft, g⟩, rr) :: rest) f wb := h
theorem cD_rem {t u : TypeId} {x y : Operand} (h : D P M ops K ((⟨dst, .binOp .rem t x y u, ty, pos, aft, g⟩, rr) :: rest) f wb) : D P M ops K ((⟨dst, .binOp .rem t x y u, ty, pos, aft, g⟩, rr) :: rest) f wb := h
theorem cD_not {t : TypeId} {x : Operand} (h : D P M ops K ((⟨dst, .unOp .not t x, ty, pos, aft, g⟩, rr) :: rest) f wb) : D P M ops K ((⟨dst, .unOp .not t x, ty, pos, aft, g⟩, rr) :: rest) f wb := h
theorem cD_makeInterface {t : TypeId} {x : Operand} (h : D P M ops K ((⟨dst, .makeInterface t x, ty, pos, aft, g⟩, rr) :: rest) f wb) : D P M ops K ((⟨dst, .makeInterface t x, ty, pos, aft, g⟩, rr) :: rest) f wb := h
theorem cD_convert {t u : TypeId} {x : Operand} (h : D P M ops K ((⟨dst, .convert t u x, ty, pos, aft, g⟩, rr) :: rest) f wb) : D P M ops K ((⟨dst, .convert t u x, ty, pos, aft, g⟩, rr) :: rest) f wb := h
theorem cD_box {t : TypeId} {x : Operand} (h : D P M ops K ((⟨dst, .box t x, ty, pos, aft, g⟩, rr) :: rest) f wb) : D P M ops K ((⟨dst, .box t x, ty, pos, aft, g⟩, rr) :: rest) f wb := h
theorem cD_alloc {t : TypeId} (h : D P M ops K ((⟨dst, .alloc t, ty, pos, aft, g⟩, rr) :: rest) f wb) : D P M ops K ((⟨dst, .alloc t, ty, pos, aft, g⟩, rr) :: rest) f wb := h
theorem cD_build {t : TypeId} {ps : Array (Nat × Operand)} (h : D P M ops K ((⟨dst, .build t ps, ty, pos, aft, g⟩, rr) :: rest) f wb) : D P M ops K ((⟨dst, .build t ps, ty, pos, aft, g⟩, rr) :: rest) f wb := h
theorem cD_buildSlice {t : TypeId} {i : Nat} {ps : Array (Nat × Operand)} (h : D P M ops K ((⟨dst, .buildSlice t i ps, ty, pos, aft, g⟩, rr) :: rest) f wb) : D P M ops K ((⟨dst, .buildSlice t i ps, ty, pos, aft, g⟩, rr) :: rest) f wb := h
theorem cD_slice {t : TypeId} {x : Operand} {l hi m : Option Operand} (h : D P M ops K ((⟨dst, .slice t x l hi m, ty, pos, aft, g⟩, rr) :: rest) f wb) : D P M ops K ((⟨dst, .slice t x l hi m, ty, pos, aft, g⟩, rr) :: rest) f wb := h
theorem cD_index {t : TypeId} {x y : Operand} (h : D P M ops K ((⟨dst, .index t x y, ty, pos, aft, g⟩, rr) :: rest) f wb) : D P M ops K ((⟨dst, .index t x y, ty, pos, aft, g⟩, rr) :: rest) f wb := h
theorem cD_lookup {t : TypeId} {x y : Operand} {b : Bool} (h : D P M ops K ((⟨dst, .lookup t x y b, ty, pos, aft, g⟩, rr) :: rest) f wb) : D P M ops K ((⟨dst, .lookup t x y b, ty, pos, aft, g⟩, rr) :: rest) f wb := h
theorem cD_mapUpdate {t : TypeId} {x y z : Operand} (h : D P M ops K ((⟨dst, .mapUpdate t x y z, ty, pos, aft, g⟩, rr) :: rest) f wb) : D P M ops K ((⟨dst, .mapUpdate t x y z, ty, pos, aft, g⟩, rr) :: rest) f wb := h
theorem cD_makeMap {t : TypeId} {r : Option Operand} (h : D P M ops K ((⟨dst, .makeMap t r, ty, pos, aft, g⟩, rr) :: rest) f wb) : D P M ops K ((⟨dst, .makeMap t r, ty, pos, aft, g⟩, rr) :: rest) f wb := h
theorem cD_makeSlice {t : TypeId} {x y : Operand} (h : D P M ops K ((⟨dst, .makeSlice t x y, ty, pos, aft, g⟩, rr) :: rest) f wb) : D P M ops K ((⟨dst, .makeSlice t x y, ty, pos, aft, g⟩, rr) :: rest) f wb := h
theorem cD_defer {c : Call} (h : D P M ops K ((⟨dst, .defer c, ty, pos, aft, g⟩, rr) :: rest) f wb) : D P M ops K ((⟨dst, .defer c, ty, pos, aft, g⟩, rr) :: rest) f wb := h
theorem cD_makeFunc {fn : Fn} {a b : Array Operand} (h : D P M ops K ((⟨dst, .makeFunc fn a b, ty, pos, aft, g⟩, rr) :: rest) f wb) : D P M ops K ((⟨dst, .makeFunc fn a b, ty, pos, aft, g⟩, rr) :: rest) f wb := h
end
end Go.Proofs.YtjilnjifegeceaaGreatDoor

/-
  Facts on the program's types and functions, one instance each, by the kernel; made by gen_tab.py.
-/
namespace Go.Proofs.YtjilnjifegeceaaGreatDoor
set_option maxRecDepth 100000
instance : OffP Tryz.prog 26 0 0 := ⟨by kernel_rfl⟩
instance : OffP Tryz.prog 26 1 1 := ⟨by kernel_rfl⟩
instance : OffP Tryz.prog 26 2 2 := ⟨by kernel_rfl⟩
instance : OffP Tryz.prog 26 3 3 := ⟨by kernel_rfl⟩
instance : OffP Tryz.prog 26 4 4 := ⟨by kernel_rfl⟩
instance : OffP Tryz.prog 26 5 5 := ⟨by kernel_rfl⟩
instance : OffP Tryz.prog 35 0 0 := ⟨by kernel_rfl⟩
instance : OffP Tryz.prog 35 1 1 := ⟨by kernel_rfl⟩
instance : OffP Tryz.prog 45 0 0 := ⟨by kernel_rfl⟩
instance : OffP Tryz.prog 45 1 1 := ⟨by kernel_rfl⟩
instance : OffP Tryz.prog 50 0 0 := ⟨by kernel_rfl⟩
instance : OffP Tryz.prog 50 1 1 := ⟨by kernel_rfl⟩
instance : OffP Tryz.prog 71 0 0 := ⟨by kernel_rfl⟩
instance : OffP Tryz.prog 71 1 1 := ⟨by kernel_rfl⟩
instance : OffP Tryz.prog 71 2 2 := ⟨by kernel_rfl⟩
instance : OffP Tryz.prog 71 3 3 := ⟨by kernel_rfl⟩
instance : OffP Tryz.prog 91 0 0 := ⟨by kernel_rfl⟩
instance : OffP Tryz.prog 91 1 1 := ⟨by kernel_rfl⟩
instance : OffP Tryz.prog 119 0 0 := ⟨by kernel_rfl⟩
instance : OffP Tryz.prog 127 0 0 := ⟨by kernel_rfl⟩
instance : OffP Tryz.prog 127 1 1 := ⟨by kernel_rfl⟩
instance : OffP Tryz.prog 127 2 2 := ⟨by kernel_rfl⟩
instance : OffP Tryz.prog 127 3 3 := ⟨by kernel_rfl⟩
instance : OffP Tryz.prog 127 4 4 := ⟨by kernel_rfl⟩
instance : OffP Tryz.prog 127 5 5 := ⟨by kernel_rfl⟩
instance : OffP Tryz.prog 127 6 6 := ⟨by kernel_rfl⟩
instance : OffP Tryz.prog 130 0 0 := ⟨by kernel_rfl⟩
instance : OffP Tryz.prog 130 1 1 := ⟨by kernel_rfl⟩
instance : OffP Tryz.prog 130 2 2 := ⟨by kernel_rfl⟩
instance : OffP Tryz.prog 130 3 3 := ⟨by kernel_rfl⟩
instance : OffP Tryz.prog 132 0 0 := ⟨by kernel_rfl⟩
instance : OffP Tryz.prog 134 0 0 := ⟨by kernel_rfl⟩
instance : OffP Tryz.prog 134 2 2 := ⟨by kernel_rfl⟩
instance : OffP Tryz.prog 134 3 3 := ⟨by kernel_rfl⟩
instance : OffP Tryz.prog 134 4 4 := ⟨by kernel_rfl⟩
instance : OffP Tryz.prog 144 0 0 := ⟨by kernel_rfl⟩
instance : OffP Tryz.prog 146 1 0 := ⟨by kernel_rfl⟩
instance : OffP Tryz.prog 148 1 1 := ⟨by kernel_rfl⟩
instance : OffP Tryz.prog 148 2 2 := ⟨by kernel_rfl⟩
instance : OffP Tryz.prog 148 3 3 := ⟨by kernel_rfl⟩
instance : OffP Tryz.prog 148 4 4 := ⟨by kernel_rfl⟩
instance : OffP Tryz.prog 148 5 6 := ⟨by kernel_rfl⟩
instance : OffP Tryz.prog 148 6 7 := ⟨by kernel_rfl⟩
instance : OffP Tryz.prog 148 7 8 := ⟨by kernel_rfl⟩
instance : OffP Tryz.prog 173 0 0 := ⟨by kernel_rfl⟩
instance : OffP Tryz.prog 173 1 1 := ⟨by kernel_rfl⟩
instance : OffP Tryz.prog 176 0 0 := ⟨by kernel_rfl⟩
instance : OffP Tryz.prog 176 1 1 := ⟨by kernel_rfl⟩
instance : OffP Tryz.prog 179 0 0 := ⟨by kernel_rfl⟩
instance : OffP Tryz.prog 184 0 0 := ⟨by kernel_rfl⟩
instance : OffP Tryz.prog 184 1 1 := ⟨by kernel_rfl⟩
instance : OffP Tryz.prog 186 0 0 := ⟨by kernel_rfl⟩
instance : OffP Tryz.prog 186 2 5 := ⟨by kernel_rfl⟩
instance : OffP Tryz.prog 191 0 0 := ⟨by kernel_rfl⟩
instance : OffP Tryz.prog 194 0 0 := ⟨by kernel_rfl⟩
instance : OffP Tryz.prog 203 0 0 := ⟨by kernel_rfl⟩
instance : OffP Tryz.prog 203 1 1 := ⟨by kernel_rfl⟩
instance : OffP Tryz.prog 203 2 2 := ⟨by kernel_rfl⟩
instance : OffP Tryz.prog 203 3 3 := ⟨by kernel_rfl⟩
instance : OffP Tryz.prog 207 2 2 := ⟨by kernel_rfl⟩
instance : OffP Tryz.prog 212 0 0 := ⟨by kernel_rfl⟩
instance : OffP Tryz.prog 212 1 1 := ⟨by kernel_rfl⟩
instance : OffP Tryz.prog 215 0 0 := ⟨by kernel_rfl⟩
instance : OffP Tryz.prog 215 1 1 := ⟨by kernel_rfl⟩
instance : OffP Tryz.prog 234 0 0 := ⟨by kernel_rfl⟩
instance : OffP Tryz.prog 237 0 0 := ⟨by kernel_rfl⟩
instance : OffP Tryz.prog 237 1 1 := ⟨by kernel_rfl⟩
instance : OffP Tryz.prog 241 0 0 := ⟨by kernel_rfl⟩
instance : OffP Tryz.prog 241 2 2 := ⟨by kernel_rfl⟩
instance : OffP Tryz.prog 241 4 4 := ⟨by kernel_rfl⟩
instance : OffP Tryz.prog 253 1 1 := ⟨by kernel_rfl⟩
instance : OffP Tryz.prog 253 2 2 := ⟨by kernel_rfl⟩
instance : OffP Tryz.prog 253 3 3 := ⟨by kernel_rfl⟩
instance : OffP Tryz.prog 275 0 0 := ⟨by kernel_rfl⟩
instance : PlainT Tryz.prog 2 := ⟨by kernel_rfl⟩
instance : PlainT Tryz.prog 3 := ⟨by kernel_rfl⟩
instance : PlainT Tryz.prog 4 := ⟨by kernel_rfl⟩
instance : PlainT Tryz.prog 5 := ⟨by kernel_rfl⟩
instance : PlainT Tryz.prog 9 := ⟨by kernel_rfl⟩
instance : PlainT Tryz.prog 21 := ⟨by kernel_rfl⟩
instance : PlainT Tryz.prog 22 := ⟨by kernel_rfl⟩
instance : PlainT Tryz.prog 23 := ⟨by kernel_rfl⟩
instance : PlainT Tryz.prog 24 := ⟨by kernel_rfl⟩
instance : AggT Tryz.prog 26 6 := ⟨by kernel_rfl⟩
instance : AggT Tryz.prog 35 7 := ⟨by kernel_rfl⟩
instance : AggT Tryz.prog 45 7 := ⟨by kernel_rfl⟩
instance : AggT Tryz.prog 56 12 := ⟨by kernel_rfl⟩
instance : PlainT Tryz.prog 60 := ⟨by kernel_rfl⟩
instance : PlainT Tryz.prog 66 := ⟨by kernel_rfl⟩
instance : PlainT Tryz.prog 68 := ⟨by kernel_rfl⟩
instance : PlainT Tryz.prog 69 := ⟨by kernel_rfl⟩
instance : PlainT Tryz.prog 72 := ⟨by kernel_rfl⟩
instance : PlainT Tryz.prog 74 := ⟨by kernel_rfl⟩
instance : PlainT Tryz.prog 80 := ⟨by kernel_rfl⟩
instance : AggT Tryz.prog 83 2 := ⟨by kernel_rfl⟩
instance : PlainT Tryz.prog 85 := ⟨by kernel_rfl⟩
instance : PlainT Tryz.prog 97 := ⟨by kernel_rfl⟩
instance : PlainT Tryz.prog 105 := ⟨by kernel_rfl⟩
instance : PlainT Tryz.prog 107 := ⟨by kernel_rfl⟩
instance : PlainT Tryz.prog 108 := ⟨by kernel_rfl⟩
instance : PlainT Tryz.prog 110 := ⟨by kernel_rfl⟩
instance : PlainT Tryz.prog 115 := ⟨by kernel_rfl⟩
instance : PlainT Tryz.prog 120 := ⟨by kernel_rfl⟩
instance : PlainT Tryz.prog 122 := ⟨by kernel_rfl⟩
instance : PlainT Tryz.prog 123 := ⟨by kernel_rfl⟩
instance : PlainT Tryz.prog 125 := ⟨by kernel_rfl⟩
instance : PlainT Tryz.prog 128 := ⟨by kernel_rfl⟩
instance : PlainT Tryz.prog 139 := ⟨by kernel_rfl⟩
instance : PlainT Tryz.prog 150 := ⟨by kernel_rfl⟩
instance : PlainT Tryz.prog 156 := ⟨by kernel_rfl⟩
instance : PlainT Tryz.prog 157 := ⟨by kernel_rfl⟩
instance : PlainT Tryz.prog 167 := ⟨by kernel_rfl⟩
instance : PlainT Tryz.prog 171 := ⟨by kernel_rfl⟩
instance : PlainT Tryz.prog 182 := ⟨by kernel_rfl⟩
instance : PlainT Tryz.prog 201 := ⟨by kernel_rfl⟩
instance : PlainT Tryz.prog 216 := ⟨by kernel_rfl⟩
instance : PlainT Tryz.prog 222 := ⟨by kernel_rfl⟩
instance : PlainT Tryz.prog 250 := ⟨by kernel_rfl⟩
instance : PlainT Tryz.prog 284 := ⟨by kernel_rfl⟩
instance : PlainT Tryz.prog 286 := ⟨by kernel_rfl⟩
instance : PlainT Tryz.prog 373 := ⟨by kernel_rfl⟩
instance : SliceT Tryz.prog 22 45 7 := ⟨Tryz.underlying22, by kernel_rfl, by kernel_rfl⟩
instance : SliceT Tryz.prog 24 26 6 := ⟨Tryz.underlying24, by kernel_rfl, by kernel_rfl⟩
instance : SliceT Tryz.prog 31 35 7 := ⟨Tryz.underlying31, by kernel_rfl, by kernel_rfl⟩
instance : SliceT Tryz.prog 57 56 12 := ⟨Tryz.underlying57, by kernel_rfl, by kernel_rfl⟩
instance : SliceT Tryz.prog 65 3 1 := ⟨Tryz.underlying65, by kernel_rfl, by kernel_rfl⟩
instance : SliceT Tryz.prog 68 80 1 := ⟨Tryz.underlying68, by kernel_rfl, by kernel_rfl⟩
instance : SliceT Tryz.prog 69 72 1 := ⟨Tryz.underlying69, by kernel_rfl, by kernel_rfl⟩
instance : SliceT Tryz.prog 82 83 2 := ⟨Tryz.underlying82, by kernel_rfl, by kernel_rfl⟩
instance : SliceT Tryz.prog 84 4 1 := ⟨Tryz.underlying84, by kernel_rfl, by kernel_rfl⟩
instance : SliceT Tryz.prog 85 60 1 := ⟨Tryz.underlying85, by kernel_rfl, by kernel_rfl⟩
instance : SliceT Tryz.prog 107 108 1 := ⟨Tryz.underlying107, by kernel_rfl, by kernel_rfl⟩
instance : SliceT Tryz.prog 122 128 1 := ⟨Tryz.underlying122, by kernel_rfl, by kernel_rfl⟩
instance : SliceT Tryz.prog 182 9 1 := ⟨Tryz.underlying182, by kernel_rfl, by kernel_rfl⟩
instance : SliceT Tryz.prog 201 271 1 := ⟨Tryz.underlying201, by kernel_rfl, by kernel_rfl⟩
instance : SliceT Tryz.prog 276 156 1 := ⟨Tryz.underlying276, by kernel_rfl, by kernel_rfl⟩
instance : SliceT Tryz.prog 286 110 1 := ⟨Tryz.underlying286, by kernel_rfl, by kernel_rfl⟩
instance : ConcT Tryz.prog 9 := ⟨by kernel_rfl⟩
instance : ConcT Tryz.prog 72 := ⟨by kernel_rfl⟩
instance : ConcT Tryz.prog 76 := ⟨by kernel_rfl⟩
instance : ConcT Tryz.prog 80 := ⟨by kernel_rfl⟩
instance : ConcT Tryz.prog 95 := ⟨by kernel_rfl⟩
instance : ConcT Tryz.prog 97 := ⟨by kernel_rfl⟩
instance : ConcT Tryz.prog 99 := ⟨by kernel_rfl⟩
instance : ConcT Tryz.prog 101 := ⟨by kernel_rfl⟩
instance : ConcT Tryz.prog 103 := ⟨by kernel_rfl⟩
instance : ConcT Tryz.prog 108 := ⟨by kernel_rfl⟩
instance : ConcT Tryz.prog 111 := ⟨by kernel_rfl⟩
instance : ConcT Tryz.prog 113 := ⟨by kernel_rfl⟩
instance : ConcT Tryz.prog 115 := ⟨by kernel_rfl⟩
instance : ConcT Tryz.prog 156 := ⟨by kernel_rfl⟩
instance : PtrT Tryz.prog 72 := ⟨by kernel_rfl, by kernel_rfl⟩
instance : PtrT Tryz.prog 76 := ⟨by kernel_rfl, by kernel_rfl⟩
instance : PtrT Tryz.prog 80 := ⟨by kernel_rfl, by kernel_rfl⟩
instance : PtrT Tryz.prog 95 := ⟨by kernel_rfl, by kernel_rfl⟩
instance : PtrT Tryz.prog 97 := ⟨by kernel_rfl, by kernel_rfl⟩
instance : PtrT Tryz.prog 99 := ⟨by kernel_rfl, by kernel_rfl⟩
instance : PtrT Tryz.prog 101 := ⟨by kernel_rfl, by kernel_rfl⟩
instance : PtrT Tryz.prog 103 := ⟨by kernel_rfl, by kernel_rfl⟩
instance : PtrT Tryz.prog 111 := ⟨by kernel_rfl, by kernel_rfl⟩
instance : PtrT Tryz.prog 113 := ⟨by kernel_rfl, by kernel_rfl⟩
instance : PtrT Tryz.prog 115 := ⟨by kernel_rfl, by kernel_rfl⟩
instance : PtrT Tryz.prog 128 := ⟨by kernel_rfl, by kernel_rfl⟩
instance : PtrT Tryz.prog 156 := ⟨by kernel_rfl, by kernel_rfl⟩
instance : PtrT Tryz.prog 196 := ⟨by kernel_rfl, by kernel_rfl⟩
instance : PtrT Tryz.prog 258 := ⟨by kernel_rfl, by kernel_rfl⟩
instance : PtrEq Tryz.prog 66 := ⟨by kernel_rfl⟩
instance : PtrEq Tryz.prog 72 := ⟨by kernel_rfl⟩
instance : PtrEq Tryz.prog 74 := ⟨by kernel_rfl⟩
instance : PtrEq Tryz.prog 76 := ⟨by kernel_rfl⟩
instance : PtrEq Tryz.prog 80 := ⟨by kernel_rfl⟩
instance : PtrEq Tryz.prog 95 := ⟨by kernel_rfl⟩
instance : PtrEq Tryz.prog 97 := ⟨by kernel_rfl⟩
instance : PtrEq Tryz.prog 99 := ⟨by kernel_rfl⟩
instance : PtrEq Tryz.prog 101 := ⟨by kernel_rfl⟩
instance : PtrEq Tryz.prog 103 := ⟨by kernel_rfl⟩
instance : PtrEq Tryz.prog 108 := ⟨by kernel_rfl⟩
instance : PtrEq Tryz.prog 111 := ⟨by kernel_rfl⟩
instance : PtrEq Tryz.prog 113 := ⟨by kernel_rfl⟩
instance : PtrEq Tryz.prog 115 := ⟨by kernel_rfl⟩
instance : PtrEq Tryz.prog 123 := ⟨by kernel_rfl⟩
instance : PtrEq Tryz.prog 125 := ⟨by kernel_rfl⟩
instance : PtrEq Tryz.prog 128 := ⟨by kernel_rfl⟩
instance : PtrEq Tryz.prog 139 := ⟨by kernel_rfl⟩
instance : PtrEq Tryz.prog 156 := ⟨by kernel_rfl⟩
instance : PtrEq Tryz.prog 167 := ⟨by kernel_rfl⟩
instance : PtrEq Tryz.prog 196 := ⟨by kernel_rfl⟩
instance : PtrEq Tryz.prog 216 := ⟨by kernel_rfl⟩
instance : PtrEq Tryz.prog 251 := ⟨by kernel_rfl⟩
instance : PtrEq Tryz.prog 258 := ⟨by kernel_rfl⟩
instance : CmpT Tryz.prog 72 := ⟨by kernel_rfl⟩
instance : CmpT Tryz.prog 76 := ⟨by kernel_rfl⟩
instance : CmpT Tryz.prog 80 := ⟨by kernel_rfl⟩
instance : CmpT Tryz.prog 95 := ⟨by kernel_rfl⟩
instance : CmpT Tryz.prog 97 := ⟨by kernel_rfl⟩
instance : CmpT Tryz.prog 99 := ⟨by kernel_rfl⟩
instance : CmpT Tryz.prog 101 := ⟨by kernel_rfl⟩
instance : CmpT Tryz.prog 103 := ⟨by kernel_rfl⟩
instance : CmpT Tryz.prog 108 := ⟨by kernel_rfl⟩
instance : CmpT Tryz.prog 111 := ⟨by kernel_rfl⟩
instance : CmpT Tryz.prog 113 := ⟨by kernel_rfl⟩
instance : CmpT Tryz.prog 115 := ⟨by kernel_rfl⟩
instance : CmpT Tryz.prog 156 := ⟨by kernel_rfl⟩
instance : IfcT Tryz.prog 60 := ⟨by kernel_rfl⟩
instance : IfcT Tryz.prog 224 := ⟨by kernel_rfl⟩
instance : BoolT Tryz.prog 4 := ⟨Tryz.underlying4⟩
instance : CallT Tryz.prog 7 := call_of Tryz.func7 (by kernel_rfl) (by kernel_rfl)
instance : CallT Tryz.prog 8 := call_of Tryz.func8 (by kernel_rfl) (by kernel_rfl)
instance : CallT Tryz.prog 9 := call_of Tryz.func9 (by kernel_rfl) (by kernel_rfl)
instance : CallT Tryz.prog 10 := call_of Tryz.func10 (by kernel_rfl) (by kernel_rfl)
instance : CallT Tryz.prog 11 := call_of Tryz.func11 (by kernel_rfl) (by kernel_rfl)
instance : CallT Tryz.prog 12 := call_of Tryz.func12 (by kernel_rfl) (by kernel_rfl)
instance : CallT Tryz.prog 13 := call_of Tryz.func13 (by kernel_rfl) (by kernel_rfl)
instance : CallT Tryz.prog 14 := call_of Tryz.func14 (by kernel_rfl) (by kernel_rfl)
instance : CallT Tryz.prog 15 := call_of Tryz.func15 (by kernel_rfl) (by kernel_rfl)
instance : CallT Tryz.prog 16 := call_of Tryz.func16 (by kernel_rfl) (by kernel_rfl)
instance : CallT Tryz.prog 17 := call_of Tryz.func17 (by kernel_rfl) (by kernel_rfl)
instance : CallT Tryz.prog 18 := call_of Tryz.func18 (by kernel_rfl) (by kernel_rfl)
instance : CallT Tryz.prog 19 := call_of Tryz.func19 (by kernel_rfl) (by kernel_rfl)
instance : CallT Tryz.prog 20 := call_of Tryz.func20 (by kernel_rfl) (by kernel_rfl)
instance : CallT Tryz.prog 21 := call_of Tryz.func21 (by kernel_rfl) (by kernel_rfl)
instance : CallT Tryz.prog 22 := call_of Tryz.func22 (by kernel_rfl) (by kernel_rfl)
instance : CallT Tryz.prog 23 := call_of Tryz.func23 (by kernel_rfl) (by kernel_rfl)
instance : CallT Tryz.prog 24 := call_of Tryz.func24 (by kernel_rfl) (by kernel_rfl)
instance : CallT Tryz.prog 25 := call_of Tryz.func25 (by kernel_rfl) (by kernel_rfl)
instance : CallT Tryz.prog 26 := call_of Tryz.func26 (by kernel_rfl) (by kernel_rfl)
instance : CallT Tryz.prog 27 := call_of Tryz.func27 (by kernel_rfl) (by kernel_rfl)
instance : CallT Tryz.prog 28 := call_of Tryz.func28 (by kernel_rfl) (by kernel_rfl)
instance : CallT Tryz.prog 29 := call_of Tryz.func29 (by kernel_rfl) (by kernel_rfl)
instance : CallT Tryz.prog 30 := call_of Tryz.func30 (by kernel_rfl) (by kernel_rfl)
instance : CallT Tryz.prog 31 := call_of Tryz.func31 (by kernel_rfl) (by kernel_rfl)
instance : CallT Tryz.prog 32 := call_of Tryz.func32 (by kernel_rfl) (by kernel_rfl)
instance : CallT Tryz.prog 33 := call_of Tryz.func33 (by kernel_rfl) (by kernel_rfl)
instance : CallT Tryz.prog 34 := call_of Tryz.func34 (by kernel_rfl) (by kernel_rfl)
instance : CallT Tryz.prog 35 := call_of Tryz.func35 (by kernel_rfl) (by kernel_rfl)
instance : CallT Tryz.prog 36 := call_of Tryz.func36 (by kernel_rfl) (by kernel_rfl)
instance : CallT Tryz.prog 37 := call_of Tryz.func37 (by kernel_rfl) (by kernel_rfl)
instance : CallT Tryz.prog 38 := call_of Tryz.func38 (by kernel_rfl) (by kernel_rfl)
instance : CallT Tryz.prog 39 := call_of Tryz.func39 (by kernel_rfl) (by kernel_rfl)
instance : CallT Tryz.prog 40 := call_of Tryz.func40 (by kernel_rfl) (by kernel_rfl)
instance : CallT Tryz.prog 41 := call_of Tryz.func41 (by kernel_rfl) (by kernel_rfl)
instance : CallT Tryz.prog 42 := call_of Tryz.func42 (by kernel_rfl) (by kernel_rfl)
instance : CallT Tryz.prog 43 := call_of Tryz.func43 (by kernel_rfl) (by kernel_rfl)
instance : CallT Tryz.prog 44 := call_of Tryz.func44 (by kernel_rfl) (by kernel_rfl)
instance : CallT Tryz.prog 45 := call_of Tryz.func45 (by kernel_rfl) (by kernel_rfl)
instance : CallT Tryz.prog 46 := call_of Tryz.func46 (by kernel_rfl) (by kernel_rfl)
instance : CallT Tryz.prog 47 := call_of Tryz.func47 (by kernel_rfl) (by kernel_rfl)
instance : CallT Tryz.prog 48 := call_of Tryz.func48 (by kernel_rfl) (by kernel_rfl)
instance : CallT Tryz.prog 49 := call_of Tryz.func49 (by kernel_rfl) (by kernel_rfl)
instance : CallT Tryz.prog 50 := call_of Tryz.func50 (by kernel_rfl) (by kernel_rfl)
instance : CallT Tryz.prog 51 := call_of Tryz.func51 (by kernel_rfl) (by kernel_rfl)
instance : CallT Tryz.prog 52 := call_of Tryz.func52 (by kernel_rfl) (by kernel_rfl)
instance : CallT Tryz.prog 53 := call_of Tryz.func53 (by kernel_rfl) (by kernel_rfl)
instance : CallT Tryz.prog 54 := call_of Tryz.func54 (by kernel_rfl) (by kernel_rfl)
instance : CallT Tryz.prog 55 := call_of Tryz.func55 (by kernel_rfl) (by kernel_rfl)
instance : CallT Tryz.prog 56 := call_of Tryz.func56 (by kernel_rfl) (by kernel_rfl)
instance : CallT Tryz.prog 57 := call_of Tryz.func57 (by kernel_rfl) (by kernel_rfl)
instance : CallT Tryz.prog 58 := call_of Tryz.func58 (by kernel_rfl) (by kernel_rfl)
instance : CallT Tryz.prog 59 := call_of Tryz.func59 (by kernel_rfl) (by kernel_rfl)
instance : CallT Tryz.prog 60 := call_of Tryz.func60 (by kernel_rfl) (by kernel_rfl)
instance : CallT Tryz.prog 61 := call_of Tryz.func61 (by kernel_rfl) (by kernel_rfl)
instance : CallT Tryz.prog 62 := call_of Tryz.func62 (by kernel_rfl) (by kernel_rfl)
instance : CallT Tryz.prog 63 := call_of Tryz.func63 (by kernel_rfl) (by kernel_rfl)
instance : CallT Tryz.prog 64 := call_of Tryz.func64 (by kernel_rfl) (by kernel_rfl)
instance : CallT Tryz.prog 65 := call_of Tryz.func65 (by kernel_rfl) (by kernel_rfl)
instance : CallT Tryz.prog 66 := call_of Tryz.func66 (by kernel_rfl) (by kernel_rfl)
instance : CallT Tryz.prog 67 := call_of Tryz.func67 (by kernel_rfl) (by kernel_rfl)
instance : CallT Tryz.prog 68 := call_of Tryz.func68 (by kernel_rfl) (by kernel_rfl)
instance : CallT Tryz.prog 69 := call_of Tryz.func69 (by kernel_rfl) (by kernel_rfl)
instance : CallT Tryz.prog 70 := call_of Tryz.func70 (by kernel_rfl) (by kernel_rfl)
instance : CallT Tryz.prog 71 := call_of Tryz.func71 (by kernel_rfl) (by kernel_rfl)
instance : CallT Tryz.prog 72 := call_of Tryz.func72 (by kernel_rfl) (by kernel_rfl)
instance : CallT Tryz.prog 73 := call_of Tryz.func73 (by kernel_rfl) (by kernel_rfl)
instance : CallT Tryz.prog 74 := call_of Tryz.func74 (by kernel_rfl) (by kernel_rfl)
instance : CallT Tryz.prog 75 := call_of Tryz.func75 (by kernel_rfl) (by kernel_rfl)
instance : CallT Tryz.prog 76 := call_of Tryz.func76 (by kernel_rfl) (by kernel_rfl)
instance : CallT Tryz.prog 77 := call_of Tryz.func77 (by kernel_rfl) (by kernel_rfl)
instance : CallT Tryz.prog 78 := call_of Tryz.func78 (by kernel_rfl) (by kernel_rfl)
instance : CallT Tryz.prog 79 := call_of Tryz.func79 (by kernel_rfl) (by kernel_rfl)
instance : CallT Tryz.prog 80 := call_of Tryz.func80 (by kernel_rfl) (by kernel_rfl)
instance : CallT Tryz.prog 81 := call_of Tryz.func81 (by kernel_rfl) (by kernel_rfl)
instance : CallT Tryz.prog 82 := call_of Tryz.func82 (by kernel_rfl) (by kernel_rfl)
instance : CallT Tryz.prog 83 := call_of Tryz.func83 (by kernel_rfl) (by kernel_rfl)
instance : CallT Tryz.prog 84 := call_of Tryz.func84 (by kernel_rfl) (by kernel_rfl)
instance : CallT Tryz.prog 85 := call_of Tryz.func85 (by kernel_rfl) (by kernel_rfl)
instance : CallT Tryz.prog 86 := call_of Tryz.func86 (by kernel_rfl) (by kernel_rfl)
instance : CallT Tryz.prog 87 := call_of Tryz.func87 (by kernel_rfl) (by kernel_rfl)
instance : CallT Tryz.prog 88 := call_of Tryz.func88 (by kernel_rfl) (by kernel_rfl)
instance : CallT Tryz.prog 89 := call_of Tryz.func89 (by kernel_rfl) (by kernel_rfl)
instance : CallT Tryz.prog 90 := call_of Tryz.func90 (by kernel_rfl) (by kernel_rfl)
instance : CallT Tryz.prog 91 := call_of Tryz.func91 (by kernel_rfl) (by kernel_rfl)
instance : CallT Tryz.prog 92 := call_of Tryz.func92 (by kernel_rfl) (by kernel_rfl)
instance : CallT Tryz.prog 93 := call_of Tryz.func93 (by kernel_rfl) (by kernel_rfl)
instance : CallT Tryz.prog 94 := call_of Tryz.func94 (by kernel_rfl) (by kernel_rfl)
instance : CallT Tryz.prog 95 := call_of Tryz.func95 (by kernel_rfl) (by kernel_rfl)
instance : CallT Tryz.prog 96 := call_of Tryz.func96 (by kernel_rfl) (by kernel_rfl)
instance : CallT Tryz.prog 97 := call_of Tryz.func97 (by kernel_rfl) (by kernel_rfl)
instance : CallT Tryz.prog 98 := call_of Tryz.func98 (by kernel_rfl) (by kernel_rfl)
instance : CallT Tryz.prog 99 := call_of Tryz.func99 (by kernel_rfl) (by kernel_rfl)
instance : CallT Tryz.prog 100 := call_of Tryz.func100 (by kernel_rfl) (by kernel_rfl)
instance : CallT Tryz.prog 101 := call_of Tryz.func101 (by kernel_rfl) (by kernel_rfl)
instance : CallT Tryz.prog 102 := call_of Tryz.func102 (by kernel_rfl) (by kernel_rfl)
instance : CallT Tryz.prog 103 := call_of Tryz.func103 (by kernel_rfl) (by kernel_rfl)
instance : CallT Tryz.prog 106 := call_of Tryz.func106 (by kernel_rfl) (by kernel_rfl)
instance : CallT Tryz.prog 107 := call_of Tryz.func107 (by kernel_rfl) (by kernel_rfl)
instance : CallT Tryz.prog 109 := call_of Tryz.func109 (by kernel_rfl) (by kernel_rfl)
instance : CallT Tryz.prog 110 := call_of Tryz.func110 (by kernel_rfl) (by kernel_rfl)
instance : CallT Tryz.prog 111 := call_of Tryz.func111 (by kernel_rfl) (by kernel_rfl)
instance : CallT Tryz.prog 112 := call_of Tryz.func112 (by kernel_rfl) (by kernel_rfl)
instance : CallT Tryz.prog 113 := call_of Tryz.func113 (by kernel_rfl) (by kernel_rfl)
instance : CallT Tryz.prog 114 := call_of Tryz.func114 (by kernel_rfl) (by kernel_rfl)
instance : CallT Tryz.prog 115 := call_of Tryz.func115 (by kernel_rfl) (by kernel_rfl)
instance : CallT Tryz.prog 116 := call_of Tryz.func116 (by kernel_rfl) (by kernel_rfl)
instance : CallT Tryz.prog 117 := call_of Tryz.func117 (by kernel_rfl) (by kernel_rfl)
instance : CallT Tryz.prog 118 := call_of Tryz.func118 (by kernel_rfl) (by kernel_rfl)
instance : CallT Tryz.prog 119 := call_of Tryz.func119 (by kernel_rfl) (by kernel_rfl)
instance : CallT Tryz.prog 120 := call_of Tryz.func120 (by kernel_rfl) (by kernel_rfl)
instance : CallT Tryz.prog 121 := call_of Tryz.func121 (by kernel_rfl) (by kernel_rfl)
instance : CallT Tryz.prog 122 := call_of Tryz.func122 (by kernel_rfl) (by kernel_rfl)
instance : CallT Tryz.prog 124 := call_of Tryz.func124 (by kernel_rfl) (by kernel_rfl)
instance : CallT Tryz.prog 125 := call_of Tryz.func125 (by kernel_rfl) (by kernel_rfl)
instance : CallT Tryz.prog 126 := call_of Tryz.func126 (by kernel_rfl) (by kernel_rfl)
instance : CallT Tryz.prog 127 := call_of Tryz.func127 (by kernel_rfl) (by kernel_rfl)
instance : CallT Tryz.prog 130 := call_of Tryz.func130 (by kernel_rfl) (by kernel_rfl)
instance : CallT Tryz.prog 132 := call_of Tryz.func132 (by kernel_rfl) (by kernel_rfl)
instance : CallT Tryz.prog 133 := call_of Tryz.func133 (by kernel_rfl) (by kernel_rfl)
instance : CallT Tryz.prog 138 := call_of Tryz.func138 (by kernel_rfl) (by kernel_rfl)
instance : CallT Tryz.prog 139 := call_of Tryz.func139 (by kernel_rfl) (by kernel_rfl)
instance : CallT Tryz.prog 140 := call_of Tryz.func140 (by kernel_rfl) (by kernel_rfl)
instance : CallT Tryz.prog 143 := call_of Tryz.func143 (by kernel_rfl) (by kernel_rfl)
instance : CallT Tryz.prog 144 := call_of Tryz.func144 (by kernel_rfl) (by kernel_rfl)
instance : CallT Tryz.prog 145 := call_of Tryz.func145 (by kernel_rfl) (by kernel_rfl)
instance : CallT Tryz.prog 146 := call_of Tryz.func146 (by kernel_rfl) (by kernel_rfl)
instance : CallT Tryz.prog 147 := call_of Tryz.func147 (by kernel_rfl) (by kernel_rfl)
instance : CallT Tryz.prog 148 := call_of Tryz.func148 (by kernel_rfl) (by kernel_rfl)
instance : CallT Tryz.prog 149 := call_of Tryz.func149 (by kernel_rfl) (by kernel_rfl)
instance : CallT Tryz.prog 150 := call_of Tryz.func150 (by kernel_rfl) (by kernel_rfl)
instance : CallT Tryz.prog 151 := call_of Tryz.func151 (by kernel_rfl) (by kernel_rfl)
instance : CallT Tryz.prog 152 := call_of Tryz.func152 (by kernel_rfl) (by kernel_rfl)
instance : CallT Tryz.prog 154 := call_of Tryz.func154 (by kernel_rfl) (by kernel_rfl)
instance : CallT Tryz.prog 158 := call_of Tryz.func158 (by kernel_rfl) (by kernel_rfl)
instance : CallT Tryz.prog 177 := call_of Tryz.func177 (by kernel_rfl) (by kernel_rfl)
instance : CallT Tryz.prog 180 := call_of Tryz.func180 (by kernel_rfl) (by kernel_rfl)
instance : CallT Tryz.prog 181 := call_of Tryz.func181 (by kernel_rfl) (by kernel_rfl)
instance : CallT Tryz.prog 182 := call_of Tryz.func182 (by kernel_rfl) (by kernel_rfl)
instance : CallT Tryz.prog 183 := call_of Tryz.func183 (by kernel_rfl) (by kernel_rfl)
instance : CallT Tryz.prog 184 := call_of Tryz.func184 (by kernel_rfl) (by kernel_rfl)
instance : CallT Tryz.prog 185 := call_of Tryz.func185 (by kernel_rfl) (by kernel_rfl)
instance : CallT Tryz.prog 188 := call_of Tryz.func188 (by kernel_rfl) (by kernel_rfl)
instance : CallT Tryz.prog 191 := call_of Tryz.func191 (by kernel_rfl) (by kernel_rfl)
instance : CallT Tryz.prog 214 := call_of Tryz.func214 (by kernel_rfl) (by kernel_rfl)
instance : ArrT Tryz.prog 56 [.int .i64 0, .int .i64 0, .int .i64 0, .bool false, .slice none 0 0, .string ⟨#[]⟩, .int .i64 0, .int .i64 0, .int .i64 0, .bool false, .slice none 0 0, .string ⟨#[]⟩] 2 26 6 := ⟨by kernel_rfl, Tryz.underlying56, by kernel_rfl, by kernel_rfl, rfl⟩
instance : ArrT Tryz.prog 83 [.nilIface, .nilIface] 2 60 1 := ⟨by kernel_rfl, Tryz.underlying83, by kernel_rfl, by kernel_rfl, rfl⟩
instance : ArrI Tryz.prog 56 2 26 6 := ⟨Tryz.underlying56, by kernel_rfl, by kernel_rfl, rfl⟩
instance : ArrI Tryz.prog 83 2 60 1 := ⟨Tryz.underlying83, by kernel_rfl, by kernel_rfl, rfl⟩
instance : ArrI Tryz.prog 364 256 5 1 := ⟨Tryz.underlying364, by kernel_rfl, by kernel_rfl, rfl⟩
instance : StrT Tryz.prog 9 := ⟨Tryz.underlying9⟩
instance : IntT Tryz.prog 3 .i64 := ⟨Tryz.underlying3⟩
instance : IntT Tryz.prog 5 .u8 := ⟨Tryz.underlying5⟩
instance : IntT Tryz.prog 21 .i32 := ⟨Tryz.underlying21⟩
instance : IntT Tryz.prog 142 .u32 := ⟨Tryz.underlying142⟩
instance : IntT Tryz.prog 154 .u64 := ⟨Tryz.underlying154⟩
instance : StructT Tryz.prog 26 [.int .i64 0, .int .i64 0, .int .i64 0, .bool false, .slice none 0 0, .string ⟨#[]⟩] [(0, 1), (1, 1), (2, 1), (3, 1), (4, 1), (5, 1)] := ⟨by kernel_rfl, by kernel_rfl⟩
instance : StructT Tryz.prog 35 [.bool false, .int .i64 0, .int .i64 0, .int .i64 0, .bool false, .slice none 0 0, .string ⟨#[]⟩] [(0, 1), (1, 6)] := ⟨by kernel_rfl, by kernel_rfl⟩
instance : StructT Tryz.prog 45 [.int .i64 0, .int .i64 0, .int .i64 0, .int .i64 0, .bool false, .slice none 0 0, .string ⟨#[]⟩] [(0, 1), (1, 6)] := ⟨by kernel_rfl, by kernel_rfl⟩
instance : StructT Tryz.prog 50 [.slice none 0 0, .int .i64 0] [(0, 1), (1, 1)] := ⟨by kernel_rfl, by kernel_rfl⟩
instance : StructT Tryz.prog 71 [.slice none 0 0, .pointer none, .slice none 0 0, .slice none 0 0] [(0, 1), (1, 1), (2, 1), (3, 1)] := ⟨by kernel_rfl, by kernel_rfl⟩
instance : StructT Tryz.prog 91 [.bool false, .bool false] [(0, 1), (1, 1)] := ⟨by kernel_rfl, by kernel_rfl⟩
instance : StructT Tryz.prog 119 [.string ⟨#[]⟩, .string ⟨#[]⟩] [(0, 1), (1, 1)] := ⟨by kernel_rfl, by kernel_rfl⟩
instance : StructT Tryz.prog 127 [.pointer none, .slice none 0 0, .slice none 0 0, .pointer none, .bool false, .bool false, .pointer none] [(0, 1), (1, 1), (2, 1), (3, 1), (4, 1), (5, 1), (6, 1)] := ⟨by kernel_rfl, by kernel_rfl⟩
instance : StructT Tryz.prog 130 [.int .i64 0, .pointer none, .string ⟨#[]⟩, .nilIface] [(0, 1), (1, 1), (2, 1), (3, 1)] := ⟨by kernel_rfl, by kernel_rfl⟩
instance : StructT Tryz.prog 134 [.pointer none, .pointer none, .pointer none, .pointer none, .bool false] [(0, 1), (1, 1), (2, 1), (3, 1), (4, 1)] := ⟨by kernel_rfl, by kernel_rfl⟩
instance : StructT Tryz.prog 148 [.pointer none, .pointer none, .bool false, .pointer none, .int .i32 0, .int .u32 0, .int .u32 0, .nilIface, .nilIface, .bool false, .slice none 0 0] [(0, 1), (1, 1), (2, 1), (3, 1), (4, 2), (6, 1), (7, 1), (8, 1), (9, 1), (10, 1)] := ⟨by kernel_rfl, by kernel_rfl⟩
instance : StructT Tryz.prog 173 [.int .i64 0, .int .i64 0, .string ⟨#[]⟩] [(0, 1), (1, 1), (2, 1)] := ⟨by kernel_rfl, by kernel_rfl⟩
instance : StructT Tryz.prog 176 [.int .i64 0, .nilIface] [(0, 1), (1, 1)] := ⟨by kernel_rfl, by kernel_rfl⟩
instance : StructT Tryz.prog 179 [.nilIface] [(0, 1)] := ⟨by kernel_rfl, by kernel_rfl⟩
instance : StructT Tryz.prog 184 [.slice none 0 0, .slice none 0 0] [(0, 1), (1, 1)] := ⟨by kernel_rfl, by kernel_rfl⟩
instance : StructT Tryz.prog 186 [.int .i64 0, .pointer none, .string ⟨#[]⟩, .nilIface, .int .u8 0, .bool false] [(0, 4), (4, 1), (5, 1)] := ⟨by kernel_rfl, by kernel_rfl⟩
instance : StructT Tryz.prog 191 [.nilIface] [(0, 1)] := ⟨by kernel_rfl, by kernel_rfl⟩
instance : StructT Tryz.prog 194 [.slice none 0 0] [(0, 1)] := ⟨by kernel_rfl, by kernel_rfl⟩
instance : StructT Tryz.prog 203 [.bool false, .slice none 0 0, .slice none 0 0, .bool false] [(0, 1), (1, 1), (2, 1), (3, 1)] := ⟨by kernel_rfl, by kernel_rfl⟩
instance : StructT Tryz.prog 207 [.pointer none, .pointer none, .pointer none] [(0, 1), (1, 1), (2, 1)] := ⟨by kernel_rfl, by kernel_rfl⟩
instance : StructT Tryz.prog 212 [.nilIface, .nilIface] [(0, 1), (1, 1)] := ⟨by kernel_rfl, by kernel_rfl⟩
instance : StructT Tryz.prog 215 [.int .i64 0, .nilIface] [(0, 1), (1, 1)] := ⟨by kernel_rfl, by kernel_rfl⟩
instance : StructT Tryz.prog 234 [.int .i64 0, .pointer none, .string ⟨#[]⟩, .nilIface] [(0, 4)] := ⟨by kernel_rfl, by kernel_rfl⟩
instance : StructT Tryz.prog 237 [.pointer none, .pointer none] [(0, 1), (1, 1)] := ⟨by kernel_rfl, by kernel_rfl⟩
instance : StructT Tryz.prog 241 [.pointer none, .int .u64 0, .pointer none, .int .i64 0, .nilIface] [(0, 1), (1, 1), (2, 1), (3, 1), (4, 1)] := ⟨by kernel_rfl, by kernel_rfl⟩
instance : StructT Tryz.prog 253 [.pointer none, .map none, .int .i64 0, .bool false] [(0, 1), (1, 1), (2, 1), (3, 1)] := ⟨by kernel_rfl, by kernel_rfl⟩
instance : StructT Tryz.prog 275 [.slice none 0 0] [(0, 1)] := ⟨by kernel_rfl, by kernel_rfl⟩
instance : StructT Tryz.prog 280 [.bool false, .nilIface] [(0, 1), (1, 1)] := ⟨by kernel_rfl, by kernel_rfl⟩
instance : ZeroT Tryz.prog 60 (.nilIface) := ⟨by kernel_rfl⟩
instance : ZeroT Tryz.prog 97 (.pointer none) := ⟨by kernel_rfl⟩
instance : ZeroT Tryz.prog 122 (.slice none 0 0) := ⟨by kernel_rfl⟩
instance : ZeroT Tryz.prog 222 (.map none) := ⟨by kernel_rfl⟩
instance : ZeroT Tryz.prog 284 (.map none) := ⟨by kernel_rfl⟩
instance : SlZ Tryz.prog 24 := ⟨by kernel_rfl⟩
instance : SlZ Tryz.prog 31 := ⟨by kernel_rfl⟩
instance : SlZ Tryz.prog 57 := ⟨by kernel_rfl⟩
instance : SlZ Tryz.prog 65 := ⟨by kernel_rfl⟩
instance : SlZ Tryz.prog 68 := ⟨by kernel_rfl⟩
instance : SlZ Tryz.prog 69 := ⟨by kernel_rfl⟩
instance : SlZ Tryz.prog 82 := ⟨by kernel_rfl⟩
instance : SlZ Tryz.prog 84 := ⟨by kernel_rfl⟩
instance : SlZ Tryz.prog 85 := ⟨by kernel_rfl⟩
instance : SlZ Tryz.prog 107 := ⟨by kernel_rfl⟩
instance : SlZ Tryz.prog 201 := ⟨by kernel_rfl⟩
instance : SlZ Tryz.prog 276 := ⟨by kernel_rfl⟩
end Go.Proofs.YtjilnjifegeceaaGreatDoor

/-
  The small functions of the package that only look.
-/
namespace Go.Proofs.YtjilnjifegeceaaGreatDoor
set_option maxRecDepth 100000
attribute [local irreducible] Calls execOp

theorem r0 {G G' : Prop} (k : G') (h : Hid G' → G := by intro k_; (first | (refine cL ?_; first | (refine cL_move ?_; refine L_val R_move rfl rfl rfl ?_) | (refine cL_assign ?_; refine L_val R_assign rfl rfl rfl ?_) | (refine cL_extract ?_; refine L_val (R_extract rfl rfl) rfl rfl rfl ?_) | (refine cL_typeAssert ?_; first | refine L_val (R_taY rfl) rfl rfl rfl ?_ | refine L_val (R_taN rfl rfl) rfl rfl rfl ?_ | refine L_val (R_taNil rfl) rfl rfl rfl ?_) | (refine cL_neq ?_; first | refine L_val (R_nePN rfl rfl) rfl rfl rfl ?_ | refine L_val (R_neI rfl rfl) rfl rfl rfl ?_ | refine L_val (R_neB rfl rfl) rfl rfl rfl ?_ | refine L_val (R_neIfN rfl rfl) rfl rfl rfl ?_ | refine L_val (R_neIfNN rfl) rfl rfl rfl ?_) | refine L_nil ?_) | refine G_seq ?_ | refine G_region ?_ | refine G_skip ?_ | refine G_block ?_ | refine G_end ?_ | refine G_true rfl ?_ | refine G_false rfl ?_); exact k_.out) : G := h ⟨k⟩
theorem r1 {G G' : Prop} (k : G') (h : Hid G' → G := by intro k_; (first | (refine cL ?_; first | (refine cL_move ?_; refine L_val R_move rfl rfl rfl ?_) | (refine cL_assign ?_; refine L_val R_assign rfl rfl rfl ?_) | (refine cL_extract ?_; refine L_val (R_extract rfl rfl) rfl rfl rfl ?_) | (refine cL_typeAssert ?_; first | refine L_val (R_taY rfl) rfl rfl rfl ?_ | refine L_val (R_taN rfl rfl) rfl rfl rfl ?_ | refine L_val (R_taNil rfl) rfl rfl rfl ?_) | refine L_nil ?_) | refine G_seq ?_ | refine G_region ?_ | refine G_skip ?_ | refine G_block ?_ | refine G_end ?_ | refine G_true rfl ?_ | refine G_false rfl ?_); exact k_.out) : G := h ⟨k⟩

theorem unalias_any (T : Nat) (v : Value) (w : World) (hT : Nat.beq T 258 = false) :
    Calls Tryz.prog 78 #[.iface T v] w (Ret (Is (.iface T v) w)) := by
  (refine calls_enter Tryz.func78 Tryz.ntmps78 rfl rfl ?_)
  (repeat (first | (refine cL ?_; first | (refine cL_typeAssert ?_; refine L_val (R_taN rfl hT) rfl rfl rfl ?_)) | refine r0 ?_))
  (refine G_retF rfl ?_)
  exact ⟨_, rfl, rfl, rfl⟩

theorem asNamed_no (T : Nat) (v : Value) (w : World) (hT : Nat.beq T 258 = false) (hN : Nat.beq T 80 = false) :
    Calls Tryz.prog 58 #[.iface T v] w (Ret (Is (.pointer none) w)) := by
  (refine calls_enter Tryz.func58 Tryz.ntmps58 rfl rfl ?_)
  (repeat (first | (refine cL ?_; first | (refine cL_typeAssert ?_; refine L_val (R_taN rfl hN) rfl rfl rfl ?_) | (refine cL_call ?_; refine L_callI (unalias_any T v _ hT) rfl rfl ?_)) | refine r1 ?_))
  (refine G_retF rfl ?_)
  exact ⟨_, rfl, rfl, rfl⟩

theorem asNamed_yes (v : Value) (w : World) :
    Calls Tryz.prog 58 #[.iface 80 v] w (Ret (Is v w)) := by
  (refine calls_enter Tryz.func58 Tryz.ntmps58 rfl rfl ?_)
  (repeat (first | (refine cL ?_; first | (refine cL_call ?_; refine L_callI (unalias_any 80 v _ rfl) rfl rfl ?_)) | refine r1 ?_))
  (refine G_retF rfl ?_)
  exact ⟨_, rfl, rfl, rfl⟩
end Go.Proofs.YtjilnjifegeceaaGreatDoor

/-
  Types as data, and what it is that a value in memory is such a type. Plain Lean: no program but its types' numbers.
-/
namespace Go.Proofs.YtjilnjifegeceaaGreatDoor

inductive Ty where
  | mk (k n c : Int) (b : Bool) (nm : ByteArray) (es : List Ty)

namespace Ty
def k : Ty → Int | .mk k _ _ _ _ _ => k
def n : Ty → Int | .mk _ n _ _ _ _ => n
def c : Ty → Int | .mk _ _ c _ _ _ => c
def b : Ty → Bool | .mk _ _ _ b _ _ => b
def nm : Ty → ByteArray | .mk _ _ _ _ nm _ => nm
def es : Ty → List Ty | .mk _ _ _ _ _ es => es
end Ty

mutual
def Ty.size : Ty → Nat | .mk _ _ _ _ _ es => 1 + Ty.sizeL es
def Ty.sizeL : List Ty → Nat | [] => 0 | e :: es => Ty.size e + Ty.sizeL es
end

theorem Ty.size_mem {e : Ty} : ∀ {es : List Ty}, e ∈ es → Ty.size e ≤ Ty.sizeL es
  | x :: es, h => by
    simp only [Ty.sizeL]
    rcases List.mem_cons.1 h with rfl | h
    · omega
    · have := Ty.size_mem h; omega

theorem Ty.ind {p : Ty → Prop} (h : ∀ k n c b nm es, (∀ e ∈ es, p e) → p (.mk k n c b nm es)) : ∀ t, p t := by
  have key : ∀ m t, Ty.size t ≤ m → p t := by
    intro m
    induction m with
    | zero => intro t ht; cases t; simp [Ty.size] at ht
    | succ m ih =>
      intro t ht
      cases t with
      | mk k n c b nm es =>
        refine h _ _ _ _ _ _ fun e he => ih e ?_
        have := Ty.size_mem he
        simp only [Ty.size] at ht
        omega
  exact fun t => key _ t (Nat.le_refl _)

/-! ### identical types -/

def beqB (a b : ByteArray) : Bool := a.toList == b.toList

def namesEq : List Ty → List Ty → Bool
  | e :: es, e' :: es' => beqB e.nm e'.nm && namesEq es es'
  | _, _ => true

def alikeP (k n c : Int) (b : Bool) (es : List Ty) (k' n' c' : Int) (b' : Bool) (es' : List Ty) : Bool :=
  k == k' && es.length == es'.length &&
    (if k = 9 then namesEq es es'
     else if k = 10 then c == c' && b == b'
     else if k = 4 ∨ k = 5 ∨ k = 7 then true
     else n == n')

mutual
def ident : Ty → Ty → Bool
  | .mk k n c b _ es, .mk k' n' c' b' _ es' => alikeP k n c b es k' n' c' b' es' && identL es es'
def identL : List Ty → List Ty → Bool
  | e :: es, e' :: es' => ident e e' && identL es es'
  | _, _ => true
end

/-! ### types in memory -/

structure Env where
  params : List Nat
  decls : List Nat
  objs : List Nat

abbrev ptr (a : Nat) : Value := .pointer (some ⟨a, 0, none⟩)

/-- a variable: a field, a parameter -/
def VarIs (H : Hp) (nm : ByteArray) (v x : Value) : Prop :=
  ∃ a pos pkg kd, x = ptr a ∧ H a = some (Ob [pos, pkg, .string nm, v, kd, .bool false] 186)

def VarsIs (H : Hp) : List ByteArray → List Value → List Value → Prop
  | _, [], _ => True
  | nm :: nms, v :: vs, x :: xs => VarIs H nm v x ∧ VarsIs H nms vs xs
  | _, _ :: _, _ => False

def VarSl (H : Hp) (nms : List ByteArray) (vs : List Value) (sl : Value) : Prop :=
  ∃ b cap xs, sl = .slice (some ⟨b, 0, none⟩) vs.length cap ∧ H b = some (Ob xs 108) ∧ VarsIs H nms vs xs

def TySl (H : Hp) (vs : List Value) (sl : Value) : Prop :=
  ∃ b cap r, sl = .slice (some ⟨b, 0, none⟩) vs.length cap ∧ H b = some (Ob (vs ++ r) 60)

def noNames (vs : List Value) : List ByteArray := vs.map fun _ => ⟨#[]⟩

def TupIs (H : Hp) (vs : List Value) (x : Value) : Prop :=
  (x = .pointer none ∧ vs = []) ∨ ∃ a sl, x = ptr a ∧ H a = some (Ob [sl] 194) ∧ VarSl H (noNames vs) vs sl ∧ vs ≠ []

def dirOf (n : Int) : Int := n

/-- the dynamic types of type literals and basic types -/
def litT (t : Nat) : Bool :=
  Nat.beq t 156 || Nat.beq t 95 || Nat.beq t 97 || Nat.beq t 99 || Nat.beq t 101 || Nat.beq t 103 || Nat.beq t 111 || Nat.beq t 113

/-- a capital letter -/
def capital (s : ByteArray) : Prop := ∃ u : UInt8, s.toList = [u] ∧ 65 ≤ u.toNat ∧ u.toNat ≤ 90

/-- the cells of a defined type whose underlying type is there -/
def namedCells (obj inst m1 m2 fr und vz me : Value) : List Value := [.pointer none, obj, .bool false, inst, m1, m2, .int .u32 15, fr, und, vz, me]

def UndOK (fr und : Value) : Prop := (∃ t a, fr = .iface t (ptr a)) ∧ ∃ t a, und = .iface t (ptr a) ∧ litT t = true

inductive Sh (E : Env) (H : Hp) : Int → Int → Int → Bool → List ByteArray → List Value → Value → Prop
  | basic {n c : Int} {b : Bool} {nms : List ByteArray} {a : Nat} {info s : Value} (h : H a = some (Ob [.int .i64 (n + 1), info, s] 173)) (h0 : 0 ≤ n) :
      Sh E H 0 n c b nms [] (.iface 156 (ptr a))
  | named {n c : Int} {b : Bool} {nms : List ByteArray} {a o : Nat} {m1 m2 fr und vz me : Value} (hn : E.decls[n.toNat]? = some a) (h0 : 0 ≤ n) (ho : E.objs[n.toNat]? = some o)
      (h : H a = some (Ob (namedCells (ptr o) (.pointer none) m1 m2 fr und vz me) 148)) (hu : UndOK fr und) :
      Sh E H 1 n c b nms [] (.iface 80 (ptr a))
  | inst {n c : Int} {b : Bool} {nms : List ByteArray} {a i tl d : Nat} {v : Value} {vs : List Value} {obj m1 m2 fr und vz me sl : Value} (hn : E.decls[n.toNat]? = some d) (h0 : 0 ≤ n)
      (h : H a = some (Ob (namedCells obj (ptr i) m1 m2 fr und vz me) 148)) (hi : H i = some (Ob [ptr d, ptr tl] 237)) (ht : H tl = some (Ob [sl] 275)) (hs : TySl H (v :: vs) sl) (hu : UndOK fr und) :
      Sh E H 1 n c b nms (v :: vs) (.iface 80 (ptr a))
  | param {n c : Int} {b : Bool} {nms : List ByteArray} {a : Nat} (hn : E.params[n.toNat]? = some a) (h0 : 0 ≤ n) : Sh E H 2 n c b nms [] (.iface 72 (ptr a))
  | pointer {n c : Int} {b : Bool} {nms : List ByteArray} {a : Nat} {v : Value} (h : H a = some (Ob [v] 191)) : Sh E H 4 n c b nms [v] (.iface 95 (ptr a))
  | slice {n c : Int} {b : Bool} {nms : List ByteArray} {a : Nat} {v : Value} (h : H a = some (Ob [v] 179)) : Sh E H 5 n c b nms [v] (.iface 97 (ptr a))
  | array {n c : Int} {b : Bool} {nms : List ByteArray} {a : Nat} {v : Value} (h : H a = some (Ob [.int .i64 n, v] 176)) (h0 : 0 ≤ n) : Sh E H 6 n c b nms [v] (.iface 99 (ptr a))
  | map {n c : Int} {b : Bool} {nms : List ByteArray} {a : Nat} {v u : Value} (h : H a = some (Ob [v, u] 212)) : Sh E H 7 n c b nms [v, u] (.iface 101 (ptr a))
  | chan {n c : Int} {b : Bool} {nms : List ByteArray} {a : Nat} {v : Value} (h : H a = some (Ob [.int .i64 n, v] 215)) (h0 : 0 ≤ n) (h3 : n < 3) : Sh E H 8 n c b nms [v] (.iface 103 (ptr a))
  | struct {n c : Int} {b : Bool} {nms : List ByteArray} {a : Nat} {vs : List Value} {sl : Value} (h : H a = some (Ob [sl, .slice none 0 0] 184)) (hs : VarSl H nms vs sl) (hn : ∀ s ∈ nms, capital s) (hl : nms.length = vs.length) :
      Sh E H 9 n c b nms vs (.iface 111 (ptr a))
  | func {n c : Int} {b : Bool} {nms : List ByteArray} {a : Nat} {vs : List Value} {x y : Value} (h : H a = some (Ob [.pointer none, .pointer none, x, y, .bool b] 134)) (hx : TupIs H (vs.take c.toNat) x) (hy : TupIs H (vs.drop c.toNat) y) (h0 : 0 ≤ c) (h1 : c ≤ vs.length) :
      Sh E H 10 n c b nms vs (.iface 113 (ptr a))

mutual
def Rep (E : Env) (H : Hp) : Ty → Value → Prop
  | .mk k n c b _ es, v => ∃ vs, RepL E H es vs ∧ Sh E H k n c b (es.map Ty.nm) vs v
def RepL (E : Env) (H : Hp) : List Ty → List Value → Prop
  | [], vs => vs = []
  | e :: es, vs => ∃ v vs', vs = v :: vs' ∧ Rep E H e v ∧ RepL E H es vs'
end

/-! ### what grows keeps it -/

def Hp.le (H H' : Hp) : Prop := ∀ b o, H b = some o → H' b = some o

theorem VarsIs.mono {H H' : Hp} (hh : Hp.le H H') : ∀ {vs : List Value} {nms : List ByteArray} {xs : List Value}, VarsIs H nms vs xs → VarsIs H' nms vs xs
  | [], nms, xs, _ => by cases nms <;> cases xs <;> trivial
  | v :: vs, [], xs, h => by cases xs <;> exact h.elim
  | v :: vs, nm :: nms, [], h => h.elim
  | v :: vs, nm :: nms, x :: xs, ⟨⟨a, pos, pkg, kd, h1, h2⟩, h3⟩ => ⟨⟨a, pos, pkg, kd, h1, hh _ _ h2⟩, VarsIs.mono hh h3⟩

theorem VarSl.mono {H H' : Hp} (hh : Hp.le H H') {vs : List Value} {nms : List ByteArray} {sl : Value} : VarSl H nms vs sl → VarSl H' nms vs sl
  | ⟨b, cap, xs, h1, h2, h3⟩ => ⟨b, cap, xs, h1, hh _ _ h2, h3.mono hh⟩

theorem TySl.mono {H H' : Hp} (hh : Hp.le H H') {vs : List Value} {sl : Value} : TySl H vs sl → TySl H' vs sl
  | ⟨b, cap, r, h1, h2⟩ => ⟨b, cap, r, h1, hh _ _ h2⟩

theorem TupIs.mono {H H' : Hp} (hh : Hp.le H H') {vs : List Value} {x : Value} : TupIs H vs x → TupIs H' vs x
  | .inl h => .inl h
  | .inr ⟨a, sl, h1, h2, h3, h4⟩ => .inr ⟨a, sl, h1, hh _ _ h2, h3.mono hh, h4⟩

theorem Sh.mono {E : Env} {H H' : Hp} (hh : Hp.le H H') {k n c : Int} {b : Bool} {nms : List ByteArray} {vs : List Value} {v : Value} (h : Sh E H k n c b nms vs v) : Sh E H' k n c b nms vs v := by
  cases h with
  | basic h h0 => exact .basic (hh _ _ h) h0
  | named hn h0 ho h hu => exact .named hn h0 ho (hh _ _ h) hu
  | inst hn h0 h hi ht hs hu => exact .inst hn h0 (hh _ _ h) (hh _ _ hi) (hh _ _ ht) (hs.mono hh) hu
  | param hn h0 => exact .param hn h0
  | pointer h => exact .pointer (hh _ _ h)
  | slice h => exact .slice (hh _ _ h)
  | array h h0 => exact .array (hh _ _ h) h0
  | map h => exact .map (hh _ _ h)
  | chan h h0 h3 => exact .chan (hh _ _ h) h0 h3
  | struct h hs hn hl => exact .struct (hh _ _ h) (hs.mono hh) hn hl
  | func h hx hy h0 h1 => exact .func (hh _ _ h) (hx.mono hh) (hy.mono hh) h0 h1

theorem Rep.mono {E : Env} {H H' : Hp} (hh : Hp.le H H') : ∀ (t : Ty) (v : Value), Rep E H t v → Rep E H' t v := by
  refine Ty.ind fun k n c b nm es ih => ?_
  intro v h
  simp only [Rep] at h ⊢
  obtain ⟨vs, hL, hS⟩ := h
  refine ⟨vs, ?_, hS.mono hh⟩
  clear hS
  induction es generalizing vs with
  | nil => simpa [RepL] using hL
  | cons e es ihe =>
    simp only [RepL] at hL ⊢
    obtain ⟨v, vs', h1, h2, h3⟩ := hL
    exact ⟨v, vs', h1, ih e List.mem_cons_self v h2, ihe (fun x hx => ih x (List.mem_cons_of_mem _ hx)) vs' h3⟩

theorem RepL.mono {E : Env} {H H' : Hp} (hh : Hp.le H H') : ∀ (es : List Ty) (vs : List Value), RepL E H es vs → RepL E H' es vs
  | [], vs, h => by simpa [RepL] using h
  | e :: es, vs, h => by
    simp only [RepL] at h ⊢
    obtain ⟨v, vs', h1, h2, h3⟩ := h
    exact ⟨v, vs', h1, Rep.mono hh e v h2, RepL.mono hh es vs' h3⟩

theorem RepL.length {E : Env} {H : Hp} : ∀ {es : List Ty} {vs : List Value}, RepL E H es vs → es.length = vs.length
  | [], vs, h => by simp only [RepL] at h; subst h; rfl
  | e :: es, vs, h => by
    simp only [RepL] at h
    obtain ⟨v, vs', rfl, _, h3⟩ := h
    simp [RepL.length h3]

theorem Rep.iface {E : Env} {H : Hp} {t : Ty} {v : Value} (h : Rep E H t v) : ∃ T a, v = .iface T (ptr a) := by
  cases t
  simp only [Rep] at h
  obtain ⟨vs, _, hS⟩ := h
  cases hS <;> exact ⟨_, _, rfl⟩
end Go.Proofs.YtjilnjifegeceaaGreatDoor

/-
  The small functions that 'identical' calls.
-/
namespace Go.Proofs.YtjilnjifegeceaaGreatDoor
set_option maxRecDepth 100000
attribute [local irreducible] Calls execOp Sem.run

theorem r2 {G G' : Prop} (k : G') (h : Hid G' → G := by intro k_; (repeat (first | (refine cL ?_; first | (refine cL_move ?_; refine L_val R_move rfl rfl rfl ?_) | (refine cL_load ?_; first | refine L_val (R_loadB rfl (by assumption) (by rfl)) rfl rfl rfl ?_ | refine L_val (R_loadH (by assumption) rfl (by assumption) (by rfl)) rfl rfl rfl ?_) | (refine cL_fieldAddr ?_; refine L_val (R_fa rfl) rfl rfl rfl ?_) | (refine cL_nilCheck ?_; refine L_val (R_nil rfl) rfl rfl rfl ?_) | (refine cL_assign ?_; refine L_val R_assign rfl rfl rfl ?_) | (refine cL_call ?_; refine L_val (R_len rfl) rfl rfl rfl ?_) | refine L_nil ?_) | refine G_seq ?_ | refine G_region ?_ | refine G_skip ?_ | refine G_block ?_ | refine G_end ?_ | refine G_true rfl ?_ | refine G_false rfl ?_)); exact k_.out) : G := h ⟨k⟩
theorem r3 {G G' : Prop} (k : G') (h : Hid G' → G := by intro k_; (first | (refine cL ?_; first | (refine cL_move ?_; refine L_val R_move rfl rfl rfl ?_) | (refine cL_load ?_; first | refine L_val (R_loadB rfl (by assumption) (by rfl)) rfl rfl rfl ?_ | refine L_val (R_loadH (by assumption) rfl (by assumption) (by rfl)) rfl rfl rfl ?_) | (refine cL_fieldAddr ?_; refine L_val (R_fa rfl) rfl rfl rfl ?_) | (refine cL_nilCheck ?_; refine L_val (R_nil rfl) rfl rfl rfl ?_) | (refine cL_assign ?_; refine L_val R_assign rfl rfl rfl ?_) | (refine cL_call ?_; refine L_val (R_len rfl) rfl rfl rfl ?_) | (refine cL_lss ?_; refine L_val (R_ltI rfl rfl) rfl rfl rfl ?_) | refine L_nil ?_) | refine G_seq ?_ | refine G_region ?_ | refine G_skip ?_ | refine G_block ?_ | refine G_end ?_ | refine G_true rfl ?_ | refine G_false rfl ?_); exact k_.out) : G := h ⟨k⟩
theorem r4 {G G' : Prop} (k : G') (h : Hid G' → G := by intro k_; (repeat (first | (refine cL ?_; first | (refine cL_move ?_; refine L_val R_move rfl rfl rfl ?_) | (refine cL_load ?_; first | refine L_val (R_loadB rfl (by assumption) (by rfl)) rfl rfl rfl ?_ | refine L_val (R_loadH (by assumption) rfl (by assumption) (by rfl)) rfl rfl rfl ?_) | (refine cL_fieldAddr ?_; refine L_val (R_fa rfl) rfl rfl rfl ?_) | (refine cL_nilCheck ?_; refine L_val (R_nil rfl) rfl rfl rfl ?_) | (refine cL_assign ?_; refine L_val R_assign rfl rfl rfl ?_) | (refine cL_call ?_; refine L_val (R_len rfl) rfl rfl rfl ?_) | (refine cL_neq ?_; first | refine L_val (R_nePN rfl rfl) rfl rfl rfl ?_ | refine L_val (R_neI rfl rfl) rfl rfl rfl ?_ | refine L_val (R_neB rfl rfl) rfl rfl rfl ?_ | refine L_val (R_neIfN rfl rfl) rfl rfl rfl ?_ | refine L_val (R_neIfNN rfl) rfl rfl rfl ?_) | refine L_nil ?_) | refine G_seq ?_ | refine G_region ?_ | refine G_skip ?_ | refine G_block ?_ | refine G_end ?_ | refine G_true rfl ?_ | refine G_false rfl ?_)); exact k_.out) : G := h ⟨k⟩
theorem r5 {G G' : Prop} (k : G') (h : Hid G' → G := by intro k_; (repeat (first | (refine cL ?_; first | (refine cL_move ?_; refine L_val R_move rfl rfl rfl ?_) | (refine cL_load ?_; first | refine L_val (R_loadB rfl (by assumption) (by rfl)) rfl rfl rfl ?_ | refine L_val (R_loadH (by assumption) rfl (by assumption) (by rfl)) rfl rfl rfl ?_) | (refine cL_fieldAddr ?_; refine L_val (R_fa rfl) rfl rfl rfl ?_) | (refine cL_nilCheck ?_; refine L_val (R_nil rfl) rfl rfl rfl ?_) | (refine cL_assign ?_; refine L_val R_assign rfl rfl rfl ?_) | (refine cL_eql ?_; first | refine L_val (R_eqPN rfl rfl) rfl rfl rfl ?_ | refine L_val (R_eqI rfl rfl) rfl rfl rfl ?_ | refine L_val (R_eqB rfl rfl) rfl rfl rfl ?_ | refine L_val (R_eqIfN rfl rfl) rfl rfl rfl ?_ | refine L_val (R_eqIfNN rfl) rfl rfl rfl ?_) | refine L_nil ?_) | refine G_seq ?_ | refine G_region ?_ | refine G_skip ?_ | refine G_block ?_ | refine G_end ?_ | refine G_true rfl ?_ | refine G_false rfl ?_)); exact k_.out) : G := h ⟨k⟩

theorem numFields_any {H : Hp} {a : Nat} {p : Option Addr} {len cap : Nat} {tg : Value} (w : World) (hA : Agree H w) (h : H a = some (Ob [.slice p len cap, tg] 184)) :
    Calls Tryz.prog 80 #[ptr a] w (Ret (Is (.int .i64 len) w)) := by
  (refine calls_enter Tryz.func80 Tryz.ntmps80 rfl rfl ?_)
  (refine r2 ?_)
  (refine G_retF rfl ?_)
  exact ⟨_, rfl, rfl, rfl⟩

theorem tag_any {H : Hp} {a : Nat} {sl : Value} {i : Int} (w : World) (hi : 0 ≤ i) (hA : Agree H w) (h : H a = some (Ob [sl, .slice none 0 0] 184)) :
    Calls Tryz.prog 81 #[ptr a, .int .i64 i] w (Ret (Is (.string ⟨#[]⟩) w)) := by
  have hlt : decide (i < ((0 : Nat) : Int)) = false := by simp; omega
  (refine calls_enter Tryz.func81 Tryz.ntmps81 rfl rfl ?_)
  (repeat (first | (refine cL ?_; first | (refine cL_lss ?_; refine L_valB (R_ltI rfl rfl) hlt rfl rfl rfl ?_)) | refine r3 ?_))
  (refine G_retF rfl ?_)
  exact ⟨_, rfl, rfl, rfl⟩

theorem tupLen_nil (w : World) : Calls Tryz.prog 83 #[.pointer none] w (Ret (Is (.int .i64 ((0 : Nat) : Int)) w)) := by
  (refine calls_enter Tryz.func83 Tryz.ntmps83 rfl rfl ?_)
  (refine r4 ?_)
  (refine G_retF rfl ?_)
  exact ⟨_, rfl, rfl, rfl⟩
theorem tupLen_any {H : Hp} {a : Nat} {p : Option Addr} {len cap : Nat} (w : World) (hA : Agree H w) (h : H a = some (Ob [.slice p len cap] 194)) :
    Calls Tryz.prog 83 #[ptr a] w (Ret (Is (.int .i64 len) w)) := by
  (refine calls_enter Tryz.func83 Tryz.ntmps83 rfl rfl ?_)
  (refine r4 ?_)
  (refine G_retF rfl ?_)
  exact ⟨_, rfl, rfl, rfl⟩

theorem typeArgs_none {H : Hp} {a : Nat} {obj m1 m2 fr und vz me : Value} (w : World) (hA : Agree H w) (h : H a = some (Ob (namedCells obj (.pointer none) m1 m2 fr und vz me) 148)) :
    Calls Tryz.prog 88 #[ptr a] w (Ret (Is (.pointer none) w)) := by
  (refine calls_enter Tryz.func88 Tryz.ntmps88 rfl rfl ?_)
  (refine r5 ?_)
  (refine G_retF rfl ?_)
  exact ⟨_, rfl, rfl, rfl⟩
theorem typeArgs_some {H : Hp} {a i d tl : Nat} {obj m1 m2 fr und vz me : Value} (w : World) (hA : Agree H w) (h : H a = some (Ob (namedCells obj (ptr i) m1 m2 fr und vz me) 148)) (hi : H i = some (Ob [ptr d, ptr tl] 237)) :
    Calls Tryz.prog 88 #[ptr a] w (Ret (Is (ptr tl) w)) := by
  (refine calls_enter Tryz.func88 Tryz.ntmps88 rfl rfl ?_)
  (refine r5 ?_)
  (refine G_retF rfl ?_)
  exact ⟨_, rfl, rfl, rfl⟩

theorem list_none (w : World) : Calls Tryz.prog 89 #[.pointer none] w (Ret (Is (.slice none 0 0) w)) := by
  (refine calls_enter Tryz.func89 Tryz.ntmps89 rfl rfl ?_)
  (refine r5 ?_)
  (refine G_retF rfl ?_)
  exact ⟨_, rfl, rfl, rfl⟩
theorem list_some {H : Hp} {a : Nat} {sl : Value} (w : World) (hA : Agree H w) (h : H a = some (Ob [sl] 275)) : Calls Tryz.prog 89 #[ptr a] w (Ret (Is sl w)) := by
  (refine calls_enter Tryz.func89 Tryz.ntmps89 rfl rfl ?_)
  (refine r5 ?_)
  (refine G_retF rfl ?_)
  exact ⟨_, rfl, rfl, rfl⟩

theorem origin_self {H : Hp} {a : Nat} {obj m1 m2 fr und vz me : Value} (w : World) (hA : Agree H w) (h : H a = some (Ob (namedCells obj (.pointer none) m1 m2 fr und vz me) 148)) :
    Calls Tryz.prog 113 #[ptr a] w (Ret (Is (ptr a) w)) := by
  (refine calls_enter Tryz.func113 Tryz.ntmps113 rfl rfl ?_)
  (refine r5 ?_)
  (refine G_retF rfl ?_)
  exact ⟨_, rfl, rfl, rfl⟩
theorem origin_inst {H : Hp} {a i d tl : Nat} {obj m1 m2 fr und vz me : Value} (w : World) (hA : Agree H w) (h : H a = some (Ob (namedCells obj (ptr i) m1 m2 fr und vz me) 148)) (hi : H i = some (Ob [ptr d, ptr tl] 237)) :
    Calls Tryz.prog 113 #[ptr a] w (Ret (Is (ptr d) w)) := by
  (refine calls_enter Tryz.func113 Tryz.ntmps113 rfl rfl ?_)
  (refine r5 ?_)
  (refine G_retF rfl ?_)
  exact ⟨_, rfl, rfl, rfl⟩
end Go.Proofs.YtjilnjifegeceaaGreatDoor

/-
  The small functions that 'identical' calls: origins, names.
-/
namespace Go.Proofs.YtjilnjifegeceaaGreatDoor
set_option maxRecDepth 100000
attribute [local irreducible] Calls execOp

theorem r6 {G G' A : Prop} (ag : A) (k : G') (h : Hid G' → A → G := by intro k_ ag_; (first | (refine cD_move ?_; refine D_val0 (fun _ _ => R_move) rfl rfl ?_) | (refine cD_load ?_; refine D_val0 (fun w he => R_loadH (ag_ w he) rfl (by assumption) (by rfl)) rfl rfl ?_) | (refine cD_fieldAddr ?_; refine D_val0 (fun _ _ => R_fa rfl) rfl rfl ?_) | (refine cD_nilCheck ?_; refine D_val0 (fun _ _ => R_nil rfl) rfl rfl ?_) | (refine cD_assign ?_; refine D_val0 (fun _ _ => R_assign) rfl rfl ?_) | (refine cD_eql ?_; first | refine D_val0 (fun _ _ => R_eqPN rfl rfl) rfl rfl ?_ | refine D_val0 (fun _ _ => R_eqI rfl rfl) rfl rfl ?_ | refine D_val0 (fun _ _ => R_eqB rfl rfl) rfl rfl ?_ | refine D_val0 (fun _ _ => R_eqIfN rfl rfl) rfl rfl ?_ | refine D_val0 (fun _ _ => R_eqIfNN rfl) rfl rfl ?_)); exact k_.out) : G := h ⟨k⟩ ag
theorem r7 {G G' A : Prop} (ag : A) (k : G') (h : Hid G' → A → G := by intro k_ ag_; (repeat (first | (refine cD_move ?_; refine D_val0 (fun _ _ => R_move) rfl rfl ?_) | (refine cD_load ?_; refine D_val0 (fun w he => R_loadH (ag_ w he) rfl (by assumption) (by rfl)) rfl rfl ?_) | (refine cD_fieldAddr ?_; refine D_val0 (fun _ _ => R_fa rfl) rfl rfl ?_) | (refine cD_nilCheck ?_; refine D_val0 (fun _ _ => R_nil rfl) rfl rfl ?_) | (refine cD_assign ?_; refine D_val0 (fun _ _ => R_assign) rfl rfl ?_) | (refine cD_eql ?_; first | refine D_val0 (fun _ _ => R_eqPN rfl rfl) rfl rfl ?_ | refine D_val0 (fun _ _ => R_eqI rfl rfl) rfl rfl ?_ | refine D_val0 (fun _ _ => R_eqB rfl rfl) rfl rfl ?_ | refine D_val0 (fun _ _ => R_eqIfN rfl rfl) rfl rfl ?_ | refine D_val0 (fun _ _ => R_eqIfNN rfl) rfl rfl ?_))); exact k_.out) : G := h ⟨k⟩ ag
theorem r8 {G G' : Prop} (k : G') (h : Hid G' → G := by intro k_; (first | (refine cL ?_; first | (refine cL_move ?_; refine L_val R_move rfl rfl rfl ?_) | (refine cL_load ?_; first | refine L_val (R_loadB rfl (by assumption) (by rfl)) rfl rfl rfl ?_ | refine L_val (R_loadH (by assumption) rfl (by assumption) (by rfl)) rfl rfl rfl ?_) | (refine cL_assign ?_; refine L_val R_assign rfl rfl rfl ?_) | (refine cL_eql ?_; first | refine L_val (R_eqPN rfl rfl) rfl rfl rfl ?_ | refine L_val (R_eqI rfl rfl) rfl rfl rfl ?_ | refine L_val (R_eqB rfl rfl) rfl rfl rfl ?_ | refine L_val (R_eqIfN rfl rfl) rfl rfl rfl ?_ | refine L_val (R_eqIfNN rfl) rfl rfl rfl ?_) | (refine cL_leq ?_; refine L_val (R_leI rfl rfl) rfl rfl rfl ?_) | refine L_nil ?_) | refine G_seq ?_ | refine G_region ?_ | refine G_skip ?_ | refine G_block ?_ | refine G_end ?_ | refine G_true rfl ?_ | refine G_false rfl ?_); exact k_.out) : G := h ⟨k⟩
theorem r9 {G G' : Prop} (k : G') (h : Hid G' → G := by intro k_; (repeat (first | (refine cL ?_; first | (refine cL_move ?_; refine L_val R_move rfl rfl rfl ?_) | (refine cL_load ?_; first | refine L_val (R_loadB rfl (by assumption) (by rfl)) rfl rfl rfl ?_ | refine L_val (R_loadH (by assumption) rfl (by assumption) (by rfl)) rfl rfl rfl ?_) | (refine cL_assign ?_; refine L_val R_assign rfl rfl rfl ?_) | (refine cL_eql ?_; first | refine L_val (R_eqPN rfl rfl) rfl rfl rfl ?_ | refine L_val (R_eqI rfl rfl) rfl rfl rfl ?_ | refine L_val (R_eqB rfl rfl) rfl rfl rfl ?_ | refine L_val (R_eqIfN rfl rfl) rfl rfl rfl ?_ | refine L_val (R_eqIfNN rfl) rfl rfl rfl ?_) | (refine cL_leq ?_; refine L_val (R_leI rfl rfl) rfl rfl rfl ?_) | refine L_nil ?_) | refine G_seq ?_ | refine G_region ?_ | refine G_skip ?_ | refine G_block ?_ | refine G_end ?_ | refine G_true rfl ?_ | refine G_false rfl ?_)); exact k_.out) : G := h ⟨k⟩
theorem r10 {G G' : Prop} (k : G') (h : Hid G' → G := by intro k_; (first | (refine cL ?_; first | (refine cL_guard ?_; refine L_unwanted rfl rfl rfl ?_) | (refine cL_move ?_; refine L_val R_move rfl rfl rfl ?_) | (refine cL_assign ?_; refine L_val R_assign rfl rfl rfl ?_) | (refine cL_extract ?_; refine L_val (R_extract rfl rfl) rfl rfl rfl ?_) | (refine cL_pick ?_; first | refine L_val (R_pickT rfl) rfl rfl rfl ?_ | refine L_val (R_pickF rfl) rfl rfl rfl ?_) | (refine cL_neq ?_; first | refine L_val (R_nePN rfl rfl) rfl rfl rfl ?_ | refine L_val (R_neI rfl rfl) rfl rfl rfl ?_ | refine L_val (R_neB rfl rfl) rfl rfl rfl ?_ | refine L_val (R_neIfN rfl rfl) rfl rfl rfl ?_ | refine L_val (R_neIfNN rfl) rfl rfl rfl ?_) | (refine cL_lss ?_; refine L_val (R_ltI rfl rfl) rfl rfl rfl ?_) | refine L_nil ?_) | refine G_seq ?_ | refine G_region ?_ | refine G_skip ?_ | refine G_block ?_ | refine G_end ?_ | refine G_true rfl ?_ | refine G_false rfl ?_); exact k_.out) : G := h ⟨k⟩
theorem r11 {G G' : Prop} (k : G') (h : Hid G' → G := by intro k_; (first | (refine cL ?_; first | (refine cL_move ?_; refine L_val R_move rfl rfl rfl ?_) | (refine cL_assign ?_; refine L_val R_assign rfl rfl rfl ?_) | (refine cL_extract ?_; refine L_val (R_extract rfl rfl) rfl rfl rfl ?_) | refine L_nil ?_) | refine G_seq ?_ | refine G_region ?_ | refine G_skip ?_ | refine G_block ?_ | refine G_end ?_ | refine G_true rfl ?_ | refine G_false rfl ?_); exact k_.out) : G := h ⟨k⟩
theorem r12 {G G' : Prop} (k : G') (h : Hid G' → G := by intro k_; (first | (refine cL ?_; first | (refine cL_move ?_; refine L_val R_move rfl rfl rfl ?_) | (refine cL_load ?_; first | refine L_val (R_loadB rfl (by assumption) (by rfl)) rfl rfl rfl ?_ | refine L_val (R_loadH (by assumption) rfl (by assumption) (by rfl)) rfl rfl rfl ?_) | (refine cL_fieldAddr ?_; refine L_val (R_fa rfl) rfl rfl rfl ?_) | (refine cL_nilCheck ?_; refine L_val (R_nil rfl) rfl rfl rfl ?_) | (refine cL_assign ?_; refine L_val R_assign rfl rfl rfl ?_) | refine L_nil ?_) | refine G_seq ?_ | refine G_region ?_ | refine G_skip ?_ | refine G_block ?_ | refine G_end ?_ | refine G_true rfl ?_ | refine G_false rfl ?_); exact k_.out) : G := h ⟨k⟩
theorem r13 {G G' : Prop} (k : G') (h : Hid G' → G := by intro k_; (first | (refine cL ?_; first | (refine cL_guard ?_; refine L_unwanted rfl rfl rfl ?_) | (refine cL_move ?_; refine L_val R_move rfl rfl rfl ?_) | (refine cL_load ?_; first | refine L_val (R_loadB rfl (by assumption) (by rfl)) rfl rfl rfl ?_ | refine L_val (R_loadH (by assumption) rfl (by assumption) (by rfl)) rfl rfl rfl ?_) | (refine cL_fieldAddr ?_; refine L_val (R_fa rfl) rfl rfl rfl ?_) | (refine cL_nilCheck ?_; refine L_val (R_nil rfl) rfl rfl rfl ?_) | (refine cL_assign ?_; refine L_val R_assign rfl rfl rfl ?_) | (refine cL_pick ?_; first | refine L_val (R_pickT rfl) rfl rfl rfl ?_ | refine L_val (R_pickF rfl) rfl rfl rfl ?_) | (refine cL_neq ?_; first | refine L_val (R_nePN rfl rfl) rfl rfl rfl ?_ | refine L_val (R_neI rfl rfl) rfl rfl rfl ?_ | refine L_val (R_neB rfl rfl) rfl rfl rfl ?_ | refine L_val (R_neIfN rfl rfl) rfl rfl rfl ?_ | refine L_val (R_neIfNN rfl) rfl rfl rfl ?_) | refine L_nil ?_) | refine G_seq ?_ | refine G_region ?_ | refine G_skip ?_ | refine G_block ?_ | refine G_end ?_ | refine G_true rfl ?_ | refine G_false rfl ?_); exact k_.out) : G := h ⟨k⟩

theorem follows : Tryz.prog.follows .mixedOrders = true := by kernel_rfl

def LiveH (H : Hp) (b : Nat) : Prop := ∃ c cs T, H b = some (Ob (c :: cs) T)
theorem Agree.live {H : Hp} {w : World} (hA : Agree H w) {b i : Nat} (h : LiveH H b) : PLive w (some ⟨b, i, none⟩) :=
  let ⟨c, cs, T, hb⟩ := h; ⟨b, i, rfl, c, cs, T, hA _ _ hb⟩

/-- where a defined type comes from -/
def Orig (H : Hp) (a d : Nat) : Prop :=
  (d = a ∧ ∃ obj m1 m2 fr und vz me, H a = some (Ob (namedCells obj (.pointer none) m1 m2 fr und vz me) 148)) ∨
  ∃ i tl obj m1 m2 fr und vz me, H a = some (Ob (namedCells obj (ptr i) m1 m2 fr und vz me) 148) ∧ H i = some (Ob [ptr d, ptr tl] 237)

theorem origin_any {H : Hp} {a d : Nat} (w : World) (hA : Agree H w) (h : Orig H a d) : Calls Tryz.prog 113 #[ptr a] w (Ret (Is (ptr d) w)) := by
  rcases h with ⟨rfl, obj, m1, m2, fr, und, vz, me, h⟩ | ⟨i, tl, obj, m1, m2, fr, und, vz, me, h, hi⟩
  · exact origin_self w hA h
  · exact origin_inst w hA h hi

theorem identicalOrigin_any {H : Hp} {a d a' d' o o' : Nat} {c c' : Value} {r r' : List Value} (w : World) (hA : Agree H w) (h : Orig H a d) (h' : Orig H a' d')
    (hd : H d = some (Ob (c :: ptr o :: r) 148)) (hd' : H d' = some (Ob (c' :: ptr o' :: r') 148)) (hl : LiveH H o) (hl' : LiveH H o') :
    Calls Tryz.prog 90 #[ptr a, ptr a'] w (Ret (Qt (.bool (peq (some ⟨o, 0, none⟩) (some ⟨o', 0, none⟩))) w)) := by
  (refine calls_enter Tryz.func90 Tryz.ntmps90 rfl rfl ?_)
  (refine r5 ?_)
  (refine G_draw No (0 :: 1 :: 2 :: 3 :: 4 :: 5 :: 6 :: 7 :: 8 :: 9 :: 10 :: 11 :: []) [] follows (by kernel_rfl) rfl ?_)
  have hAg : ∀ w', Ext No w w' → Agree H w' := fun _ he => hA.ext0 he
  (repeat (first | (refine cD_call ?_; refine D_callQ (fun w he => Is.qt (origin_any w (hAg w he) h)) rfl ?_) | refine r6 hAg ?_))
  (repeat (first | (refine cD_call ?_; refine D_callQ (fun w he => Is.qt (origin_any w (hAg w he) h')) rfl ?_) | refine r6 hAg ?_))
  refine D_val0 (fun w he => R_eqP rfl rfl ((hAg w he).live hl) ((hAg w he).live hl')) rfl rfl ?_
  (refine r7 hAg ?_)
  refine D_nil fun w1 hw1 => ?_
  (refine G_retF rfl ?_)
  exact ⟨_, rfl, rfl, hw1⟩

/-! names -/

/-- the table of letters lies in memory -/
def Props (H : Hp) : Prop := ∃ cs T fz, H 5 = some (.cells cs T fz) ∧ ∀ u, 65 ≤ u → u ≤ 90 → cs[u]? = some (.int .u8 160)

theorem wrap_small {k : IntKind} {n : Int} (h0 : 0 ≤ n) (h1 : n < 128) : k.wrap n = n := by
  cases k <;> simp [IntKind.wrap, IntKind.signed, IntKind.bits] <;> omega

theorem isUpper_any {H : Hp} {u : Nat} (w : World) (hA : Agree H w) (hp : Props H) (h0 : 65 ≤ u) (h1 : u ≤ 90) :
    Calls Tryz.prog 191 #[.int .i32 u] w (Ret (Is (.bool true) w)) := by
  obtain ⟨cs, T, fz, hp, hc⟩ := hp
  have e1 : Value.int .u32 (IntKind.u32.wrap (u : Int)) = .int .u32 u := by rw [wrap_small (by omega) (by omega)]
  have e2 : Value.int .u8 (IntKind.u8.wrap (u : Int)) = .int .u8 u := by rw [wrap_small (by omega) (by omega)]
  have e3 : decide ((u : Int) ≤ 255) = true := by simp; omega
  have hcell : w.cell? ⟨5, 0 + ((u : Int)).toNat * 1, none⟩ = some (.int .u8 160) := by
    have : 0 + ((u : Int)).toNat * 1 = u := by omega
    rw [this]
    simp [World.cell?, hA _ _ hp, hc u h0 h1]
  (refine calls_enter Tryz.func191 Tryz.ntmps191 rfl rfl ?_)
  (repeat (first | (refine cL ?_; first | (refine cL_leq ?_; refine L_valB (R_leI rfl rfl) e3 rfl rfl rfl ?_) | (refine cL_convert ?_; refine L_valE (R_conv rfl) e1 rfl rfl rfl ?_)) | refine r8 ?_))
  refine L_valE (R_conv rfl) e2 rfl rfl rfl ?_
  refine L_val (R_iaArr rfl rfl (by omega) (by omega)) rfl rfl rfl ?_
  refine L_val (R_load rfl hcell) rfl rfl rfl ?_
  refine L_val (R_andI rfl rfl) rfl rfl rfl ?_
  refine L_valB (b' := true) (R_eqI rfl rfl) rfl rfl rfl rfl ?_
  (refine r9 ?_)
  (refine G_retF rfl ?_)
  exact ⟨_, rfl, rfl, rfl⟩

theorem get_capital {s : ByteArray} {u : UInt8} (h : s.toList = [u]) : s[(0 : Int).toNat]? = some u := by
  rw [ByteArray.toList_eq] at h
  have h1 : s.data.size = 1 := by rw [← Array.length_toList, h]; rfl
  have h2 : (0 : Nat) < s.size := by show 0 < s.data.size; omega
  have h3 : s.data.toList[0]? = some u := by rw [h]; rfl
  show s[0]? = some u
  rw [getElem?_pos s 0 h2]
  rw [Array.getElem?_toList, getElem?_pos s.data 0 h2] at h3
  exact h3
theorem ne_empty {s : ByteArray} {u : UInt8} (h : s.toList = [u]) : (!(s.toList == (⟨#[]⟩ : ByteArray).toList)) = true := by
  rw [h, ByteArray.toList_eq]; rfl

theorem decodeRune_cap {u : UInt8} {s : ByteArray} (w : World) (hs : s.toList = [u]) (h1 : u.toNat ≤ 90) :
    Calls Tryz.prog 152 #[.string s] w (Ret (Is (.tuple #[.int .i32 u.toNat, .int .i64 1]) w)) := by
  have e0 := get_capital hs
  have e1 := ne_empty hs
  have e2 : decide (((u.toNat : Nat) : Int) < 128) = true := by simp; omega
  have e3 : Value.int .i32 (IntKind.i32.wrap (u.toNat : Int)) = .int .i32 u.toNat := by rw [wrap_small (by omega) (by omega)]
  (refine calls_enter Tryz.func152 Tryz.ntmps152 rfl rfl ?_)
  (repeat (first | (refine cL ?_; first | (refine cL_guard ?_; refine L_unwanted rfl rfl rfl ?_) | (refine cL_neq ?_; refine L_valB (R_neS rfl rfl) e1 rfl rfl rfl ?_) | (refine cL_lss ?_; refine L_valB (R_ltI rfl rfl) e2 rfl rfl rfl ?_) | (refine cL_convert ?_; refine L_valE (R_conv rfl) e3 rfl rfl rfl ?_) | (refine cL_index ?_; refine L_val (R_indexS rfl rfl (by decide) e0) rfl rfl rfl ?_)) | refine r10 ?_))
  refine G_ret2 rfl ?_
  exact ⟨_, rfl, rfl, rfl⟩

theorem isExported_cap {H : Hp} {s : ByteArray} (w : World) (hA : Agree H w) (hp : Props H) (hs : capital s) :
    Calls Tryz.prog 154 #[.string s] w (Ret (Is (.bool true) w)) := by
  obtain ⟨u, hs, h0, h1⟩ := hs
  (refine calls_enter Tryz.func154 Tryz.ntmps154 rfl rfl ?_)
  (repeat (first | (refine cL ?_; first | (refine cL_call ?_; first | refine L_callI (decodeRune_cap w hs h1) rfl rfl ?_ | refine L_callI (isUpper_any w hA hp h0 h1) rfl rfl ?_)) | refine r11 ?_))
  (refine G_retF rfl ?_)
  exact ⟨_, rfl, rfl, rfl⟩

theorem exported_cap {H : Hp} {a : Nat} {s : ByteArray} {p q : Value} {r : List Value} {T : Nat} (w : World) (hA : Agree H w) (hp : Props H) (hs : capital s) (h : H a = some (Ob (p :: q :: .string s :: r) T)) :
    Calls Tryz.prog 125 #[ptr a] w (Ret (Is (.bool true) w)) := by
  (refine calls_enter Tryz.func125 Tryz.ntmps125 rfl rfl ?_)
  (repeat (first | (refine cL ?_; first | (refine cL_call ?_; refine L_callI (isExported_cap w hA hp hs) rfl rfl ?_)) | refine r12 ?_))
  (refine G_retF rfl ?_)
  exact ⟨_, rfl, rfl, rfl⟩

theorem sameId_any {H : Hp} {a : Nat} {s s' : ByteArray} {p q pk : Value} {r : List Value} {T : Nat} (w : World) (hA : Agree H w) (hp : Props H) (hs : capital s) (h : H a = some (Ob (p :: q :: .string s :: r) T)) :
    Calls Tryz.prog 82 #[ptr a, pk, .string s', .bool false] w (Ret (Is (.bool (beqB s s')) w)) := by
  cases hb : beqB s s' with
  | true =>
    have e : (!(s.toList == s'.toList)) = false := by rw [Bool.not_eq_false']; exact hb
    (refine calls_enter Tryz.func82 Tryz.ntmps82 rfl rfl ?_)
    (repeat (first | (refine cL ?_; first | (refine cL_guard ?_; refine L_unwanted rfl rfl rfl ?_) | (refine cL_call ?_; refine L_callI (exported_cap w hA hp hs h) rfl rfl ?_) | (refine cL_neq ?_; refine L_valB (R_neS rfl rfl) e rfl rfl rfl ?_)) | refine r13 ?_))
    (refine G_retF rfl ?_)
    exact ⟨_, rfl, rfl, rfl⟩
  | false =>
    have e : (!(s.toList == s'.toList)) = true := by rw [Bool.not_eq_true']; exact hb
    (refine calls_enter Tryz.func82 Tryz.ntmps82 rfl rfl ?_)
    (repeat (first | (refine cL ?_; first | (refine cL_guard ?_; refine L_unwanted rfl rfl rfl ?_) | (refine cL_neq ?_; refine L_valB (R_neS rfl rfl) e rfl rfl rfl ?_)) | refine r13 ?_))
    (refine G_retF rfl ?_)
    exact ⟨_, rfl, rfl, rfl⟩
end Go.Proofs.YtjilnjifegeceaaGreatDoor

/-
  Fields and type arguments, as the package hands them out.
-/
namespace Go.Proofs.YtjilnjifegeceaaGreatDoor
set_option maxRecDepth 100000
set_option maxHeartbeats 4000000
attribute [local irreducible] Calls execOp

theorem VarsIs.get {H : Hp} : ∀ {vs : List Value} {nms : List ByteArray} {xs : List Value} {i : Nat} {v : Value}, VarsIs H nms vs xs → vs[i]? = some v →
    ∃ nm a pos pkg kd, nms[i]? = some nm ∧ lget xs i = some (ptr a) ∧ H a = some (Ob [pos, pkg, .string nm, v, kd, .bool false] 186)
  | [], _, _, _, _, _, hv => by simp at hv
  | _ :: _, [], xs, _, _, h, _ => by cases xs <;> exact h.elim
  | _ :: _, _ :: _, [], _, _, h, _ => h.elim
  | v :: vs, nm :: nms, x :: xs, 0, u, ⟨⟨a, pos, pkg, kd, h1, h2⟩, _⟩, hv => by
    simp only [List.getElem?_cons_zero, Option.some.injEq] at hv
    subst hv
    exact ⟨nm, a, pos, pkg, kd, rfl, by rw [h1]; rfl, h2⟩
  | v :: vs, nm :: nms, x :: xs, i + 1, u, ⟨_, h3⟩, hv => by
    obtain ⟨nm', a, pos, pkg, kd, e1, e2, e3⟩ := VarsIs.get (i := i) h3 (by simpa using hv)
    exact ⟨nm', a, pos, pkg, kd, by simpa using e1, e2, e3⟩

/-- the type arguments of a defined type, as the package hands them out -/
def ArgsOf (H : Hp) (a : Nat) (vs : List Value) : Prop :=
  ∃ (tl : Value) (p : Option Addr) (cap : Nat), (∀ w, Agree H w → Calls Tryz.prog 88 #[ptr a] w (Ret (Is tl w))) ∧
    (∀ w, Agree H w → Calls Tryz.prog 89 #[tl] w (Ret (Is (.slice p vs.length cap) w))) ∧
    ∀ i v, vs[i]? = some v → ∃ b cs, p = some ⟨b, 0, none⟩ ∧ H b = some (Ob cs 60) ∧ lget cs i = some v

theorem argsOf_none {H : Hp} {a : Nat} {obj m1 m2 fr und vz me : Value} (h : H a = some (Ob (namedCells obj (.pointer none) m1 m2 fr und vz me) 148)) : ArgsOf H a [] :=
  ⟨.pointer none, none, 0, fun w hA => typeArgs_none w hA h, fun w _ => list_none w, fun i v hv => by simp at hv⟩
theorem argsOf_inst {H : Hp} {a i tl d : Nat} {obj m1 m2 fr und vz me sl : Value} {vs : List Value} (h : H a = some (Ob (namedCells obj (ptr i) m1 m2 fr und vz me) 148)) (hi : H i = some (Ob [ptr d, ptr tl] 237)) (ht : H tl = some (Ob [sl] 275)) (hs : TySl H vs sl) : ArgsOf H a vs := by
  obtain ⟨b, cap, r, rfl, hb⟩ := hs
  refine ⟨ptr tl, some ⟨b, 0, none⟩, cap, fun w hA => typeArgs_some w hA h hi, fun w hA => list_some w hA ht, fun i v hv => ⟨b, _, rfl, hb, ?_⟩⟩
  rw [lget_eq, List.getElem?_append_left (List.getElem?_eq_some_iff.1 hv).1]
  exact hv

end Go.Proofs.YtjilnjifegeceaaGreatDoor

/-
  One value in memory is one type; distinct names are distinct blocks. Plain Lean.
-/
namespace Go.Proofs.YtjilnjifegeceaaGreatDoor

structure EnvOK (E : Env) (H : Hp) : Prop where
  pl : ∀ a ∈ E.params, LiveH H a
  pn : E.params.Nodup
  dl : ∀ (n a : Nat), E.decls[n]? = some a → ∃ c o r, E.objs[n]? = some o ∧ H a = some (Ob (c :: ptr o :: r) 148)
  dn : E.decls.Nodup
  ol : ∀ a ∈ E.objs, LiveH H a
  on : E.objs.Nodup

theorem nodup_inj {l : List Nat} (h : l.Nodup) {i j a : Nat} (hi : l[i]? = some a) (hj : l[j]? = some a) : i = j := by
  obtain ⟨h1, e1⟩ := List.getElem?_eq_some_iff.1 hi
  obtain ⟨h2, e2⟩ := List.getElem?_eq_some_iff.1 hj
  exact (List.getElem_inj h).1 (e1.trans e2.symm)

theorem toNat_inj {n m : Int} (h0 : 0 ≤ n) (h1 : 0 ≤ m) (h : n.toNat = m.toNat) : n = m := by omega

theorem Ob_inj {cs cs' : List Value} {T T' : Nat} (h : Ob cs T = Ob cs' T') : cs = cs' ∧ T = T' := by
  unfold Ob at h
  injection h with h1 h2 _
  exact ⟨by simpa using h1, h2⟩

theorem at_inj {H : Hp} {b : Nat} {cs cs' : List Value} {T T' : Nat} (h : H b = some (Ob cs T)) (h' : H b = some (Ob cs' T')) : cs = cs' ∧ T = T' := by
  rw [h] at h'
  injection h' with h'
  exact Ob_inj h'

theorem ptr_inj {a b : Nat} (h : ptr a = ptr b) : a = b := by
  unfold ptr at h
  injection h with h
  injection h with h
  injection h

theorem VarsIs.same {H : Hp} : ∀ {vs vs' : List Value} {nms nms' : List ByteArray} {xs : List Value}, VarsIs H nms vs xs → VarsIs H nms' vs' xs → vs.length = vs'.length → nms.length = vs.length → nms'.length = vs'.length → vs = vs' ∧ nms = nms'
  | [], [], [], [], _, _, _, _, _, _ => ⟨rfl, rfl⟩
  | [], [], n :: _, _, _, _, _, _, h, _ => by simp at h
  | [], [], [], n :: _, _, _, _, _, _, h => by simp at h
  | [], v :: vs, _, _, _, _, _, h, _, _ => by simp at h
  | v :: vs, [], _, _, _, _, _, h, _, _ => by simp at h
  | v :: vs, v' :: vs', [], _, _, _, _, _, h, _ => by simp at h
  | v :: vs, v' :: vs', _, [], _, _, _, _, _, h => by simp at h
  | v :: vs, v' :: vs', nm :: nms, nm' :: nms', [], h, _, _, _, _ => h.elim
  | v :: vs, v' :: vs', nm :: nms, nm' :: nms', x :: xs, ⟨⟨a, pos, pkg, kd, h1, h2⟩, h3⟩, ⟨⟨a', pos', pkg', kd', h1', h2'⟩, h3'⟩, hl, hn, hn' => by
    rw [h1] at h1'
    have := ptr_inj h1'
    subst this
    have h := (at_inj h2 h2').1
    simp only [List.cons.injEq, Value.string.injEq] at h
    have ih := VarsIs.same h3 h3' (by simpa using hl) (by simpa using hn) (by simpa using hn')
    obtain ⟨_, _, e1, e2, _⟩ := h
    rw [e1, e2, ih.1, ih.2]
    exact ⟨rfl, rfl⟩

theorem VarSl.same {H : Hp} {vs vs' : List Value} {nms nms' : List ByteArray} {sl : Value} (h : VarSl H nms vs sl) (h' : VarSl H nms' vs' sl) (hn : nms.length = vs.length) (hn' : nms'.length = vs'.length) : vs = vs' ∧ nms = nms' := by
  obtain ⟨b, cap, xs, h1, h2, h3⟩ := h
  obtain ⟨b', cap', xs', h1', h2', h3'⟩ := h'
  rw [h1] at h1'
  simp only [Value.slice.injEq, Option.some.injEq, Addr.mk.injEq] at h1'
  obtain ⟨⟨e, _⟩, hl, _⟩ := h1'
  subst e
  have e := (at_inj h2 h2').1
  subst e
  exact VarsIs.same h3 h3' (by omega) hn hn'

theorem TySl.same {H : Hp} {vs vs' : List Value} {sl : Value} (h : TySl H vs sl) (h' : TySl H vs' sl) : vs = vs' := by
  obtain ⟨b, cap, r, h1, h2⟩ := h
  obtain ⟨b', cap', r', h1', h2'⟩ := h'
  rw [h1] at h1'
  simp only [Value.slice.injEq, Option.some.injEq, Addr.mk.injEq] at h1'
  obtain ⟨⟨e, _⟩, hl, _⟩ := h1'
  subst e
  exact (List.append_inj (at_inj h2 h2').1 (by omega)).1

theorem TupIs.same {H : Hp} {vs vs' : List Value} {x : Value} (h : TupIs H vs x) (h' : TupIs H vs' x) : vs = vs' := by
  rcases h with ⟨rfl, rfl⟩ | ⟨a, sl, rfl, h2, h3, _⟩
  · rcases h' with ⟨_, rfl⟩ | ⟨a', sl', h1', _⟩
    · rfl
    · cases h1'
  · rcases h' with ⟨h1', _⟩ | ⟨a', sl', h1', h2', h3', _⟩
    · cases h1'
    · have := ptr_inj h1'
      subst this
      have e := (at_inj h2 h2').1
      simp only [List.cons.injEq, and_true] at e
      subst e
      exact (VarSl.same h3 h3' (by simp [noNames]) (by simp [noNames])).1

/-! what the value says of the type -/
section
variable {E : Env} {H : Hp} {k n c : Int} {b : Bool} {nms : List ByteArray} {vs : List Value} {v : Value} {a : Nat}

theorem Sh.inv_basic (h : Sh E H k n c b nms vs v) (hv : v = .iface 156 (ptr a)) : k = 0 ∧ vs = [] ∧ 0 ≤ n ∧ ∃ i s, H a = some (Ob [.int .i64 (n + 1), i, s] 173) := by
  cases h with
  | basic h h0 => injection hv with _ hv; have ha := ptr_inj hv; subst ha; exact ⟨rfl, rfl, h0, _, _, h⟩
  | _ => exfalso; injection hv with hv _; revert hv; decide
theorem Sh.inv_param (h : Sh E H k n c b nms vs v) (hv : v = .iface 72 (ptr a)) : k = 2 ∧ vs = [] ∧ 0 ≤ n ∧ E.params[n.toNat]? = some a := by
  cases h with
  | param hn h0 => injection hv with _ hv; have ha := ptr_inj hv; subst ha; exact ⟨rfl, rfl, h0, hn⟩
  | _ => exfalso; injection hv with hv _; revert hv; decide
theorem Sh.inv_pointer (h : Sh E H k n c b nms vs v) (hv : v = .iface 95 (ptr a)) : k = 4 ∧ ∃ u, vs = [u] ∧ H a = some (Ob [u] 191) := by
  cases h with
  | pointer h => injection hv with _ hv; have ha := ptr_inj hv; subst ha; exact ⟨rfl, _, rfl, h⟩
  | _ => exfalso; injection hv with hv _; revert hv; decide
theorem Sh.inv_slice (h : Sh E H k n c b nms vs v) (hv : v = .iface 97 (ptr a)) : k = 5 ∧ ∃ u, vs = [u] ∧ H a = some (Ob [u] 179) := by
  cases h with
  | slice h => injection hv with _ hv; have ha := ptr_inj hv; subst ha; exact ⟨rfl, _, rfl, h⟩
  | _ => exfalso; injection hv with hv _; revert hv; decide
theorem Sh.inv_array (h : Sh E H k n c b nms vs v) (hv : v = .iface 99 (ptr a)) : k = 6 ∧ 0 ≤ n ∧ ∃ u, vs = [u] ∧ H a = some (Ob [.int .i64 n, u] 176) := by
  cases h with
  | array h h0 => injection hv with _ hv; have ha := ptr_inj hv; subst ha; exact ⟨rfl, h0, _, rfl, h⟩
  | _ => exfalso; injection hv with hv _; revert hv; decide
theorem Sh.inv_map (h : Sh E H k n c b nms vs v) (hv : v = .iface 101 (ptr a)) : k = 7 ∧ ∃ u u2, vs = [u, u2] ∧ H a = some (Ob [u, u2] 212) := by
  cases h with
  | map h => injection hv with _ hv; have ha := ptr_inj hv; subst ha; exact ⟨rfl, _, _, rfl, h⟩
  | _ => exfalso; injection hv with hv _; revert hv; decide
theorem Sh.inv_chan (h : Sh E H k n c b nms vs v) (hv : v = .iface 103 (ptr a)) : k = 8 ∧ ∃ u, vs = [u] ∧ H a = some (Ob [.int .i64 n, u] 215) := by
  cases h with
  | chan h h0 h3 => injection hv with _ hv; have ha := ptr_inj hv; subst ha; exact ⟨rfl, _, rfl, h⟩
  | _ => exfalso; injection hv with hv _; revert hv; decide
theorem Sh.inv_struct (h : Sh E H k n c b nms vs v) (hv : v = .iface 111 (ptr a)) : k = 9 ∧ ∃ sl, H a = some (Ob [sl, .slice none 0 0] 184) ∧ VarSl H nms vs sl ∧ (∀ s ∈ nms, capital s) ∧ nms.length = vs.length := by
  cases h with
  | struct h hs hn hl => injection hv with _ hv; have ha := ptr_inj hv; subst ha; exact ⟨rfl, _, h, hs, hn, hl⟩
  | _ => exfalso; injection hv with hv _; revert hv; decide
theorem Sh.inv_func (h : Sh E H k n c b nms vs v) (hv : v = .iface 113 (ptr a)) : k = 10 ∧ ∃ x y, H a = some (Ob [.pointer none, .pointer none, x, y, .bool b] 134) ∧ TupIs H (vs.take c.toNat) x ∧ TupIs H (vs.drop c.toNat) y ∧ 0 ≤ c ∧ c ≤ vs.length := by
  cases h with
  | func h hx hy h0 h1 => injection hv with _ hv; have ha := ptr_inj hv; subst ha; exact ⟨rfl, _, _, h, hx, hy, h0, h1⟩
  | _ => exfalso; injection hv with hv _; revert hv; decide
theorem Sh.inv_named (h : Sh E H k n c b nms vs v) (hv : v = .iface 80 (ptr a)) : k = 1 ∧ 0 ≤ n ∧ ((vs = [] ∧ ∃ o m1 m2 fr und vz me, E.decls[n.toNat]? = some a ∧ E.objs[n.toNat]? = some o ∧ H a = some (Ob (namedCells (ptr o) (.pointer none) m1 m2 fr und vz me) 148) ∧ UndOK fr und) ∨ (∃ u us i tl d obj m1 m2 fr und vz me sl, vs = u :: us ∧ E.decls[n.toNat]? = some d ∧ H a = some (Ob (namedCells obj (ptr i) m1 m2 fr und vz me) 148) ∧ H i = some (Ob [ptr d, ptr tl] 237) ∧ H tl = some (Ob [sl] 275) ∧ TySl H vs sl ∧ UndOK fr und)) := by
  cases h with
  | named hn h0 ho h hu => injection hv with _ hv; have ha := ptr_inj hv; subst ha; exact ⟨rfl, h0, .inl ⟨rfl, _, _, _, _, _, _, _, hn, ho, h, hu⟩⟩
  | inst hn h0 h hi ht hs hu => injection hv with _ hv; have ha := ptr_inj hv; subst ha; exact ⟨rfl, h0, .inr ⟨_, _, _, _, _, _, _, _, _, _, _, _, _, rfl, hn, h, hi, ht, hs, hu⟩⟩
  | _ => exfalso; injection hv with hv _; revert hv; decide
end

/-- what two readings of one value agree in -/
structure Same (k n c : Int) (b : Bool) (nms : List ByteArray) (vs : List Value) (k' n' c' : Int) (b' : Bool) (nms' : List ByteArray) (vs' : List Value) : Prop where
  hk : k = k'
  hv : vs = vs'
  h9 : k = 9 → nms = nms'
  h10 : k = 10 → c = c' ∧ b = b'
  hn : k ≠ 9 → k ≠ 10 → ¬ (k = 4 ∨ k = 5 ∨ k = 7) → n = n'

theorem Sh.same {E : Env} {H : Hp} (hE : EnvOK E H) {k n c k' n' c' : Int} {b b' : Bool} {nms nms' : List ByteArray} {vs vs' : List Value} {v : Value} (h : Sh E H k n c b nms vs v) (h' : Sh E H k' n' c' b' nms' vs' v) :
    Same k n c b nms vs k' n' c' b' nms' vs' := by
  cases h with
  | basic h h0 =>
    obtain ⟨rfl, rfl, h0', i, s, q'⟩ := h'.inv_basic rfl
    have e := (at_inj h q').1
    simp only [List.cons.injEq, Value.int.injEq] at e
    exact ⟨rfl, rfl, by simp, by simp, fun _ _ _ => by omega⟩
  | named hn h0 ho h hu =>
    obtain ⟨rfl, h0', ⟨rfl, o', _, _, _, _, _, _, hn', ho', q', _⟩ | ⟨_, _, _, _, _, _, _, _, _, _, _, _, _, rfl, hn', q', _⟩⟩ := h'.inv_named rfl
    · have e := toNat_inj h0 h0' (nodup_inj hE.dn hn hn')
      exact ⟨rfl, rfl, by simp, by simp, fun _ _ _ => e⟩
    · have e := (at_inj h q').1
      simp [namedCells] at e
  | inst hn h0 h hi ht hs hu =>
    obtain ⟨rfl, h0', ⟨rfl, o', _, _, _, _, _, _, hn', ho', q', _⟩ | ⟨_, _, _, _, _, _, _, _, _, _, _, _, _, rfl, hn', q', hi', ht', hs', _⟩⟩ := h'.inv_named rfl
    · have e := (at_inj h q').1
      simp [namedCells] at e
    · have e := (at_inj h q').1
      simp only [namedCells, List.cons.injEq] at e
      have ei := ptr_inj e.2.2.2.1
      subst ei
      have e2 := (at_inj hi hi').1
      simp only [List.cons.injEq] at e2
      have ed := ptr_inj e2.1
      have et := ptr_inj e2.2.1
      subst ed
      subst et
      have e3 := (at_inj ht ht').1
      simp only [List.cons.injEq, and_true] at e3
      subst e3
      exact ⟨rfl, hs.same hs', by simp, by simp, fun _ _ _ => toNat_inj h0 h0' (nodup_inj hE.dn hn hn')⟩
  | param hn h0 =>
    obtain ⟨rfl, rfl, h0', hn'⟩ := h'.inv_param rfl
    exact ⟨rfl, rfl, by simp, by simp, fun _ _ _ => toNat_inj h0 h0' (nodup_inj hE.pn hn hn')⟩
  | pointer h =>
    obtain ⟨rfl, u, rfl, q'⟩ := h'.inv_pointer rfl
    exact ⟨rfl, (at_inj h q').1, by simp, by simp, by simp⟩
  | slice h =>
    obtain ⟨rfl, u, rfl, q'⟩ := h'.inv_slice rfl
    exact ⟨rfl, (at_inj h q').1, by simp, by simp, by simp⟩
  | array h h0 =>
    obtain ⟨rfl, h0', u, rfl, q'⟩ := h'.inv_array rfl
    have e := (at_inj h q').1
    simp only [List.cons.injEq, Value.int.injEq, and_true, true_and] at e
    exact ⟨rfl, by rw [e.2], by simp, by simp, fun _ _ _ => e.1⟩
  | map h =>
    obtain ⟨rfl, u, u2, rfl, q'⟩ := h'.inv_map rfl
    exact ⟨rfl, (at_inj h q').1, by simp, by simp, by simp⟩
  | chan h h0 h3 =>
    obtain ⟨rfl, u, rfl, q'⟩ := h'.inv_chan rfl
    have e := (at_inj h q').1
    simp only [List.cons.injEq, Value.int.injEq, and_true, true_and] at e
    exact ⟨rfl, by rw [e.2], by simp, by simp, fun _ _ _ => e.1⟩
  | struct h hs hn hl =>
    obtain ⟨rfl, sl', q', hs', hn', hl'⟩ := h'.inv_struct rfl
    have e := (at_inj h q').1
    simp only [List.cons.injEq, and_true] at e
    subst e
    have e := hs.same hs' hl hl'
    exact ⟨rfl, e.1, fun _ => e.2, by simp, by simp⟩
  | func h hx hy h0 h1 =>
    obtain ⟨rfl, x', y', q', hx', hy', h0', h1'⟩ := h'.inv_func rfl
    have e := (at_inj h q').1
    simp only [List.cons.injEq, Value.bool.injEq, and_true, true_and] at e
    obtain ⟨e1, e2, e3⟩ := e
    subst e1
    subst e2
    have ex := hx.same hx'
    have ey := hy.same hy'
    have ev : vs = vs' := by rw [← List.take_append_drop c.toNat vs, ← List.take_append_drop c'.toNat vs', ex, ey]
    have el := congrArg List.length ex
    simp only [List.length_take] at el
    subst ev
    exact ⟨rfl, rfl, by simp, fun _ => ⟨by omega, e3⟩, by simp⟩

theorem namesEq_self : ∀ {es es' : List Ty}, es.map Ty.nm = es'.map Ty.nm → namesEq es es' = true
  | [], _, _ => by simp [namesEq]
  | e :: es, [], _ => by simp [namesEq]
  | e :: es, e' :: es', h => by
    simp only [List.map_cons, List.cons.injEq] at h
    simp [namesEq, beqB, h.1, namesEq_self h.2]

theorem identL_same {E : Env} {H : Hp} : ∀ {es es' : List Ty} {vs : List Value}, (∀ e ∈ es, ∀ t v, Rep E H e v → Rep E H t v → ident e t = true) → RepL E H es vs → RepL E H es' vs → identL es es' = true
  | [], _, _, _, _, _ => by simp [identL]
  | e :: es, [], _, _, _, _ => by simp [identL]
  | e :: es, e' :: es', vs, ih, h, h' => by
    simp only [RepL] at h h'
    obtain ⟨v, vs1, e1, h1, h2⟩ := h
    obtain ⟨v', vs1', e1', h1', h2'⟩ := h'
    rw [e1] at e1'
    simp only [List.cons.injEq] at e1'
    obtain ⟨ev, evs⟩ := e1'
    subst ev
    subst evs
    simp only [identL, Bool.and_eq_true]
    exact ⟨ih e List.mem_cons_self _ _ h1 h1', identL_same (fun x hx => ih x (List.mem_cons_of_mem _ hx)) h2 h2'⟩

/-- two types of one value are identical -/
theorem ident_same {E : Env} {H : Hp} (hE : EnvOK E H) : ∀ (t t' : Ty) (v : Value), Rep E H t v → Rep E H t' v → ident t t' = true := by
  refine Ty.ind fun k n c b nm es ih => ?_
  intro t' v h h'
  obtain ⟨k', n', c', b', nm', es'⟩ := t'
  simp only [Rep] at h h'
  obtain ⟨vs, hL, hS⟩ := h
  obtain ⟨vs', hL', hS'⟩ := h'
  have s := hS.same hE hS'
  have ev := s.hv
  subst ev
  simp only [ident, Bool.and_eq_true]
  refine ⟨?_, identL_same (fun e he t v => ih e he t v) hL hL'⟩
  have el : es.length = es'.length := hL.length.trans hL'.length.symm
  have ek := s.hk
  subst ek
  simp only [alikeP, el, beq_self_eq_true, Bool.true_and]
  by_cases h9 : k = 9
  · rw [if_pos h9]; exact namesEq_self (s.h9 h9)
  · rw [if_neg h9]
    by_cases h10 : k = 10
    · rw [if_pos h10]
      obtain ⟨e1, e2⟩ := s.h10 h10
      simp [e1, e2]
    · rw [if_neg h10]
      by_cases h4 : k = 4 ∨ k = 5 ∨ k = 7
      · rw [if_pos h4]
      · rw [if_neg h4]
        simp [s.hn h9 h10 h4]

/-- what a type lies in is there -/
theorem Sh.live {E : Env} {H : Hp} (hE : EnvOK E H) {k n c : Int} {b : Bool} {nms : List ByteArray} {vs : List Value} {v : Value} (h : Sh E H k n c b nms vs v) : ∃ T a, v = .iface T (ptr a) ∧ LiveH H a := by
  cases h
  case param hn h0 => exact ⟨_, _, rfl, hE.pl _ (List.mem_of_getElem? hn)⟩
  all_goals exact ⟨_, _, rfl, _, _, _, by assumption⟩

theorem Rep.live {E : Env} {H : Hp} (hE : EnvOK E H) {t : Ty} {v : Value} (h : Rep E H t v) : ∃ T a, v = .iface T (ptr a) ∧ LiveH H a := by
  cases t
  simp only [Rep] at h
  obtain ⟨vs, _, hS⟩ := h
  exact hS.live hE

theorem EnvOK.mono {E : Env} {H H' : Hp} (hh : Hp.le H H') (h : EnvOK E H) : EnvOK E H' where
  pl := fun a ha => let ⟨c, cs, T, hb⟩ := h.pl a ha; ⟨c, cs, T, hh _ _ hb⟩
  pn := h.pn
  dl := fun n a ha => let ⟨c, o, r, h1, h2⟩ := h.dl n a ha; ⟨c, o, r, h1, hh _ _ h2⟩
  dn := h.dn
  ol := fun a ha => let ⟨c, cs, T, hb⟩ := h.ol a ha; ⟨c, cs, T, hh _ _ hb⟩
  on := h.on
end Go.Proofs.YtjilnjifegeceaaGreatDoor

/-
  The parts of a type; defined types of an environment. Plain Lean.
-/
namespace Go.Proofs.YtjilnjifegeceaaGreatDoor

theorem peq_self (a : Nat) : peq (some ⟨a, 0, none⟩) (some ⟨a, 0, none⟩) = true := by simp [peq]
theorem peq_true {a b : Nat} (h : peq (some ⟨a, 0, none⟩) (some ⟨b, 0, none⟩) = true) : a = b := by
  simp only [peq, decide_eq_true_eq, Addr.mk.injEq, and_true] at h
  exact h
theorem peq_false {a b : Nat} (h : a ≠ b) : peq (some ⟨a, 0, none⟩) (some ⟨b, 0, none⟩) = false := by
  simp only [peq, decide_eq_false_iff_not, Addr.mk.injEq, and_true]
  exact h
theorem nbeq_self (T : Nat) : Nat.beq T T = true := by rw [Nat.beq_eq]


theorem RepL.get {E : Env} {H : Hp} : ∀ {es : List Ty} {vs : List Value} {i : Nat} {v : Value}, RepL E H es vs → vs[i]? = some v → ∃ e, es[i]? = some e ∧ Rep E H e v
  | [], vs, i, v, h, hv => by simp only [RepL] at h; subst h; simp at hv
  | e :: es, vs, i, v, h, hv => by
    simp only [RepL] at h
    obtain ⟨v0, vs', rfl, h1, h2⟩ := h
    cases i with
    | zero =>
      simp only [List.getElem?_cons_zero, Option.some.injEq] at hv
      subst hv
      exact ⟨e, rfl, h1⟩
    | succ i => exact RepL.get (i := i) h2 (by simpa using hv)

theorem RepL.take {E : Env} {H : Hp} : ∀ {es : List Ty} {vs : List Value} (n : Nat), RepL E H es vs → RepL E H (es.take n) (vs.take n)
  | [], vs, n, h => by simp only [RepL] at h; subst h; simp [RepL]
  | e :: es, vs, 0, _ => by simp [RepL]
  | e :: es, vs, n + 1, h => by
    simp only [RepL] at h
    obtain ⟨v0, vs', rfl, h1, h2⟩ := h
    simp only [List.take_succ_cons, RepL]
    exact ⟨_, _, rfl, h1, RepL.take n h2⟩

theorem RepL.drop {E : Env} {H : Hp} : ∀ {es : List Ty} {vs : List Value} (n : Nat), RepL E H es vs → RepL E H (es.drop n) (vs.drop n)
  | [], vs, n, h => by simp only [RepL] at h; subst h; simp [RepL]
  | e :: es, vs, 0, h => by simpa using h
  | e :: es, vs, n + 1, h => by
    simp only [RepL] at h
    obtain ⟨v0, vs', rfl, h1, h2⟩ := h
    simpa using RepL.drop n h2

theorem Ty.len_sizeL : ∀ (es : List Ty), es.length ≤ Ty.sizeL es
  | [] => Nat.le_refl _
  | e :: es => by
    have := Ty.len_sizeL es
    have : 1 ≤ Ty.size e := by cases e; simp [Ty.size]
    simp only [List.length_cons, Ty.sizeL]
    omega

theorem orig_named {E : Env} {H : Hp} (hE : EnvOK E H) {n : Nat} {d : Nat} (h : E.decls[n]? = some d) : ∃ c o r, E.objs[n]? = some o ∧ H d = some (Ob (c :: ptr o :: r) 148) ∧ LiveH H o :=
  let ⟨c, o, r, h1, h2⟩ := hE.dl n d h
  ⟨c, o, r, h1, h2, hE.ol o (List.mem_of_getElem? h1)⟩

theorem len2 {α : Type} : ∀ {l : List α}, l.length = 2 → ∃ a b, l = [a, b]
  | [a, b], _ => ⟨a, b, rfl⟩

theorem Props.mono {H H' : Hp} (hh : Hp.le H H') : Props H → Props H'
  | ⟨cs, T, fz, h1, h2⟩ => ⟨cs, T, fz, hh _ _ h1, h2⟩

theorem Ty.sizeL_take : ∀ (es : List Ty) (n : Nat), Ty.sizeL (es.take n) ≤ Ty.sizeL es
  | [], n => by simp
  | e :: es, 0 => by simp [Ty.sizeL]
  | e :: es, n + 1 => by
    have := Ty.sizeL_take es n
    simp only [List.take_succ_cons, Ty.sizeL]
    omega

theorem Ty.sizeL_drop : ∀ (es : List Ty) (n : Nat), Ty.sizeL (es.drop n) ≤ Ty.sizeL es
  | [], n => by simp
  | e :: es, 0 => by simp
  | e :: es, n + 1 => by
    have := Ty.sizeL_drop es n
    simp only [List.drop_succ_cons, Ty.sizeL]
    omega

end Go.Proofs.YtjilnjifegeceaaGreatDoor

/-
  The walk's own rules, sixth part: frames at the head of a loop.
-/
namespace Go.Proofs.YtjilnjifegeceaaGreatDoor

/-- a frame whose listed slots hold these values -/
def with_ : List (Nat × Value) → Fm → Fm
  | [], f => f
  | (d, v) :: l, f => upd (with_ l f) d v
def hasL : List (Nat × Value) → Fm → Prop
  | [], _ => True
  | (d, v) :: l, f => f d = v ∧ hasL l f
theorem upd_id (f : Fm) (d : Nat) : upd f d (f d) = f := by
  funext t
  unfold upd
  cases h : Nat.beq t d with
  | true => rw [Nat.eq_of_beq_eq_true h]; rfl
  | false => rfl
theorem with_self : ∀ {l : List (Nat × Value)} {f : Fm}, hasL l f → f = with_ l f
  | [], _, _ => rfl
  | (d, v) :: l, f, ⟨h1, h2⟩ => by
    show f = upd (with_ l f) d v
    rw [← with_self h2, ← h1, upd_id]

def intOf : Value → Int
  | .int _ n => n
  | _ => 0

theorem ia0 (b i : Nat) : (Value.pointer (some ⟨b, 0 + ((i : Nat) : Int).toNat * 1, none⟩)) = .pointer (some ⟨b, i, none⟩) := by simp
theorem wrap_i64 {n : Int} (h0 : -9223372036854775808 ≤ n) (h1 : n < 9223372036854775808) : IntKind.i64.wrap n = n := by
  simp [IntKind.wrap, IntKind.signed, IntKind.bits]
  omega
theorem succ_i64 {i len : Nat} (h : i < len) (hl : len < 9223372036854775808) : Value.int .i64 (IntKind.i64.wrap ((i : Int) + 1)) = .int .i64 ((i + 1 : Nat) : Int) := by
  rw [wrap_i64 (by omega) (by omega)]; rfl

theorem allR_true {p : Nat → Bool} {n : Nat} (h : ∀ j, j < n → p j = true) : (List.range n).all p = true := by
  simp only [List.all_eq_true, List.mem_range]; exact h
theorem allR_false {p : Nat → Bool} {n i : Nat} (hi : i < n) (h : p i = false) : (List.range n).all p = false := by
  rw [List.all_eq_false]; exact ⟨i, List.mem_range.2 hi, by simp [h]⟩

/-- a loop over 0, 1 .. len - 1 that looks: the listed slots stand, nothing is turned -/
def CountI (s0 sl : Nat) (len : Nat) (l : List (Nat × Value)) (wb : World) (J : Nat → Prop) (f : Fm) (ds : List Deferred) (w : World) : Prop :=
  ds = [] ∧ Ext No wb w ∧ ∃ (f0 : Fm) (i : Nat), f = with_ ((s0, .int .i64 (i : Int)) :: (sl, .int .i64 (len : Int)) :: l) f0 ∧ i ≤ len ∧ J i
def countM (s0 sl : Nat) (f : Fm) : Nat := (intOf (f sl) - intOf (f s0)).toNat
end Go.Proofs.YtjilnjifegeceaaGreatDoor

/-
  What lies in memory for good grows.
-/
namespace Go.Proofs.YtjilnjifegeceaaGreatDoor

def Hp.put (H : Hp) (b : Nat) (o : Obj) : Hp := fun k => if k = b then some o else H k
theorem Hp.put_same (H : Hp) (b : Nat) (o : Obj) : H.put b o b = some o := if_pos rfl
theorem Hp.put_other (H : Hp) {b k : Nat} (o : Obj) (h : k ≠ b) : H.put b o k = H k := if_neg h

theorem Agree.lt {H : Hp} {w : World} (hA : Agree H w) {b : Nat} {o : Obj} (h : H b = some o) : b < w.heap.size := (Array.getElem?_eq_some_iff.1 (hA b o h)).1

theorem Hp.le_refl (H : Hp) : Hp.le H H := fun _ _ h => h
theorem Hp.le_trans {H H' H'' : Hp} (h : Hp.le H H') (h' : Hp.le H' H'') : Hp.le H H'' := fun b o hb => h' b o (h b o hb)

/-- from the one memory to the other: what is known for good grows by blocks that are new; nothing else is turned -/
structure Grow (H : Hp) (w : World) (H' : Hp) (w' : World) : Prop where
  le : Hp.le H H'
  ag : Agree H' w'
  new : ∀ b o, H' b = some o → H b = some o ∨ w.heap.size ≤ b
  ext : Ext No w w'

theorem Grow.refl {H : Hp} {w : World} (hA : Agree H w) : Grow H w H w := ⟨Hp.le_refl H, hA, fun _ _ h => .inl h, Ext.refl _ _⟩
theorem Grow.trans {H H' H'' : Hp} {w w' w'' : World} (h : Grow H w H' w') (h' : Grow H' w' H'' w'') : Grow H w H'' w'' where
  le := Hp.le_trans h.le h'.le
  ag := h'.ag
  new := fun b o hb => by
    rcases h'.new b o hb with h1 | h1
    · exact h.new b o h1
    · exact .inr (Nat.le_trans h.ext.size h1)
  ext := h.ext.trans h'.ext
theorem Grow.quiet {H : Hp} {w w' : World} (hA : Agree H w) (he : Ext No w w') : Grow H w H w' := ⟨Hp.le_refl H, hA.ext0 he, fun _ _ h => .inl h, he⟩

theorem Grow.put {H : Hp} {w w' : World} {b : Nat} {o : Obj} (hA : Agree H w) (hn : NewB w w' b o) : Grow H w (H.put b o) w' where
  le := fun k p hk => by
    have h1 := hA.lt hk
    have h2 := hn.fresh
    rw [Hp.put_other _ _ (by omega)]
    exact hk
  ag := fun k p hk => by
    by_cases hb : k = b
    · subst hb
      rw [Hp.put_same] at hk
      rw [hn.here, hk]
    · rw [Hp.put_other _ _ hb] at hk
      exact hA.ext0 hn.ext k p hk
  new := fun k p hk => by
    by_cases hb : k = b
    · exact .inr (by rw [hb, hn.fresh]; exact Nat.le_refl _)
    · rw [Hp.put_other _ _ hb] at hk
      exact .inl hk
  ext := hn.ext
theorem Grow.ofNew {H : Hp} {w w' : World} {b : Nat} {o : Obj} (hA : Agree H w) (hn : NewB w w' b o) : ∃ H', Grow H w H' w' ∧ H' b = some o := ⟨_, Grow.put hA hn, Hp.put_same _ _ _⟩
theorem Grow.add {H H' : Hp} {w w' : World} {b : Nat} {o : Obj} (g : Grow H w H' w') (hb : w'.heap[b]? = some o) (hs : w.heap.size ≤ b) : ∃ H'', Grow H w H'' w' ∧ Hp.le H' H'' ∧ H'' b = some o := by
  have hle : Hp.le H' (H'.put b o) := fun k p hk => by
    by_cases hkb : k = b
    · subst hkb
      have := g.ag k p hk
      rw [hb] at this
      rw [Hp.put_same, this]
    · rw [Hp.put_other _ _ hkb]; exact hk
  refine ⟨H'.put b o, ⟨Hp.le_trans g.le hle, fun k p hk => ?_, fun k p hk => ?_, g.ext⟩, hle, Hp.put_same _ _ _⟩
  · by_cases hkb : k = b
    · subst hkb
      rw [Hp.put_same] at hk
      rw [hb, hk]
    · rw [Hp.put_other _ _ hkb] at hk
      exact g.ag k p hk
  · by_cases hkb : k = b
    · exact .inr (by rw [hkb]; exact hs)
    · rw [Hp.put_other _ _ hkb] at hk
      exact g.new k p hk
end Go.Proofs.YtjilnjifegeceaaGreatDoor

/-
  The input's types as they lie in memory. Plain Lean.
-/
namespace Go.Proofs.YtjilnjifegeceaaGreatDoor

/-! ### types in the input's memory -/

def HCell (H : Hp) (b i : Nat) (v : Value) : Prop := ∃ arr T fr, H b = some (.cells arr T fr) ∧ arr[i]? = some v
def HCells (H : Hp) (b o : Nat) (cs : List Value) : Prop := ∀ j v, lget cs j = some v → HCell H b (o + j) v

theorem Agree.hcell {H : Hp} {w : World} (hA : Agree H w) {b i : Nat} {v : Value} (h : HCell H b i v) : w.cell? ⟨b, i, none⟩ = some v := by
  obtain ⟨arr, T, fr, h1, h2⟩ := h
  simp [World.cell?, hA _ _ h1, h2]
theorem HCell.mono {H H' : Hp} (hh : Hp.le H H') {b i : Nat} {v : Value} : HCell H b i v → HCell H' b i v
  | ⟨arr, T, fr, h1, h2⟩ => ⟨arr, T, fr, hh _ _ h1, h2⟩
theorem HCells.mono {H H' : Hp} (hh : Hp.le H H') {b o : Nat} {cs : List Value} (h : HCells H b o cs) : HCells H' b o cs := fun j v hv => (h j v hv).mono hh

abbrev tyCells (k n c : Int) (b : Bool) (sl : Value) (nm : ByteArray) : List Value := [.int .i64 k, .int .i64 n, .int .i64 c, .bool b, sl, .string nm]
def i64ok (n : Int) : Prop := -9223372036854775808 ≤ n ∧ n < 9223372036854775808

mutual
def DTy (H : Hp) : Ty → List Value → Prop
  | .mk k n c b nm es, cs => ∃ p cap, cs = tyCells k n c b (.slice p es.length cap) nm ∧ i64ok k ∧ i64ok n ∧ i64ok c ∧ (es.length * 72 ≤ 140737488351232 ∧ es.length ≤ cap) ∧ (es = [] ∨ ∃ bk off, p = some ⟨bk, off, none⟩ ∧ DEl H es bk off)
def DEl (H : Hp) : List Ty → Nat → Nat → Prop
  | [], _, _ => True
  | e :: es, bk, off => (∃ cs, HCells H bk off cs ∧ DTy H e cs) ∧ DEl H es bk (off + 6)
end

/-- a slice of types -/
def DSl (H : Hp) (es : List Ty) (p : Option Addr) : Prop := es = [] ∨ ∃ bk off, p = some ⟨bk, off, none⟩ ∧ DEl H es bk off

theorem DEl.get {H : Hp} : ∀ {es : List Ty} {bk off i : Nat} {e : Ty}, DEl H es bk off → es[i]? = some e → ∃ cs, HCells H bk (off + i * 6) cs ∧ DTy H e cs
  | [], _, _, _, _, _, h => by simp at h
  | x :: es, bk, off, 0, e, h, he => by
    simp only [List.getElem?_cons_zero, Option.some.injEq] at he
    subst he
    simp only [DEl] at h
    simpa using h.1
  | x :: es, bk, off, i + 1, e, h, he => by
    simp only [DEl] at h
    obtain ⟨cs, h1, h2⟩ := DEl.get (i := i) h.2 (by simpa using he)
    refine ⟨cs, ?_, h2⟩
    have : off + (i + 1) * 6 = off + 6 + i * 6 := by omega
    rw [this]
    exact h1

theorem DSl.get {H : Hp} {es : List Ty} {p : Option Addr} {i : Nat} {e : Ty} (h : DSl H es p) (he : es[i]? = some e) : ∃ bk off cs, p = some ⟨bk, off, none⟩ ∧ HCells H bk (off + i * 6) cs ∧ DTy H e cs := by
  rcases h with rfl | ⟨bk, off, rfl, h⟩
  · simp at he
  · obtain ⟨cs, h1, h2⟩ := h.get he
    exact ⟨bk, off, cs, rfl, h1, h2⟩

mutual
theorem DTy.mono {H H' : Hp} (hh : Hp.le H H') : ∀ (t : Ty) (cs : List Value), DTy H t cs → DTy H' t cs
  | .mk k n c b nm es, cs, h => by
    simp only [DTy] at h ⊢
    obtain ⟨p, cap, h1, h2, h3, h4, h5, h6⟩ := h
    refine ⟨p, cap, h1, h2, h3, h4, h5, ?_⟩
    rcases h6 with h6 | ⟨bk, off, h6, h7⟩
    · exact .inl h6
    · exact .inr ⟨bk, off, h6, DEl.mono hh es bk off h7⟩
theorem DEl.mono {H H' : Hp} (hh : Hp.le H H') : ∀ (es : List Ty) (bk off : Nat), DEl H es bk off → DEl H' es bk off
  | [], _, _, _ => by simp [DEl]
  | e :: es, bk, off, h => by
    simp only [DEl] at h ⊢
    obtain ⟨⟨cs, h1, h2⟩, h3⟩ := h
    exact ⟨⟨cs, h1.mono hh, DTy.mono hh e cs h2⟩, DEl.mono hh es bk (off + 6) h3⟩
end
theorem DSl.mono {H H' : Hp} (hh : Hp.le H H') {es : List Ty} {p : Option Addr} : DSl H es p → DSl H' es p
  | .inl h => .inl h
  | .inr ⟨bk, off, h1, h2⟩ => .inr ⟨bk, off, h1, DEl.mono hh es bk off h2⟩

/-- a type's cells, laid open -/
theorem DTy.cells {H : Hp} {t : Ty} {cs : List Value} (h : DTy H t cs) : ∃ p cap, cs = tyCells t.k t.n t.c t.b (.slice p t.es.length cap) t.nm ∧ i64ok t.k ∧ i64ok t.n ∧ i64ok t.c ∧ (t.es.length * 72 ≤ 140737488351232 ∧ t.es.length ≤ cap) ∧ DSl H t.es p := by
  cases t
  simp only [DTy] at h
  exact h

/-- a new block, written once -/
theorem NewB.store {w w1 w2 : World} {b : Nat} {o o' : Obj} (h : NewB w w1 b o) (h2 : w2.heap[b]? = some o') (he : Ext (fun k => k = b) w1 w2) (hs : w2.heap.size = w1.heap.size) : NewB w w2 b o' where
  here := h2
  ext := {
    os := he.os.trans h.ext.os
    tape := he.tape.trans h.ext.tape
    output := he.output.trans h.ext.output
    size := Nat.le_trans h.ext.size he.size
    block := fun k hk hm => by
      have hf := h.fresh
      have h1 := h.ext.size
      rw [he.block k (by omega) (by omega)]
      exact h.ext.block k hk hm }
  fresh := h.fresh
  size := hs.trans h.size

theorem ia6 (b off i : Nat) : (Value.pointer (some ⟨b, off + ((i : Nat) : Int).toNat * 6, none⟩)) = .pointer (some ⟨b, off + i * 6, none⟩) := by simp

/-- declarations in the input's memory: a number of type parameters, a type -/
def DDl (H : Hp) (ds : List (Int × Ty)) (p : Option Addr) : Prop :=
  ∀ i d, ds[i]? = some d → ∃ bk off tcs, p = some ⟨bk, off, none⟩ ∧ HCells H bk (off + i * 7) (.int .i64 d.1 :: tcs) ∧ DTy H d.2 tcs ∧ i64ok d.1
theorem DDl.mono {H H' : Hp} (hh : Hp.le H H') {ds : List (Int × Ty)} {p : Option Addr} (h : DDl H ds p) : DDl H' ds p := fun i d hd =>
  let ⟨bk, off, tcs, h1, h2, h3, h4⟩ := h i d hd
  ⟨bk, off, tcs, h1, h2.mono hh, DTy.mono hh _ _ h3, h4⟩
theorem DDl.take {H : Hp} {ds : List (Int × Ty)} {p : Option Addr} (n : Nat) (h : DDl H ds p) : DDl H (ds.take n) p := fun i d hd =>
  h i d (by
    rw [List.getElem?_take] at hd
    split at hd
    · exact hd
    · cases hd)
theorem ia7 (b off i : Nat) : (Value.pointer (some ⟨b, off + ((i : Nat) : Int).toNat * 7, none⟩)) = .pointer (some ⟨b, off + i * 7, none⟩) := by simp
end Go.Proofs.YtjilnjifegeceaaGreatDoor
